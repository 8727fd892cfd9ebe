import JvmDerived
import JvmDerived.Pilot.@@N@@Statement
import JvmDerived.Pilot.@@N@@Code
set_option linter.unusedVariables false
set_option linter.unusedSimpArgs false
set_option maxRecDepth 65536
set_option maxHeartbeats 40000000
namespace Jvm.Pilot.@@N@@
open Jvm Jvm.ClassFile Sem Op Lib Jvm.Free Jvm.Stand Jvm.LawKit Jvm.RoadKit Bundle Jvm.Pilot.@@N@@.Jvm.D
abbrev un : Slot := .unset
theorem ow {Z : State} {a0 : Array Value} {d : Jvm.Cond} (hw : ∀ d ∈ tables_1, d.before a0 Z = true) (i : Nat) (h : tables_1[i]? = some d) : d.before a0 Z = true := hw d (List.mem_of_getElem? h)
section OwnGo
variable {p : Program} {l : Launch} {e : Env} {R : Room} {s : State} {m : MethodId} {args : Array Value} {below : List Frame} {meth : Method} {c : Code} {T T' : State} {locs : List Loc} {cells slots : Nat} {Q : Option Value → Heap → List Loc → Prop} {C S : Nat} {g g' : JFrame} {F : Outcome → State → Prop}
/-- from this state and frame the body comes to an end of which F holds -/
def Go (p : Program) (e : Env) (below : List Frame) (F : Outcome → State → Prop) (T : State) (g : JFrame) : Prop :=
  ∃ s₂ o, Steps p.tables e below (T.setTop g) s₂ ∧ s₂.status = .running ∧ Ended s₂ below o ∧ F o s₂
/-- it returned, Q holds, and nothing else has moved than L and so many new cells and slots -/
abbrev EndN (s : State) (Q : Option Value → Heap → List Loc → Prop) (C S : Nat) (o : Outcome) (t : State) : Prop := ∃ v L, o = .returned v ∧ Q v t.heap L ∧ FrameEnd s o t L C S
theorem Go.enter (q : g = g') (k : Go p e below F T g') : ∃ s₂ o, Steps p.tables e below (T.setTop g) s₂ ∧ s₂.status = .running ∧ Ended s₂ below o ∧ F o s₂ := by
  subst q
  exact k
theorem Go.by (h : ∀ t, Steps p.tables e below (T'.setTop g') t → Steps p.tables e below (T.setTop g) t) (k : Go p e below F T' g') : Go p e below F T g := by
  obtain ⟨s₂, o, h1, h2⟩ := k
  exact ⟨s₂, o, h _ h1, h2⟩
theorem Go.to (h : Steps p.tables e below (T.setTop g) (T'.setTop g')) (k : Go p e below F T' g') : Go p e below F T g := by
  obtain ⟨s₂, o, h1, h2⟩ := k
  exact ⟨s₂, o, h.trans h1, h2⟩
abbrev own_retKind (i : Instr) (t : FieldType) (w : Value) : Prop := (i = .ireturn ∧ (t = .int ∨ t = .boolean ∨ t = .byte ∨ t = .char ∨ t = .short) ∧ ∃ z, w = .int z) ∨ (i = .lreturn ∧ t = .long ∧ ∃ z, w = .long z) ∨ (i = .dreturn ∧ t = .double ∧ ∃ z, w = .double z) ∨ (i = .freturn ∧ t = .float ∧ ∃ z, w = .float z) ∨ (i = .areturn ∧ t.isReference = true ∧ w.isRef = true)
theorem Go.ret (X : Stand p l e R s m args below meth c T locs cells slots) (hx : p.tables.exec = Jvm.exec) (hlocks : meth.locks = false) {pc : Nat} {Ls : Array Slot} {w : Value} {t : FieldType} {i : Instr} {rest : List Value} (hret : meth.sig.returnType = some t) (hn : narrow t w = w)
    (hi : own_retKind i t w) (hd : decode c.code pc = .ok (i, 1)) (hq : Q (some w) T.heap locs) (hc : cells ≤ C) (hs : slots ≤ S) : Go p e below (EndN s Q C S) T (mkF m pc Ls (w :: rest)) := by
  obtain ⟨fs, hr, hrun, hended, hW, hsame⟩ := X.leave (v := some w) (fun h => by rw [hret] at h; cases h) hlocks
  exact ⟨_, _, retOut X hx hret hn hi hd hr, hrun, hended, _, _, rfl, hq, ⟨_, rfl⟩, hW, hsame.mono hc hs⟩
theorem Go.retI (X : Stand p l e R s m args below meth c T locs cells slots) (hx : p.tables.exec = Jvm.exec) (hlocks : meth.locks = false) {pc : Nat} {Ls : Array Slot} {w : Int32} {t : FieldType} {rest : List Value} (hret : meth.sig.returnType = some t) (hn : narrow t (.int w) = .int w)
    (ht : t = .int ∨ t = .boolean ∨ t = .byte ∨ t = .char ∨ t = .short) (hd : decode c.code pc = .ok (.ireturn, 1)) (hq : Q (some (.int w)) T.heap locs) (hc : cells ≤ C) (hs : slots ≤ S) : Go p e below (EndN s Q C S) T (mkF m pc Ls (.int w :: rest)) :=
  Go.ret X hx hlocks hret hn (Or.inl ⟨rfl, ht, _, rfl⟩) hd hq hc hs
theorem Go.retJ (X : Stand p l e R s m args below meth c T locs cells slots) (hx : p.tables.exec = Jvm.exec) (hlocks : meth.locks = false) {pc : Nat} {Ls : Array Slot} {w : Int64} {rest : List Value} (hret : meth.sig.returnType = some .long)
    (hd : decode c.code pc = .ok (.lreturn, 1)) (hq : Q (some (.long w)) T.heap locs) (hc : cells ≤ C) (hs : slots ≤ S) : Go p e below (EndN s Q C S) T (mkF m pc Ls (.long w :: rest)) :=
  Go.ret X hx hlocks hret rfl (Or.inr (Or.inl ⟨rfl, rfl, _, rfl⟩)) hd hq hc hs
theorem own_narR (t : FieldType) {w : Value} (ht : t.isReference = true) (hw : w.isRef = true) : narrow t w = w := by
  cases t <;> first | (simp [FieldType.isReference] at ht; done) | (rcases ref_cases hw with rfl | ⟨_, rfl⟩ <;> rfl)
theorem own_fitR (t : FieldType) {w : Value} (ht : t.isReference = true) (hw : w.isRef = true) : fits t w = true := by
  cases t <;> first | (simp [FieldType.isReference] at ht; done) | (rcases ref_cases hw with rfl | ⟨_, rfl⟩ <;> rfl)
theorem Go.retA (X : Stand p l e R s m args below meth c T locs cells slots) (hx : p.tables.exec = Jvm.exec) (hlocks : meth.locks = false) {pc : Nat} {Ls : Array Slot} {w : Value} {t : FieldType} {rest : List Value} (hret : meth.sig.returnType = some t) (ht : t.isReference = true) (hw : w.isRef = true)
    (hd : decode c.code pc = .ok (.areturn, 1)) (hq : Q (some w) T.heap locs) (hc : cells ≤ C) (hs : slots ≤ S) : Go p e below (EndN s Q C S) T (mkF m pc Ls (w :: rest)) :=
  Go.ret X hx hlocks hret (own_narR t ht hw) (Or.inr (Or.inr (Or.inr (Or.inr ⟨rfl, ht, hw⟩)))) hd hq hc hs
theorem Go.retV (X : Stand p l e R s m args below meth c T locs cells slots) (hx : p.tables.exec = Jvm.exec) (hlocks : meth.locks = false) {pc : Nat} {Ls : Array Slot} (hret : meth.sig.returnType = none)
    (hd : decode c.code pc = .ok (.return_, 1)) (hq : Q none T.heap locs) (hc : cells ≤ C) (hs : slots ≤ S) : Go p e below (EndN s Q C S) T (mkF m pc Ls []) := by
  obtain ⟨fs, hr, hrun, hended, hW, hsame⟩ := X.leave (v := none) (fun _ => rfl) hlocks
  exact ⟨_, _, X.returnOut hx hret hd hr, hrun, hended, _, _, rfl, hq, ⟨_, rfl⟩, hW, hsame.mono hc hs⟩
/-- two or more roads that meet: what comes behind is shown once, for every x that P allows -/
theorem Go.join {α : Type} {P : α → Prop} {fr : α → JFrame} (h : ∀ x, P x → Go p e below F T (fr x)) (k : (∀ x, P x → Go p e below F T (fr x)) → Go p e below F T g) : Go p e below F T g := k h
def own_at (X : Stand p l e R s m args below meth c T locs cells slots) (h : Heap) (T' : State) : Prop := Stand p l e R s m args below meth c T' locs cells slots ∧ T'.heap = h
theorem Go.joinT {α : Type} {St : State → Prop} {P : α → Prop} {fr : α → JFrame} (h : ∀ T', St T' → ∀ x, P x → Go p e below F T' (fr x)) (k : (∀ T', St T' → ∀ x, P x → Go p e below F T' (fr x)) → Go p e below F T g) : Go p e below F T g := k h
end OwnGo
theorem own_pop2 {tb : Tables} [Ours tb] {e : Env} {below : List Frame} {T target : State} {m : MethodId} {c : Code} {g : JFrame} (h : At T m c below) (hx : tb.exec = Jvm.exec) (hg : g.method = m) {x : Int64} {rest : List Value} (hd : decode c.code g.pc = .ok (.pop2, 1)) (hs : g.stack = .long x :: rest)
    (hr : Steps tb e below (T.setTop { g with pc := g.pc + 1, stack := rest }) target) : Steps tb e below (T.setTop g) target := by
  subst hg
  jvm_step h [h.top, hx, hd, hs, Value.category]
  exact hr
section OwnSteps
variable {p : Program} {l : Launch} {e : Env} {R : Room} {s : State} {m : MethodId} {args : Array Value} {below : List Frame} {meth : Method} {c : Code} {T : State} {locs : List Loc} {cells slots : Nat} {F : Outcome → State → Prop}
theorem Go.iload1 (q : Nat) (X : Stand p l e R s m args below meth c T locs cells slots) (hx : p.tables.exec = Jvm.exec) {pc : Nat} {Ls : Array Slot} {k : Fin 4} {v : Int32} {St : List Value} (hd : decode c.code pc = .ok (.iload_n k, 1)) (hl : Ls[k.val]? = some (.val (.int v))) (hq : pc + 1 = q) (K : Go p e below F T (mkF m q Ls (.int v :: St))) : Go p e below F T (mkF m pc Ls St) := by
  subst hq
  exact Go.by (fun _ gk => XS.iloadN X.here hx rfl hd hl gk) K
theorem Go.iload2 (q : Nat) (X : Stand p l e R s m args below meth c T locs cells slots) (hx : p.tables.exec = Jvm.exec) {pc : Nat} {Ls : Array Slot} {k : Nat} {v : Int32} {St : List Value} (hd : decode c.code pc = .ok (.iload k, 2)) (hl : Ls[k]? = some (.val (.int v))) (hq : pc + 2 = q) (K : Go p e below F T (mkF m q Ls (.int v :: St))) : Go p e below F T (mkF m pc Ls St) := by
  subst hq
  exact Go.by (fun _ gk => XS.iload X.here hx rfl hd hl gk) K
theorem Go.istore1 (q : Nat) (X : Stand p l e R s m args below meth c T locs cells slots) (hx : p.tables.exec = Jvm.exec) {pc : Nat} {Ls : Array Slot} {k : Fin 4} {x : Int32} {St : List Value} {L' : Array Slot} (hd : decode c.code pc = .ok (.istore_n k, 1)) (hl : storeLocals Ls k.val (.int x) = some L') (hq : pc + 1 = q) (K : Go p e below F T (mkF m q L' St)) : Go p e below F T (mkF m pc Ls (.int x :: St)) := by
  subst hq
  exact Go.by (fun _ gk => XS.istoreN X.here hx rfl hd rfl hl gk) K
theorem Go.istore2 (q : Nat) (X : Stand p l e R s m args below meth c T locs cells slots) (hx : p.tables.exec = Jvm.exec) {pc : Nat} {Ls : Array Slot} {k : Nat} {x : Int32} {St : List Value} {L' : Array Slot} (hd : decode c.code pc = .ok (.istore k, 2)) (hl : storeLocals Ls k (.int x) = some L') (hq : pc + 2 = q) (K : Go p e below F T (mkF m q L' St)) : Go p e below F T (mkF m pc Ls (.int x :: St)) := by
  subst hq
  exact Go.by (fun _ gk => XS.istore X.here hx rfl hd rfl hl gk) K
theorem Go.lload1 (q : Nat) (X : Stand p l e R s m args below meth c T locs cells slots) (hx : p.tables.exec = Jvm.exec) {pc : Nat} {Ls : Array Slot} {k : Fin 4} {v : Int64} {St : List Value} (hd : decode c.code pc = .ok (.lload_n k, 1)) (hl : Ls[k.val]? = some (.val (.long v))) (hq : pc + 1 = q) (K : Go p e below F T (mkF m q Ls (.long v :: St))) : Go p e below F T (mkF m pc Ls St) := by
  subst hq
  exact Go.by (fun _ gk => XT.lloadN X.here hx rfl hd hl gk) K
theorem Go.lload2 (q : Nat) (X : Stand p l e R s m args below meth c T locs cells slots) (hx : p.tables.exec = Jvm.exec) {pc : Nat} {Ls : Array Slot} {k : Nat} {v : Int64} {St : List Value} (hd : decode c.code pc = .ok (.lload k, 2)) (hl : Ls[k]? = some (.val (.long v))) (hq : pc + 2 = q) (K : Go p e below F T (mkF m q Ls (.long v :: St))) : Go p e below F T (mkF m pc Ls St) := by
  subst hq
  exact Go.by (fun _ gk => XT.lload X.here hx rfl hd hl gk) K
theorem Go.lstore1 (q : Nat) (X : Stand p l e R s m args below meth c T locs cells slots) (hx : p.tables.exec = Jvm.exec) {pc : Nat} {Ls : Array Slot} {k : Fin 4} {x : Int64} {St : List Value} {L' : Array Slot} (hd : decode c.code pc = .ok (.lstore_n k, 1)) (hl : storeLocals Ls k.val (.long x) = some L') (hq : pc + 1 = q) (K : Go p e below F T (mkF m q L' St)) : Go p e below F T (mkF m pc Ls (.long x :: St)) := by
  subst hq
  exact Go.by (fun _ gk => XT.lstoreN X.here hx rfl hd rfl hl gk) K
theorem Go.lstore2 (q : Nat) (X : Stand p l e R s m args below meth c T locs cells slots) (hx : p.tables.exec = Jvm.exec) {pc : Nat} {Ls : Array Slot} {k : Nat} {x : Int64} {St : List Value} {L' : Array Slot} (hd : decode c.code pc = .ok (.lstore k, 2)) (hl : storeLocals Ls k (.long x) = some L') (hq : pc + 2 = q) (K : Go p e below F T (mkF m q L' St)) : Go p e below F T (mkF m pc Ls (.long x :: St)) := by
  subst hq
  exact Go.by (fun _ gk => XT.lstore X.here hx rfl hd rfl hl gk) K
theorem Go.aload1 (q : Nat) (X : Stand p l e R s m args below meth c T locs cells slots) (hx : p.tables.exec = Jvm.exec) {pc : Nat} {Ls : Array Slot} {k : Fin 4} {v : Value} {St : List Value} (hd : decode c.code pc = .ok (.aload_n k, 1)) (hl : Ls[k.val]? = some (.val v)) (hv : v.isRef = true) (hq : pc + 1 = q) (K : Go p e below F T (mkF m q Ls (v :: St))) : Go p e below F T (mkF m pc Ls St) := by
  subst hq
  exact Go.by (fun _ gk => XS.aloadN X.here hx rfl hd hl hv gk) K
theorem Go.aload2 (q : Nat) (X : Stand p l e R s m args below meth c T locs cells slots) (hx : p.tables.exec = Jvm.exec) {pc : Nat} {Ls : Array Slot} {k : Nat} {v : Value} {St : List Value} (hd : decode c.code pc = .ok (.aload k, 2)) (hl : Ls[k]? = some (.val v)) (hv : v.isRef = true) (hq : pc + 2 = q) (K : Go p e below F T (mkF m q Ls (v :: St))) : Go p e below F T (mkF m pc Ls St) := by
  subst hq
  exact Go.by (fun _ gk => XS.aload X.here hx rfl hd hl hv gk) K
theorem Go.astore1 (q : Nat) (X : Stand p l e R s m args below meth c T locs cells slots) (hx : p.tables.exec = Jvm.exec) {pc : Nat} {Ls : Array Slot} {k : Fin 4} {x : Value} {St : List Value} {L' : Array Slot} (hd : decode c.code pc = .ok (.astore_n k, 1)) (hv : x.isRef = true) (hl : storeLocals Ls k.val x = some L') (hq : pc + 1 = q) (K : Go p e below F T (mkF m q L' St)) : Go p e below F T (mkF m pc Ls (x :: St)) := by
  subst hq
  exact Go.by (fun _ gk => XS.astoreN X.here hx rfl hd rfl hv hl gk) K
theorem Go.astore2 (q : Nat) (X : Stand p l e R s m args below meth c T locs cells slots) (hx : p.tables.exec = Jvm.exec) {pc : Nat} {Ls : Array Slot} {k : Nat} {x : Value} {St : List Value} {L' : Array Slot} (hd : decode c.code pc = .ok (.astore k, 2)) (hv : x.isRef = true) (hl : storeLocals Ls k x = some L') (hq : pc + 2 = q) (K : Go p e below F T (mkF m q L' St)) : Go p e below F T (mkF m pc Ls (x :: St)) := by
  subst hq
  exact Go.by (fun _ gk => XS.astore X.here hx rfl hd rfl hv hl gk) K
theorem Go.iconst (q : Nat) (X : Stand p l e R s m args below meth c T locs cells slots) (hx : p.tables.exec = Jvm.exec) {pc : Nat} {Ls : Array Slot} {i : Int} (v : Int32) {St : List Value} (hd : decode c.code pc = .ok (.iconst i, 1)) (hv : Int32.ofInt i = v) (hq : pc + 1 = q) (K : Go p e below F T (mkF m q Ls (.int v :: St))) : Go p e below F T (mkF m pc Ls St) := by
  subst hq
  exact Go.by (fun _ gk => XT.iconstV X.here hx rfl v hd hv gk) K
theorem Go.bipush (q : Nat) (X : Stand p l e R s m args below meth c T locs cells slots) (hx : p.tables.exec = Jvm.exec) {pc : Nat} {Ls : Array Slot} {i : Int} (v : Int32) {St : List Value} (hd : decode c.code pc = .ok (.bipush i, 2)) (hv : (Int8.ofInt i).toInt32 = v) (hq : pc + 2 = q) (K : Go p e below F T (mkF m q Ls (.int v :: St))) : Go p e below F T (mkF m pc Ls St) := by
  subst hq
  exact Go.by (fun _ gk => XT.bipushV X.here hx rfl v hd hv gk) K
theorem Go.sipush (q : Nat) (X : Stand p l e R s m args below meth c T locs cells slots) (hx : p.tables.exec = Jvm.exec) {pc : Nat} {Ls : Array Slot} {i : Int} (v : Int32) {St : List Value} (hd : decode c.code pc = .ok (.sipush i, 3)) (hv : (Int16.ofInt i).toInt32 = v) (hq : pc + 3 = q) (K : Go p e below F T (mkF m q Ls (.int v :: St))) : Go p e below F T (mkF m pc Ls St) := by
  subst hq
  exact Go.by (fun _ gk => XT.sipushV X.here hx rfl v hd hv gk) K
theorem Go.lconst (q : Nat) (X : Stand p l e R s m args below meth c T locs cells slots) (hx : p.tables.exec = Jvm.exec) {pc : Nat} {Ls : Array Slot} {k : Fin 2} (v : Int64) {St : List Value} (hd : decode c.code pc = .ok (.lconst k, 1)) (hv : Int64.ofNat k = v) (hq : pc + 1 = q) (K : Go p e below F T (mkF m q Ls (.long v :: St))) : Go p e below F T (mkF m pc Ls St) := by
  subst hq
  exact Go.by (fun _ gk => XT.lconstV X.here hx rfl v hd hv gk) K
theorem Go.aconst_null (q : Nat) (X : Stand p l e R s m args below meth c T locs cells slots) (hx : p.tables.exec = Jvm.exec) {pc : Nat} {Ls : Array Slot} {St : List Value} (hd : decode c.code pc = .ok (.aconst_null, 1)) (hq : pc + 1 = q) (K : Go p e below F T (mkF m q Ls (.null :: St))) : Go p e below F T (mkF m pc Ls St) := by
  subst hq
  exact Go.by (fun _ gk => XS.aconstNull X.here hx rfl hd gk) K
theorem Go.iadd (q : Nat) (X : Stand p l e R s m args below meth c T locs cells slots) (hx : p.tables.exec = Jvm.exec) {pc : Nat} {Ls : Array Slot} {x y : Int32} {St : List Value} (hd : decode c.code pc = .ok (.iadd, 1)) (hq : pc + 1 = q) (K : Go p e below F T (mkF m q Ls (.int (x + y) :: St))) : Go p e below F T (mkF m pc Ls (.int y :: .int x :: St)) := by
  subst hq
  exact Go.by (fun _ gk => XS.iadd X.here hx rfl hd rfl gk) K
theorem Go.isub (q : Nat) (X : Stand p l e R s m args below meth c T locs cells slots) (hx : p.tables.exec = Jvm.exec) {pc : Nat} {Ls : Array Slot} {x y : Int32} {St : List Value} (hd : decode c.code pc = .ok (.isub, 1)) (hq : pc + 1 = q) (K : Go p e below F T (mkF m q Ls (.int (x - y) :: St))) : Go p e below F T (mkF m pc Ls (.int y :: .int x :: St)) := by
  subst hq
  exact Go.by (fun _ gk => XS.isub X.here hx rfl hd rfl gk) K
theorem Go.imul (q : Nat) (X : Stand p l e R s m args below meth c T locs cells slots) (hx : p.tables.exec = Jvm.exec) {pc : Nat} {Ls : Array Slot} {x y : Int32} {St : List Value} (hd : decode c.code pc = .ok (.imul, 1)) (hq : pc + 1 = q) (K : Go p e below F T (mkF m q Ls (.int (x * y) :: St))) : Go p e below F T (mkF m pc Ls (.int y :: .int x :: St)) := by
  subst hq
  exact Go.by (fun _ gk => XS.imul X.here hx rfl hd rfl gk) K
theorem Go.iand (q : Nat) (X : Stand p l e R s m args below meth c T locs cells slots) (hx : p.tables.exec = Jvm.exec) {pc : Nat} {Ls : Array Slot} {x y : Int32} {St : List Value} (hd : decode c.code pc = .ok (.iand, 1)) (hq : pc + 1 = q) (K : Go p e below F T (mkF m q Ls (.int (x &&& y) :: St))) : Go p e below F T (mkF m pc Ls (.int y :: .int x :: St)) := by
  subst hq
  exact Go.by (fun _ gk => XS.iand X.here hx rfl hd rfl gk) K
theorem Go.ior (q : Nat) (X : Stand p l e R s m args below meth c T locs cells slots) (hx : p.tables.exec = Jvm.exec) {pc : Nat} {Ls : Array Slot} {x y : Int32} {St : List Value} (hd : decode c.code pc = .ok (.ior, 1)) (hq : pc + 1 = q) (K : Go p e below F T (mkF m q Ls (.int (x ||| y) :: St))) : Go p e below F T (mkF m pc Ls (.int y :: .int x :: St)) := by
  subst hq
  exact Go.by (fun _ gk => XT.ior X.here hx rfl hd rfl gk) K
theorem Go.ixor (q : Nat) (X : Stand p l e R s m args below meth c T locs cells slots) (hx : p.tables.exec = Jvm.exec) {pc : Nat} {Ls : Array Slot} {x y : Int32} {St : List Value} (hd : decode c.code pc = .ok (.ixor, 1)) (hq : pc + 1 = q) (K : Go p e below F T (mkF m q Ls (.int (x ^^^ y) :: St))) : Go p e below F T (mkF m pc Ls (.int y :: .int x :: St)) := by
  subst hq
  exact Go.by (fun _ gk => XT.ixor X.here hx rfl hd rfl gk) K
theorem Go.ishl (q : Nat) (X : Stand p l e R s m args below meth c T locs cells slots) (hx : p.tables.exec = Jvm.exec) {pc : Nat} {Ls : Array Slot} {x y : Int32} {St : List Value} (hd : decode c.code pc = .ok (.ishl, 1)) (hq : pc + 1 = q) (K : Go p e below F T (mkF m q Ls (.int (x <<< (y &&& 31)) :: St))) : Go p e below F T (mkF m pc Ls (.int y :: .int x :: St)) := by
  subst hq
  exact Go.by (fun _ gk => XT.ishl X.here hx rfl hd rfl gk) K
theorem Go.ishr (q : Nat) (X : Stand p l e R s m args below meth c T locs cells slots) (hx : p.tables.exec = Jvm.exec) {pc : Nat} {Ls : Array Slot} {x y : Int32} {St : List Value} (hd : decode c.code pc = .ok (.ishr, 1)) (hq : pc + 1 = q) (K : Go p e below F T (mkF m q Ls (.int (x >>> (y &&& 31)) :: St))) : Go p e below F T (mkF m pc Ls (.int y :: .int x :: St)) := by
  subst hq
  exact Go.by (fun _ gk => XT.ishr X.here hx rfl hd rfl gk) K
theorem Go.iushr (q : Nat) (X : Stand p l e R s m args below meth c T locs cells slots) (hx : p.tables.exec = Jvm.exec) {pc : Nat} {Ls : Array Slot} {x y : Int32} {St : List Value} (hd : decode c.code pc = .ok (.iushr, 1)) (hq : pc + 1 = q) (K : Go p e below F T (mkF m q Ls (.int (XT.ushr x y) :: St))) : Go p e below F T (mkF m pc Ls (.int y :: .int x :: St)) := by
  subst hq
  exact Go.by (fun _ gk => XT.iushr X.here hx rfl hd rfl gk) K
theorem Go.ladd (q : Nat) (X : Stand p l e R s m args below meth c T locs cells slots) (hx : p.tables.exec = Jvm.exec) {pc : Nat} {Ls : Array Slot} {x y : Int64} {St : List Value} (hd : decode c.code pc = .ok (.ladd, 1)) (hq : pc + 1 = q) (K : Go p e below F T (mkF m q Ls (.long (x + y) :: St))) : Go p e below F T (mkF m pc Ls (.long y :: .long x :: St)) := by
  subst hq
  exact Go.by (fun _ gk => XT.ladd X.here hx rfl hd rfl gk) K
theorem Go.lsub (q : Nat) (X : Stand p l e R s m args below meth c T locs cells slots) (hx : p.tables.exec = Jvm.exec) {pc : Nat} {Ls : Array Slot} {x y : Int64} {St : List Value} (hd : decode c.code pc = .ok (.lsub, 1)) (hq : pc + 1 = q) (K : Go p e below F T (mkF m q Ls (.long (x - y) :: St))) : Go p e below F T (mkF m pc Ls (.long y :: .long x :: St)) := by
  subst hq
  exact Go.by (fun _ gk => XT.lsub X.here hx rfl hd rfl gk) K
theorem Go.lmul (q : Nat) (X : Stand p l e R s m args below meth c T locs cells slots) (hx : p.tables.exec = Jvm.exec) {pc : Nat} {Ls : Array Slot} {x y : Int64} {St : List Value} (hd : decode c.code pc = .ok (.lmul, 1)) (hq : pc + 1 = q) (K : Go p e below F T (mkF m q Ls (.long (x * y) :: St))) : Go p e below F T (mkF m pc Ls (.long y :: .long x :: St)) := by
  subst hq
  exact Go.by (fun _ gk => XT.lmul X.here hx rfl hd rfl gk) K
theorem Go.land (q : Nat) (X : Stand p l e R s m args below meth c T locs cells slots) (hx : p.tables.exec = Jvm.exec) {pc : Nat} {Ls : Array Slot} {x y : Int64} {St : List Value} (hd : decode c.code pc = .ok (.land, 1)) (hq : pc + 1 = q) (K : Go p e below F T (mkF m q Ls (.long (x &&& y) :: St))) : Go p e below F T (mkF m pc Ls (.long y :: .long x :: St)) := by
  subst hq
  exact Go.by (fun _ gk => XT.land X.here hx rfl hd rfl gk) K
theorem Go.lor (q : Nat) (X : Stand p l e R s m args below meth c T locs cells slots) (hx : p.tables.exec = Jvm.exec) {pc : Nat} {Ls : Array Slot} {x y : Int64} {St : List Value} (hd : decode c.code pc = .ok (.lor, 1)) (hq : pc + 1 = q) (K : Go p e below F T (mkF m q Ls (.long (x ||| y) :: St))) : Go p e below F T (mkF m pc Ls (.long y :: .long x :: St)) := by
  subst hq
  exact Go.by (fun _ gk => XT.lor X.here hx rfl hd rfl gk) K
theorem Go.lxor (q : Nat) (X : Stand p l e R s m args below meth c T locs cells slots) (hx : p.tables.exec = Jvm.exec) {pc : Nat} {Ls : Array Slot} {x y : Int64} {St : List Value} (hd : decode c.code pc = .ok (.lxor, 1)) (hq : pc + 1 = q) (K : Go p e below F T (mkF m q Ls (.long (x ^^^ y) :: St))) : Go p e below F T (mkF m pc Ls (.long y :: .long x :: St)) := by
  subst hq
  exact Go.by (fun _ gk => XT.lxor X.here hx rfl hd rfl gk) K
theorem Go.lshl (q : Nat) (X : Stand p l e R s m args below meth c T locs cells slots) (hx : p.tables.exec = Jvm.exec) {pc : Nat} {Ls : Array Slot} {x : Int64} {y : Int32} {St : List Value} (hd : decode c.code pc = .ok (.lshl, 1)) (hq : pc + 1 = q) (K : Go p e below F T (mkF m q Ls (.long (x <<< (y.toInt64 &&& 63)) :: St))) : Go p e below F T (mkF m pc Ls (.int y :: .long x :: St)) := by
  subst hq
  exact Go.by (fun _ gk => XT.lshl X.here hx rfl hd rfl gk) K
theorem Go.lshr (q : Nat) (X : Stand p l e R s m args below meth c T locs cells slots) (hx : p.tables.exec = Jvm.exec) {pc : Nat} {Ls : Array Slot} {x : Int64} {y : Int32} {St : List Value} (hd : decode c.code pc = .ok (.lshr, 1)) (hq : pc + 1 = q) (K : Go p e below F T (mkF m q Ls (.long (x >>> (y.toInt64 &&& 63)) :: St))) : Go p e below F T (mkF m pc Ls (.int y :: .long x :: St)) := by
  subst hq
  exact Go.by (fun _ gk => XT.lshr X.here hx rfl hd rfl gk) K
theorem Go.lushr (q : Nat) (X : Stand p l e R s m args below meth c T locs cells slots) (hx : p.tables.exec = Jvm.exec) {pc : Nat} {Ls : Array Slot} {x : Int64} {y : Int32} {St : List Value} (hd : decode c.code pc = .ok (.lushr, 1)) (hq : pc + 1 = q) (K : Go p e below F T (mkF m q Ls (.long (XT.ushrL x y) :: St))) : Go p e below F T (mkF m pc Ls (.int y :: .long x :: St)) := by
  subst hq
  exact Go.by (fun _ gk => XT.lushr X.here hx rfl hd rfl gk) K
theorem Go.idiv (q : Nat) (X : Stand p l e R s m args below meth c T locs cells slots) (hx : p.tables.exec = Jvm.exec) {pc : Nat} {Ls : Array Slot} {x y : Int32} {St : List Value} (hd : decode c.code pc = .ok (.idiv, 1)) (hy : y ≠ 0) (hq : pc + 1 = q) (K : Go p e below F T (mkF m q Ls (.int (x / y) :: St))) : Go p e below F T (mkF m pc Ls (.int y :: .int x :: St)) := by
  subst hq
  exact Go.by (fun _ gk => XS.idiv X.here hx rfl hd rfl hy gk) K
theorem Go.irem (q : Nat) (X : Stand p l e R s m args below meth c T locs cells slots) (hx : p.tables.exec = Jvm.exec) {pc : Nat} {Ls : Array Slot} {x y : Int32} {St : List Value} (hd : decode c.code pc = .ok (.irem, 1)) (hy : y ≠ 0) (hq : pc + 1 = q) (K : Go p e below F T (mkF m q Ls (.int (x - (x / y) * y) :: St))) : Go p e below F T (mkF m pc Ls (.int y :: .int x :: St)) := by
  subst hq
  exact Go.by (fun _ gk => XS.irem X.here hx rfl hd rfl hy gk) K
theorem Go.ldiv (q : Nat) (X : Stand p l e R s m args below meth c T locs cells slots) (hx : p.tables.exec = Jvm.exec) {pc : Nat} {Ls : Array Slot} {x y : Int64} {St : List Value} (hd : decode c.code pc = .ok (.ldiv, 1)) (hy : y ≠ 0) (hq : pc + 1 = q) (K : Go p e below F T (mkF m q Ls (.long (x / y) :: St))) : Go p e below F T (mkF m pc Ls (.long y :: .long x :: St)) := by
  subst hq
  exact Go.by (fun _ gk => XT.ldiv X.here hx rfl hd rfl hy gk) K
theorem Go.lrem (q : Nat) (X : Stand p l e R s m args below meth c T locs cells slots) (hx : p.tables.exec = Jvm.exec) {pc : Nat} {Ls : Array Slot} {x y : Int64} {St : List Value} (hd : decode c.code pc = .ok (.lrem, 1)) (hy : y ≠ 0) (hq : pc + 1 = q) (K : Go p e below F T (mkF m q Ls (.long (x - (x / y) * y) :: St))) : Go p e below F T (mkF m pc Ls (.long y :: .long x :: St)) := by
  subst hq
  exact Go.by (fun _ gk => XT.lrem X.here hx rfl hd rfl hy gk) K
theorem Go.ineg (q : Nat) (X : Stand p l e R s m args below meth c T locs cells slots) (hx : p.tables.exec = Jvm.exec) {pc : Nat} {Ls : Array Slot} {x : Int32} {St : List Value} (hd : decode c.code pc = .ok (.ineg, 1)) (hq : pc + 1 = q) (K : Go p e below F T (mkF m q Ls (.int (-x) :: St))) : Go p e below F T (mkF m pc Ls (.int x :: St)) := by
  subst hq
  exact Go.by (fun _ gk => XS.ineg X.here hx rfl hd rfl gk) K
theorem Go.lneg (q : Nat) (X : Stand p l e R s m args below meth c T locs cells slots) (hx : p.tables.exec = Jvm.exec) {pc : Nat} {Ls : Array Slot} {x : Int64} {St : List Value} (hd : decode c.code pc = .ok (.lneg, 1)) (hq : pc + 1 = q) (K : Go p e below F T (mkF m q Ls (.long (-x) :: St))) : Go p e below F T (mkF m pc Ls (.long x :: St)) := by
  subst hq
  exact Go.by (fun _ gk => XT.lneg X.here hx rfl hd rfl gk) K
theorem Go.i2l (q : Nat) (X : Stand p l e R s m args below meth c T locs cells slots) (hx : p.tables.exec = Jvm.exec) {pc : Nat} {Ls : Array Slot} {x : Int32} {St : List Value} (hd : decode c.code pc = .ok (.i2l, 1)) (hq : pc + 1 = q) (K : Go p e below F T (mkF m q Ls (.long (x.toInt64) :: St))) : Go p e below F T (mkF m pc Ls (.int x :: St)) := by
  subst hq
  exact Go.by (fun _ gk => XT.i2l X.here hx rfl hd rfl gk) K
theorem Go.l2i (q : Nat) (X : Stand p l e R s m args below meth c T locs cells slots) (hx : p.tables.exec = Jvm.exec) {pc : Nat} {Ls : Array Slot} {x : Int64} {St : List Value} (hd : decode c.code pc = .ok (.l2i, 1)) (hq : pc + 1 = q) (K : Go p e below F T (mkF m q Ls (.int (x.toInt32) :: St))) : Go p e below F T (mkF m pc Ls (.long x :: St)) := by
  subst hq
  exact Go.by (fun _ gk => XT.l2i X.here hx rfl hd rfl gk) K
theorem Go.i2b (q : Nat) (X : Stand p l e R s m args below meth c T locs cells slots) (hx : p.tables.exec = Jvm.exec) {pc : Nat} {Ls : Array Slot} {x : Int32} {St : List Value} (hd : decode c.code pc = .ok (.i2b, 1)) (hq : pc + 1 = q) (K : Go p e below F T (mkF m q Ls (.int (x.toInt8.toInt32) :: St))) : Go p e below F T (mkF m pc Ls (.int x :: St)) := by
  subst hq
  exact Go.by (fun _ gk => XT.i2b X.here hx rfl hd rfl gk) K
theorem Go.i2s (q : Nat) (X : Stand p l e R s m args below meth c T locs cells slots) (hx : p.tables.exec = Jvm.exec) {pc : Nat} {Ls : Array Slot} {x : Int32} {St : List Value} (hd : decode c.code pc = .ok (.i2s, 1)) (hq : pc + 1 = q) (K : Go p e below F T (mkF m q Ls (.int (x.toInt16.toInt32) :: St))) : Go p e below F T (mkF m pc Ls (.int x :: St)) := by
  subst hq
  exact Go.by (fun _ gk => XT.i2s X.here hx rfl hd rfl gk) K
theorem Go.i2c (q : Nat) (X : Stand p l e R s m args below meth c T locs cells slots) (hx : p.tables.exec = Jvm.exec) {pc : Nat} {Ls : Array Slot} {x : Int32} {St : List Value} (hd : decode c.code pc = .ok (.i2c, 1)) (hq : pc + 1 = q) (K : Go p e below F T (mkF m q Ls (.int (x.toUInt32.toUInt16.toUInt32.toInt32) :: St))) : Go p e below F T (mkF m pc Ls (.int x :: St)) := by
  subst hq
  exact Go.by (fun _ gk => XT.i2c X.here hx rfl hd rfl gk) K
theorem Go.lcmp (q : Nat) (X : Stand p l e R s m args below meth c T locs cells slots) (hx : p.tables.exec = Jvm.exec) {pc : Nat} {Ls : Array Slot} {x y : Int64} {St : List Value} (hd : decode c.code pc = .ok (.lcmp, 1)) (hq : pc + 1 = q) (K : Go p e below F T (mkF m q Ls (.int (XT.cmpL x y) :: St))) : Go p e below F T (mkF m pc Ls (.long y :: .long x :: St)) := by
  subst hq
  exact Go.by (fun _ gk => XT.lcmp X.here hx rfl hd rfl gk) K
theorem Go.dup (q : Nat) (X : Stand p l e R s m args below meth c T locs cells slots) (hx : p.tables.exec = Jvm.exec) {pc : Nat} {Ls : Array Slot} {x : Value} {St : List Value} (hd : decode c.code pc = .ok (.dup, 1)) (hc : x.category = 1) (hq : pc + 1 = q) (K : Go p e below F T (mkF m q Ls (x :: x :: St))) : Go p e below F T (mkF m pc Ls (x :: St)) := by
  subst hq
  exact Go.by (fun _ gk => XS.dup X.here hx rfl hd rfl hc gk) K
theorem Go.pop (q : Nat) (X : Stand p l e R s m args below meth c T locs cells slots) (hx : p.tables.exec = Jvm.exec) {pc : Nat} {Ls : Array Slot} {x : Value} {St : List Value} (hd : decode c.code pc = .ok (.pop, 1)) (hc : x.category = 1) (hq : pc + 1 = q) (K : Go p e below F T (mkF m q Ls St)) : Go p e below F T (mkF m pc Ls (x :: St)) := by
  subst hq
  exact Go.by (fun _ gk => XT.pop X.here hx rfl hd rfl hc gk) K
theorem Go.pop2L (q : Nat) (X : Stand p l e R s m args below meth c T locs cells slots) (hx : p.tables.exec = Jvm.exec) {pc : Nat} {Ls : Array Slot} {x : Int64} {St : List Value} (hd : decode c.code pc = .ok (.pop2, 1)) (hq : pc + 1 = q) (K : Go p e below F T (mkF m q Ls St)) : Go p e below F T (mkF m pc Ls (.long x :: St)) := by
  subst hq
  exact Go.by (fun _ gk => own_pop2 X.here hx rfl hd rfl gk) K
theorem Go.dup_x1 (q : Nat) (X : Stand p l e R s m args below meth c T locs cells slots) (hx : p.tables.exec = Jvm.exec) {pc : Nat} {Ls : Array Slot} {x y : Value} {St : List Value} (hd : decode c.code pc = .ok (.dup_x1, 1)) (hc : x.category = 1) (hc' : y.category = 1) (hq : pc + 1 = q) (K : Go p e below F T (mkF m q Ls (x :: y :: x :: St))) : Go p e below F T (mkF m pc Ls (x :: y :: St)) := by
  subst hq
  exact Go.by (fun _ gk => XT.dupX1 X.here hx rfl hd rfl hc hc' gk) K
theorem Go.dup2 (q : Nat) (X : Stand p l e R s m args below meth c T locs cells slots) (hx : p.tables.exec = Jvm.exec) {pc : Nat} {Ls : Array Slot} {x y : Value} {St : List Value} (hd : decode c.code pc = .ok (.dup2, 1)) (hc : x.category = 1) (hc' : y.category = 1) (hq : pc + 1 = q) (K : Go p e below F T (mkF m q Ls (x :: y :: x :: y :: St))) : Go p e below F T (mkF m pc Ls (x :: y :: St)) := by
  subst hq
  exact Go.by (fun _ gk => XT.dup2 X.here hx rfl hd rfl hc hc' gk) K
theorem Go.dup2L (q : Nat) (X : Stand p l e R s m args below meth c T locs cells slots) (hx : p.tables.exec = Jvm.exec) {pc : Nat} {Ls : Array Slot} {x : Int64} {St : List Value} (hd : decode c.code pc = .ok (.dup2, 1)) (hq : pc + 1 = q) (K : Go p e below F T (mkF m q Ls (.long x :: .long x :: St))) : Go p e below F T (mkF m pc Ls (.long x :: St)) := by
  subst hq
  exact Go.by (fun _ gk => XT.dup2L X.here hx rfl hd rfl gk) K
theorem Go.iinc (q : Nat) (X : Stand p l e R s m args below meth c T locs cells slots) (hx : p.tables.exec = Jvm.exec) {pc : Nat} {Ls : Array Slot} {k : Nat} {cst : Int} {x : Int32} (v : Int32) {St : List Value} {L' : Array Slot} (hd : decode c.code pc = .ok (.iinc k cst, 3)) (hv : Int32.ofInt cst = v) (hl : Ls[k]? = some (.val (.int x))) (hl' : storeLocals Ls k (.int (x + v)) = some L') (hq : pc + 3 = q) (K : Go p e below F T (mkF m q L' St)) : Go p e below F T (mkF m pc Ls St) := by
  subst hq
  exact Go.by (fun _ gk => XT.iincV X.here hx rfl v hd hv hl hl' gk) K
theorem Go.goto (q : Nat) (X : Stand p l e R s m args below meth c T locs cells slots) (hx : p.tables.exec = Jvm.exec) {pc : Nat} {Ls : Array Slot} {o : Int} {St : List Value} (hd : decode c.code pc = .ok (.goto o, 3)) (ho : 0 ≤ (pc : Int) + o) (hq : ((pc : Int) + o).toNat = q) (K : Go p e below F T (mkF m q Ls St)) : Go p e below F T (mkF m pc Ls St) :=
  Go.by (fun _ gk => XS.goto X.here hx rfl rfl hd ho hq gk) K
theorem Go.ifY (q : Nat) (X : Stand p l e R s m args below meth c T locs cells slots) (hx : p.tables.exec = Jvm.exec) {pc : Nat} {Ls : Array Slot} {cd : ClassFile.Cond} {x : Int32} {o : Int} {St : List Value} (hd : decode c.code pc = .ok (.ifCond cd o, 3)) (hc : ifCond.holds cd x = true) (ho : 0 ≤ (pc : Int) + o) (hq : ((pc : Int) + o).toNat = q) (K : Go p e below F T (mkF m q Ls St)) : Go p e below F T (mkF m pc Ls (.int x :: St)) :=
  Go.by (fun _ gk => XS.ifYes X.here hx rfl rfl hd rfl hc ho hq gk) K
theorem Go.ifN (q : Nat) (X : Stand p l e R s m args below meth c T locs cells slots) (hx : p.tables.exec = Jvm.exec) {pc : Nat} {Ls : Array Slot} {cd : ClassFile.Cond} {x : Int32} {o : Int} {St : List Value} (hd : decode c.code pc = .ok (.ifCond cd o, 3)) (hc : ifCond.holds cd x = false) (hq : pc + 3 = q) (K : Go p e below F T (mkF m q Ls St)) : Go p e below F T (mkF m pc Ls (.int x :: St)) := by
  subst hq
  exact Go.by (fun _ gk => XS.ifNo X.here hx rfl hd rfl hc gk) K
theorem Go.icmpY (q : Nat) (X : Stand p l e R s m args below meth c T locs cells slots) (hx : p.tables.exec = Jvm.exec) {pc : Nat} {Ls : Array Slot} {cd : ClassFile.Cond} {x y : Int32} {o : Int} {St : List Value} (hd : decode c.code pc = .ok (.if_icmp cd o, 3)) (hc : if_icmp.holds cd x y = true) (ho : 0 ≤ (pc : Int) + o) (hq : ((pc : Int) + o).toNat = q) (K : Go p e below F T (mkF m q Ls St)) : Go p e below F T (mkF m pc Ls (.int y :: .int x :: St)) :=
  Go.by (fun _ gk => XS.icmpYes X.here hx rfl rfl hd rfl hc ho hq gk) K
theorem Go.icmpN (q : Nat) (X : Stand p l e R s m args below meth c T locs cells slots) (hx : p.tables.exec = Jvm.exec) {pc : Nat} {Ls : Array Slot} {cd : ClassFile.Cond} {x y : Int32} {o : Int} {St : List Value} (hd : decode c.code pc = .ok (.if_icmp cd o, 3)) (hc : if_icmp.holds cd x y = false) (hq : pc + 3 = q) (K : Go p e below F T (mkF m q Ls St)) : Go p e below F T (mkF m pc Ls (.int y :: .int x :: St)) := by
  subst hq
  exact Go.by (fun _ gk => XS.icmpNo X.here hx rfl hd rfl hc gk) K
end OwnSteps
section OwnThrift
variable {l : Launch} {Z : State} {ws : List Jvm.Cond} {y : MethodName} {code : ByteArray} {ml : Nat} {rt : Option FieldType} {R : Room} {as : Array Value} {h0 : Heap} {Q : Option Value → Heap → List Loc → Prop}
/-- the form of the narrow contracts -/
abbrev MetN (l : Launch) (Z : State) (ws : List Jvm.Cond) (y : MethodName) (code : ByteArray) (ml : Nat) (rt : Option FieldType) (R : Room) (as : Array Value) (h0 : Heap) (Q : Option Value → Heap → List Loc → Prop) : Prop :=
  MetFree l y (head1 (Jvm.Cond.code y code ml rt :: ws) R) (fun as' U => as' = as ∧ Z.Warmed39 U.vm ∧ U.heap = h0) (fun _ _ _ _ _ => True) (fun _ U o U' => ∃ v L, o = .returned v ∧ Q v U'.heap L ∧ FrameEnd U o U' L R.cells R.slots)
theorem MetN.go (hp : plainFor y = true) (n0 : Nat) (H : ∀ (p : Program) (e : Env) (s : State) (m : MethodId) (below : List Frame) (meth : Method) (c : Code) (s₁ : State), BodyLoose p l y (head1 (Jvm.Cond.code y code ml rt :: ws) R) code ml rt e s m as below meth c s₁ →
    p.tables.exec = Jvm.exec → c.code = code → c.maxLocals = ml → Z.Warmed39 s.vm → s.heap = h0 → s.vm.findClass y.cls = some m.cls → meth.name = y.name → Stand p l e R s m as below meth c s₁ [] 0 0 → s₁.heap = h0 → Fr n0 [] →
    Go p e below (EndN s Q R.cells R.slots) s₁ (entryFrame m as ml)) : MetN l Z ws y code ml rt R as h0 Q := by
  refine MetFree.of_bodySF hp hisR ?_
  intro p e s m args below meth c s₁ Bd hml hP hK
  obtain ⟨rfl, hZ, hh⟩ := hP
  exact H p e s m below meth c s₁ Bd Bd.exec Bd.bytes hml hZ hh (findClass_of_methodNamed Bd.named) (name_of_methodNamed Bd.named Bd.method).1 (Stand.of_body Bd) (by rw [← hh, Bd.state]; rfl) (Fr.nil n0)
theorem Go.ent {p : Program} {e : Env} {below : List Frame} {F : Outcome → State → Prop} {T : State} {g g' : JFrame} (q : g = g') (k : Go p e below F T g') : Go p e below F T g := by
  subst q
  exact k
end OwnThrift

section OwnWide
variable {p : Program} {l : Launch} {e : Env} {R : Room} {s : State} {m : MethodId} {args : Array Value} {below : List Frame} {meth : Method} {c : Code} {T T' : State} {locs : List Loc} {cells slots : Nat} {Q : Option Value → Heap → List Loc → Prop} {C S n : Nat} {Z : State} {a0 : Array Value} {EL : List (String × Nat)} {vm : Vm} {h : Heap}
/-- it returned, Q holds, the held literals go on, and nothing else has moved than L, so many new cells and slots, and literals interned -/
abbrev EndW (Z : State) (EL : List (String × Nat)) (s : State) (Q : Option Value → Heap → List Loc → Prop) (C S : Nat) (o : Outcome) (t : State) : Prop := ∃ v L, o = .returned v ∧ Q v t.heap L ∧ CHr Z EL s.vm s.heap t.vm t.heap ∧ ReturnedEndW s o t L C S
theorem Go.retW (X : Stand p l e R (s.setVm vm) m args below meth c T locs cells slots) (hx : p.tables.exec = Jvm.exec) (hlocks : meth.locks = false) (hS : s.Since vm n) (hk : n ≤ T.heap.size) (hZ : Z.Warmed39 vm) (hEL : EW Z a0 EL) (hCH : CHr Z EL s.vm s.heap vm T.heap) {pc : Nat} {Ls : Array Slot} {w : Value} {t : FieldType} {i : Instr} {rest : List Value}
    (hret : meth.sig.returnType = some t) (hn : narrow t w = w) (hi : own_retKind i t w) (hd : decode c.code pc = .ok (i, 1)) (hq : Q (some w) T.heap locs) (hc : cells ≤ C) (hs : slots ≤ S) : Go p e below (EndW Z EL s Q C S) T (mkF m pc Ls (w :: rest)) := by
  obtain ⟨fs, hr, hrun, hended, h1, h2, h3, h4⟩ := X.leaveW hS hk (v := some w) (fun h => by rw [hret] at h; cases h) hlocks
  have hA : CHr Z EL s.vm s.heap T.vm T.heap := hCH.trans (CHv.at X hZ hEL hCH.1)
  exact ⟨_, _, retOut X hx hret hn hi hd hr, hrun, hended, _, _, rfl, hq, hA, h1, h2, h3, h4.mono hc hs⟩
theorem Go.retIW (X : Stand p l e R (s.setVm vm) m args below meth c T locs cells slots) (hx : p.tables.exec = Jvm.exec) (hlocks : meth.locks = false) (hS : s.Since vm n) (hk : n ≤ T.heap.size) (hZ : Z.Warmed39 vm) (hEL : EW Z a0 EL) (hCH : CHr Z EL s.vm s.heap vm T.heap) {pc : Nat} {Ls : Array Slot} {w : Int32} {t : FieldType} {rest : List Value}
    (hret : meth.sig.returnType = some t) (hn : narrow t (.int w) = .int w) (ht : t = .int ∨ t = .boolean ∨ t = .byte ∨ t = .char ∨ t = .short) (hd : decode c.code pc = .ok (.ireturn, 1)) (hq : Q (some (.int w)) T.heap locs) (hc : cells ≤ C) (hs : slots ≤ S) : Go p e below (EndW Z EL s Q C S) T (mkF m pc Ls (.int w :: rest)) :=
  Go.retW X hx hlocks hS hk hZ hEL hCH hret hn (Or.inl ⟨rfl, ht, _, rfl⟩) hd hq hc hs
theorem Go.retAW (X : Stand p l e R (s.setVm vm) m args below meth c T locs cells slots) (hx : p.tables.exec = Jvm.exec) (hlocks : meth.locks = false) (hS : s.Since vm n) (hk : n ≤ T.heap.size) (hZ : Z.Warmed39 vm) (hEL : EW Z a0 EL) (hCH : CHr Z EL s.vm s.heap vm T.heap) {pc : Nat} {Ls : Array Slot} {w : Value} {t : FieldType} {rest : List Value}
    (hret : meth.sig.returnType = some t) (ht : t.isReference = true) (hw : w.isRef = true) (hd : decode c.code pc = .ok (.areturn, 1)) (hq : Q (some w) T.heap locs) (hc : cells ≤ C) (hs : slots ≤ S) : Go p e below (EndW Z EL s Q C S) T (mkF m pc Ls (w :: rest)) :=
  Go.retW X hx hlocks hS hk hZ hEL hCH hret (own_narR t ht hw) (Or.inr (Or.inr (Or.inr (Or.inr ⟨rfl, ht, hw⟩)))) hd hq hc hs
theorem Go.retVW (X : Stand p l e R (s.setVm vm) m args below meth c T locs cells slots) (hx : p.tables.exec = Jvm.exec) (hlocks : meth.locks = false) (hS : s.Since vm n) (hk : n ≤ T.heap.size) (hZ : Z.Warmed39 vm) (hEL : EW Z a0 EL) (hCH : CHr Z EL s.vm s.heap vm T.heap) {pc : Nat} {Ls : Array Slot}
    (hret : meth.sig.returnType = none) (hd : decode c.code pc = .ok (.return_, 1)) (hq : Q none T.heap locs) (hc : cells ≤ C) (hs : slots ≤ S) : Go p e below (EndW Z EL s Q C S) T (mkF m pc Ls []) := by
  obtain ⟨fs, hr, hrun, hended, h1, h2, h3, h4⟩ := X.leaveW hS hk (v := none) (fun _ => rfl) hlocks
  have hA : CHr Z EL s.vm s.heap T.vm T.heap := hCH.trans (CHv.at X hZ hEL hCH.1)
  exact ⟨_, _, X.returnOut hx hret hd hr, hrun, hended, _, _, rfl, hq, hA, h1, h2, h3, h4.mono hc hs⟩
end OwnWide
open Jvm.Free.SB Jvm.Free.SBG in
/-- a String whose value is still null is no held literal -/
theorem own_safe {Z : State} {vm : Vm} {EL : List (String × Nat)} {h : Heap} {x : Addr} (hal : Z.vm.Alike vm) (E : Exa Z h x "java/lang/String") (F : Fld Z h x "java/lang/String" "value" "[B" .null) : Safe Z EL vm h x := fun B => by
  obtain ⟨p, -, u, a, -, q, -, G, rfl | rfl⟩ := B
  · obtain ⟨cell, cf, k, i, f, h1, h2, h3, h4, h5, h6, h7⟩ := F
    cases (show h[q.sa]? = some q.sC from G.ha).symm.trans h1
    obtain ⟨cS, ⟨⟨s1, s2, s3, ⟨cv, kv, iv, s4, s4'⟩, -, s6, s7, s8, -⟩, -, -⟩, -⟩ := G
    obtain ⟨kv', z4⟩ := ff_back (Z := Z) (U := Wst Z vm h) hal s4
    cases h2.symm.trans z4
    cases h7.symm.trans s8
  · obtain ⟨cell, k, e1, e2, e3, -, -⟩ := E
    cases (show h[q.sd]? = some q.SA from G.hd).symm.trans e1
    obtain ⟨cS, -, -, f, -⟩ := G
    have f' : Z.vm.findClass "[B" = some q.SA.cls := by rw [← hal.findClass]; exact f
    exact ids_ne e2 f' (by decide) rfl

abbrev own_EL : List (String × Nat) := [("com/example/entries_to_nodes/entriestonodes/component/ServerAddress", 61), ("com/example/entries_to_nodes/entriestonodes/component/ServerAddress", 67), ("com/example/entries_to_nodes/entriestonodes/component/ServerAddress", 76)]
theorem own_EW {Z : State} {a0 : Array Value} (hw : ∀ d ∈ tables_1, d.before a0 Z = true) : EW Z a0 own_EL := (EW.cons (ow hw 115 rfl) (by decide) (EW.cons (ow hw 158 rfl) (by decide) (EW.cons (ow hw 76 rfl) (by decide) EW.nil)))
theorem own_SA {Z : State} {a0 : Array Value} (hw : ∀ d ∈ tables_1, d.before a0 Z = true) : ∀ a ∈ Bundle.stringAtoms, a.before a0 Z = true := fun d hd => hw d ((by decide +kernel : ∀ d ∈ Bundle.stringAtoms, d ∈ tables_1) d hd)
theorem own_len {args : Array Value} {s : State} {t : Term} {a : Addr} {c : Cell} {z : Int32} (ev : t.eval args s none [] s = some (.ref a)) (A : s.arrayAt? a = some c) (h : (Term.length t).eval args s none [] s = some (.int z)) : c.slots.size < 2 ^ 31 ∧ c.slots.size.toInt32 = z := by
  simp only [Term.eval, ev, A, Option.bind_eq_bind, Option.bind_some] at h
  by_cases q : c.slots.size < 2 ^ 31
  · refine ⟨q, ?_⟩
    simpa [q] using h
  · simp [q] at h
theorem own_static {args : Array Value} {s : State} {C n d : String} {v : Value} (h : (Term.static C n d).eval args s none [] s = some v) : ∀ idx, (Term.static C n d).eval args s none idx s = some v := fun idx => by
  simpa [Term.eval] using h
theorem own_valI {Z : State} {args : Array Value} (X : Term) (j : Int32) (hj : ¬ j < 0) (h : (Jvm.Cond.eq X (Term.sub (Term.index 0) (Term.int 128))).value args Z none Z [j.toNatClampNeg] = some true) : X.eval args Z none [j.toNatClampNeg] Z = some (.int (j - 128)) := by
  refine eqv_i ?_ h
  have h1 : (Term.index 0).eval args Z none [j.toNatClampNeg] Z = some (.int j) := idx_at hj
  simp only [Term.eval] at h1 ⊢
  rw [h1]
  rfl
theorem own_boxin {x : Int32} (h1 : ¬ x < -128) (h2 : ¬ (127 : Int32) < x) : ¬ (x + 128) < 0 ∧ (x + 128) < 256 := by
  rw [Int32.lt_iff_toInt_lt] at h1 h2 ⊢
  rw [Int32.lt_iff_toInt_lt]
  have h := c_iadd x 128
  have r := rng32 (x + 128)
  have r2 := rng32 x
  have l1 : (-128 : Int32).toInt = -128 := by decide
  have l2 : (127 : Int32).toInt = 127 := by decide
  have l3 : (128 : Int32).toInt = 128 := by decide
  have l4 : (256 : Int32).toInt = 256 := by decide
  have l5 : (0 : Int32).toInt = 0 := by decide
  omega
theorem own_valJ {Z : State} {args : Array Value} (X : Term) (j : Int32) (hj : ¬ j < 0) (h : (Jvm.Cond.eq X (Term.op1 .i2l (Term.sub (Term.index 0) (Term.int 128)))).value args Z none Z [j.toNatClampNeg] = some true) : X.eval args Z none [j.toNatClampNeg] Z = some (.long (j - 128).toInt64) := by
  refine eqv_l (i2l_at ?_) h
  have h1 : (Term.index 0).eval args Z none [j.toNatClampNeg] Z = some (.int j) := idx_at hj
  simp only [Term.eval] at h1 ⊢
  rw [h1]
  rfl
theorem own_boxinJ {x : Int64} (h1 : ¬ x < -128) (h2 : ¬ (127 : Int64) < x) : ¬ (x.toInt32 + 128) < 0 ∧ (x.toInt32 + 128) < 256 := by
  rw [Int64.lt_iff_toInt_lt] at h1 h2
  rw [Int32.lt_iff_toInt_lt, Int32.lt_iff_toInt_lt]
  have h := c_iadd x.toInt32 128
  have r := rng32 (x.toInt32 + 128)
  have r2 := rng32 x.toInt32
  have r3 := c_l2i x
  have l1 : (-128 : Int64).toInt = -128 := by decide
  have l2 : (127 : Int64).toInt = 127 := by decide
  have l3 : (128 : Int32).toInt = 128 := by decide
  have l4 : (256 : Int32).toInt = 256 := by decide
  have l5 : (0 : Int32).toInt = 0 := by decide
  omega

theorem own_masked (x : Int32) : ¬ (x &&& 2147483647) < 0 := by
  have h := (c_and x (2147483647 : Int32) (by decide)).1
  rw [XT.negI32]
  omega
theorem own_irem (x y : Int32) : x - x / y * y = x % y := irem_eq_mod x y
theorem own_rem {x d k : Int32} (n : Nat) (hx : ¬ x < 0) (hd : d.toInt = n) (hn : 0 < n) (hk : k = x - x / d * d) : ∃ j : Nat, j < n ∧ k = Int32.ofNat j := by
  rw [own_irem] at hk
  rw [XT.negI32] at hx
  have h1 := (c_irem x d n hd).1 (by omega)
  have h2 := Int.emod_nonneg x.toInt (b := (n : Int)) (by omega)
  have h3 := Int.emod_lt_of_pos x.toInt (b := (n : Int)) (by omega)
  refine ⟨k.toInt.toNat, by rw [hk, h1]; omega, ?_⟩
  apply Int32.toInt_inj.mp
  have h4 := rng32 k
  rw [← hk] at h1
  rw [Int32.toInt_ofNat_of_lt (by omega)]
  omega

theorem x_ladd {x y : Int64} (h1 : -9223372036854775808 ≤ x.toInt + y.toInt) (h2 : x.toInt + y.toInt ≤ 9223372036854775807) : (x + y).toInt = x.toInt + y.toInt := by
  have a := c_ladd x y
  have r := rng64 (x + y)
  omega
theorem x_lsub {x y : Int64} (h1 : -9223372036854775808 ≤ x.toInt - y.toInt) (h2 : x.toInt - y.toInt ≤ 9223372036854775807) : (x - y).toInt = x.toInt - y.toInt := by
  have a := c_lsub x y
  have r := rng64 (x - y)
  omega
theorem x_lneg {x : Int64} (h1 : -9223372036854775807 ≤ x.toInt) : (-x).toInt = -x.toInt := by
  have a := c_lneg x
  have r := rng64 (-x)
  have r2 := rng64 x
  omega
theorem x_lmulL {x y : Int64} (k : Int) (hk : x.toInt = k) (h1 : -9223372036854775808 ≤ k * y.toInt) (h2 : k * y.toInt ≤ 9223372036854775807) : (x * y).toInt = k * y.toInt := by
  have a := c_lmul x y
  rw [hk] at a
  have r := rng64 (x * y)
  generalize k * y.toInt = p at *
  omega
theorem x_lmulR {x y : Int64} (k : Int) (hk : y.toInt = k) (h1 : -9223372036854775808 ≤ x.toInt * k) (h2 : x.toInt * k ≤ 9223372036854775807) : (x * y).toInt = x.toInt * k := by
  have a := c_lmul x y
  rw [hk] at a
  have r := rng64 (x * y)
  generalize x.toInt * k = p at *
  omega
theorem x_iadd {x y : Int32} (h1 : -2147483648 ≤ x.toInt + y.toInt) (h2 : x.toInt + y.toInt ≤ 2147483647) : (x + y).toInt = x.toInt + y.toInt := by
  have a := c_iadd x y
  have r := rng32 (x + y)
  omega
theorem x_isub {x y : Int32} (h1 : -2147483648 ≤ x.toInt - y.toInt) (h2 : x.toInt - y.toInt ≤ 2147483647) : (x - y).toInt = x.toInt - y.toInt := by
  have a := c_isub x y
  have r := rng32 (x - y)
  omega
theorem x_imulL {x y : Int32} (k : Int) (hk : x.toInt = k) (h1 : -2147483648 ≤ k * y.toInt) (h2 : k * y.toInt ≤ 2147483647) : (x * y).toInt = k * y.toInt := by
  have a := c_imul x y
  rw [hk] at a
  have r := rng32 (x * y)
  generalize k * y.toInt = p at *
  omega
theorem x_imulR {x y : Int32} (k : Int) (hk : y.toInt = k) (h1 : -2147483648 ≤ x.toInt * k) (h2 : x.toInt * k ≤ 2147483647) : (x * y).toInt = x.toInt * k := by
  have a := c_imul x y
  rw [hk] at a
  have r := rng32 (x * y)
  generalize x.toInt * k = p at *
  omega
theorem x_idiv {x y : Int32} (k : Int) (hk : y.toInt = k) (hm : y ≠ -1) : (0 ≤ x.toInt → (x / y).toInt = x.toInt / k) ∧ (x.toInt < 0 → (x / y).toInt = -((-x.toInt) / k)) := c_idiv x y k hk hm
theorem x_irem {x y : Int32} (k : Int) (hk : y.toInt = k) : (0 ≤ x.toInt → (x - x / y * y).toInt = x.toInt % k) ∧ (x.toInt < 0 → (x - x / y * y).toInt = -((-x.toInt) % k)) := by
  rw [own_irem]
  exact c_irem x y k hk
theorem x_ldiv {x y : Int64} (k : Int) (hk : y.toInt = k) (hm : y ≠ -1) : (0 ≤ x.toInt → (x / y).toInt = x.toInt / k) ∧ (x.toInt < 0 → (x / y).toInt = -((-x.toInt) / k)) := c_ldiv x y k hk hm
theorem x_ldivN {x y : Int64} (k : Int) (h0 : 0 < k) (hk : y.toInt = -k) (hm : y ≠ -1) : (0 ≤ x.toInt → (x / y).toInt = -(x.toInt / k)) ∧ (x.toInt < 0 → (x / y).toInt = (-x.toInt) / k) := c_ldivN x y k h0 hk hm
theorem x_lrem {x y : Int64} (k : Int) (hk : y.toInt = k) : (0 ≤ x.toInt → (x - x / y * y).toInt = x.toInt % k) ∧ (x.toInt < 0 → (x - x / y * y).toInt = -((-x.toInt) % k)) := c_lrem x y k hk
theorem x_l2i {x : Int64} (h1 : -2147483648 ≤ x.toInt) (h2 : x.toInt ≤ 2147483647) : x.toInt32.toInt = x.toInt := by
  have a := c_l2i x
  have r := rng32 x.toInt32
  omega
theorem o_lt64 {x y : Int64} (h : x < y) : x.toInt < y.toInt := Int64.lt_iff_toInt_lt.mp h
theorem o_nlt64 {x y : Int64} (h : ¬ x < y) : ¬ x.toInt < y.toInt := fun q => h (Int64.lt_iff_toInt_lt.mpr q)
theorem o_eq64 {x y : Int64} (h : x = y) : x.toInt = y.toInt := congrArg _ h
theorem o_neq64 {x y : Int64} (h : ¬ x = y) : ¬ x.toInt = y.toInt := fun q => h (Int64.toInt_inj.mp q)
theorem o_lt32 {x y : Int32} (h : x < y) : x.toInt < y.toInt := Int32.lt_iff_toInt_lt.mp h
theorem o_nlt32 {x y : Int32} (h : ¬ x < y) : ¬ x.toInt < y.toInt := fun q => h (Int32.lt_iff_toInt_lt.mpr q)
theorem o_eq32 {x y : Int32} (h : x = y) : x.toInt = y.toInt := congrArg _ h
theorem o_neq32 {x y : Int32} (h : ¬ x = y) : ¬ x.toInt = y.toInt := fun q => h (Int32.toInt_inj.mp q)
theorem u_lt64 {x y : Int64} (h : x.toInt < y.toInt) : x < y := Int64.lt_iff_toInt_lt.mpr h
theorem u_nlt64 {x y : Int64} (h : ¬ x.toInt < y.toInt) : ¬ x < y := fun q => h (Int64.lt_iff_toInt_lt.mp q)
theorem u_eq64 {x y : Int64} (h : x.toInt = y.toInt) : x = y := Int64.toInt_inj.mp h
theorem u_neq64 {x y : Int64} (h : ¬ x.toInt = y.toInt) : ¬ x = y := fun q => h (congrArg _ q)
theorem u_lt32 {x y : Int32} (h : x.toInt < y.toInt) : x < y := Int32.lt_iff_toInt_lt.mpr h
theorem u_nlt32 {x y : Int32} (h : ¬ x.toInt < y.toInt) : ¬ x < y := fun q => h (Int32.lt_iff_toInt_lt.mp q)
theorem u_eq32 {x y : Int32} (h : x.toInt = y.toInt) : x = y := Int32.toInt_inj.mp h
theorem u_neq32 {x y : Int32} (h : ¬ x.toInt = y.toInt) : ¬ x = y := fun q => h (congrArg _ q)
theorem own_i2s {x : Int32} (h : 0 ≤ x.toInt ∧ x.toInt ≤ 127) : x.toInt16.toInt32 = x := by
  have a := c_i2s x
  apply Int32.toInt_inj.mp
  omega
theorem own_nars {x : Int32} (h : 0 ≤ x.toInt ∧ x.toInt ≤ 127) : narrow .short (.int x) = .int x := congrArg Value.int (own_i2s h)
theorem own_fits {x : Int32} (h : 0 ≤ x.toInt ∧ x.toInt ≤ 127) : fits .short (.int x) = true := by
  have q := fits_nar_short x
  rw [show nar .short x = x from own_i2s h] at q
  exact q
theorem x_ldivP {x y : Int64} (k : Int) (hk : y.toInt = k) (hm : y ≠ -1) (h : x.toInt ≤ 0) : (x / y).toInt = -((-x.toInt) / k) := by
  have a := c_ldiv x y k hk hm
  by_cases q : x.toInt < 0
  · exact a.2 q
  · have e : x.toInt = 0 := by omega
    rw [a.1 (by omega), e]
    simp

/-- a char's low byte, signed -/
def own_b (c : Int32) : Int32 := c.toInt8.toInt32
theorem own_bn (c : Int32) : nar .byte c.toInt8.toInt32 = own_b c := by
  show c.toInt8.toInt32.toInt8.toInt32 = c.toInt8.toInt32
  simp
theorem own_b_inj {c d : Int32} (h1 : ¬ c < 0) (h2 : ¬ (255 : Int32) < c) (h3 : ¬ d < 0) (h4 : ¬ (255 : Int32) < d) (h : own_b c = own_b d) : c = d := by
  have e1 := c_i2b c
  have e2 := c_i2b d
  have e3 : c.toInt8.toInt32.toInt = d.toInt8.toInt32.toInt := congrArg Int32.toInt h
  rw [Int32.lt_iff_toInt_lt] at h1 h2 h3 h4
  simp at h1 h2 h3 h4
  apply Int32.toInt_inj.mp
  omega
theorem own_nc (x : Int32) : nar .char (x &&& 255) = x &&& 255 := i2c_mask x
theorem own_255 (x : Int32) : ¬ (255 : Int32) < x &&& 255 := by
  have h := c_and x (255 : Int32) (by decide)
  rw [Int32.lt_iff_toInt_lt]
  have : (255 : Int32).toInt = 255 := by decide
  omega
theorem own_0 (x : Int32) : ¬ (x &&& 255) < 0 := by
  have h := c_and x (255 : Int32) (by decide)
  rw [XT.negI32]
  omega

theorem own_fld_same {Z : State} {h : Heap} {a : Addr} {C n d : String} {v w : Value} (F : Fld Z h a C n d v) (G : Fld Z h a C n d w) : v = w :=
  Classical.byContradiction fun q => Fld.ne F G q rfl
theorem own_arv_same {Z : State} {h : Heap} {a : Addr} {k k' : ClassId} {ty ty' : FieldType} {z z' : Int32} {vs ws : List Value} {d d' : Value} (A : Arv Z h a k ty z vs d) (B : Arv Z h a k' ty' z' ws d') (i : Nat) (hi : i < z.toNatClampNeg) : vs.getD i d = ws.getD i d' := by
  obtain ⟨c1, a1, -, s1, -, h1, -⟩ := A
  obtain ⟨c2, b1, -, s2, -, h2, -⟩ := B
  cases a1.1.symm.trans b1.1
  exact Option.some.inj ((h1 i (by omega)).symm.trans (h2 i (by omega)))
theorem own_str_ne {Z : State} {h : Heap} {a b av bv : Addr} {ka kb : ClassId} {n m : Int32} {vs ws : List Value} {C f d : String} (F : Fld Z h a C f d (.ref av)) (G : Fld Z h b C f d (.ref bv)) (A : Arv Z h av ka .byte n vs (.int 0)) (B : Arv Z h bv kb .byte m ws (.int 0)) (hn : n.toNatClampNeg ≠ m.toNatClampNeg) : a ≠ b := by
  rintro rfl
  have e := Value.ref.inj (own_fld_same F G)
  exact arv_ne A B (Or.inl hn) e
theorem own_ncb {t : Int32} (h1 : ¬ t < 0) (h2 : ¬ (255 : Int32) < t) : nar .char t = t := by
  have e : t = t &&& 255 := by
    apply Int32.toInt_inj.mp
    have := c_mask t 255 8 (by decide) (by decide)
    rw [Int32.lt_iff_toInt_lt] at h1 h2
    have l0 : (0 : Int32).toInt = 0 := by decide
    have l1 : (255 : Int32).toInt = 255 := by decide
    rw [this]
    omega
  rw [e]
  exact i2c_mask t

section OwnCopy
open Jvm.Free.XT
def own_put (N : Nat) (ws : List Value) (q n : Nat) (vs : List Value) (o : Nat) : List Value := (List.range N).map fun j => if q ≤ j ∧ j < q + n then vs.getD (o + (j - q)) (.int 0) else ws.getD j (.int 0)
theorem own_putD {N : Nat} {ws vs : List Value} {q n o j : Nat} (h : j < N) : (own_put N ws q n vs o).getD j (.int 0) = if q ≤ j ∧ j < q + n then vs.getD (o + (j - q)) (.int 0) else ws.getD j (.int 0) := by
  unfold own_put
  simp [List.getD_eq_getElem?_getD, h]
theorem own_copyFr {k : Nat} {L : List Loc} {b : Addr} {q n : Nat} (N : Fr k L) (h : k ≤ b) : Fr k (L ++ copyLocs b q n) := N.app fun y hy => by
  simp only [copyLocs, List.mem_map] at hy
  obtain ⟨_, -, rfl⟩ := hy
  exact h
theorem own_acopy {p : Program} {l : Launch} {e : Env} {R : Room} {s : State} {m : MethodId} {args : Array Value} {below : List Frame} {meth : Method} {c : Code} {T : State} {locs : List Loc} {cells slots : Nat} {Z : State} {a0 : Array Value} {h : Heap}
    (X : Stand p l e R s m args below meth c T locs cells slots) (hx : p.tables.exec = Jvm.exec) (hZ : Z.Warmed39 s.vm) {own : String} {index : Nat} (hown : s.vm.findClass own = some m.cls)
    (w1 : (Cond.methodLink own index acN).before a0 Z = true) (w2 : (Cond.native acN).before a0 Z = true) (w3 : (Cond.static acN).before a0 Z = true) (w4 : (Cond.initialized "java/lang/System").before a0 Z = true) (eT : T.heap = h)
    {a b : Addr} {ka kb : ClassId} {za zb : Int32} {vs ws : List Value} (A : Arv Z h a ka .byte za vs (.int 0)) (B : Arv Z h b kb .byte zb ws (.int 0)) (o q n : Nat) {jo jq jn : Int32} (ho : jo = Int32.ofNat o) (hq : jq = Int32.ofNat q) (hn : jn = Int32.ofNat n)
    (h4 : o + n ≤ za.toNatClampNeg) (h5 : q + n ≤ zb.toNatClampNeg)
    {g : JFrame} (hg : g.method = m) (hsize : g.locals.size = c.maxLocals) {rest : List Value} (hstack : g.stack = .int jn :: .int jq :: .ref b :: .int jo :: .ref a :: rest) (hdg : decode c.code g.pc = .ok (.invokestatic index, 3))
    {W : Nat} (hW : 2 * g.monitorRoom + (rest.map fun v => v.category).sum ≤ W) (hfr : 1 ≤ R.frames) (hlo : W + 40 ≤ R.locals) :
    ∃ (T' : State) (h' : Heap), Stand p l e R s m args below meth c T' (locs ++ copyLocs b q n) cells slots ∧ T'.heap = h' ∧ Keep h h' [b] ∧ Arv Z h' b kb .byte zb (own_put zb.toNatClampNeg ws q n vs o) (.int 0) ∧ ∀ target, Steps p.tables e below (T'.setTop { g with pc := g.pc + 3, stack := rest }) target → Steps p.tables e below (T.setTop g) target := by
  obtain ⟨cA, A1, A2, A3, A4, A5, A6⟩ := A
  obtain ⟨cB, B1, B2, B3, B4, B5, B6⟩ := B
  subst eT
  have hal : Z.vm.Alike T.vm := hZ.alike.trans X.warmed.alike
  have sz : ∀ z : Int32, z.toNatClampNeg < 2 ^ 31 := fun z => by
    have := rng32 z
    show z.toInt.toNat < 2 ^ 31
    omega
  have gA : ∀ i, i < cA.slots.size → cA.slots.getD i .null = vs.getD i (.int 0) := fun i hi => by
    have := A5 i hi
    simp [Array.getD_eq_getD_getElem?, this]
  obtain ⟨T', B', X', P, p1, p2, p3, p4, st⟩ := X.acopy hx hown (fun w hw' => by
      simp only [acW, List.mem_cons, List.not_mem_nil, or_false] at hw'
      rcases hw' with rfl | rfl | rfl | rfl
      · exact mv hZ w1
      · exact mv hZ w2
      · exact mv hZ w3
      · exact mv hZ w4) (ts := .byte) (t := .byte) (a := a) (b := b) (A := cA) (B := cB) ⟨A1.1, State.isArrayOf_alike hal A1.2.1, A1.2.2, by rw [A3]; exact sz _⟩ ⟨B1.1, State.isArrayOf_alike hal B1.2.1, B1.2.2, by rw [B3]; exact sz _⟩ (by decide) ho hq hn (by omega) (by omega)
      (fun i hi => ⟨by rw [gA _ (by omega)]; exact A6 _ (by omega), fun q => by cases q⟩) hg hsize hstack hdg hW hfr hlo
  refine ⟨T', _, X', rfl, ⟨by rw [P.2.2]; exact Nat.le_refl _, fun x c hc hn' => ?_, fun x c hc => ?_⟩, ⟨B', ⟨P.1, ?_, by rw [p2]; exact B1.2.2⟩, by rw [p1]; exact B2, by rw [p3]; exact B3, B4, fun j hj => ?_, fun j hj => ?_⟩, st⟩
  · rw [P.2.1 x (fun q => hn' (by simp [q]))]
    exact hc
  · by_cases q : x = b
    · subst q
      cases B1.1.symm.trans hc
      exact ⟨B', P.1, p1, p2, p3⟩
    · exact ⟨c, by rw [P.2.1 x q]; exact hc, rfl, rfl, rfl⟩
  · obtain ⟨i1, k, i2, i3⟩ := B1.2.1
    exact ⟨by rw [p2]; exact i1, k, by rw [p1]; exact i2, i3⟩
  · rw [p3] at hj
    rw [p4, own_putD (by rw [← B3]; exact hj)]
    split
    · rw [gA _ (by omega)]
    · exact B5 j hj
  · rw [p3] at hj
    rw [own_putD (by rw [← B3]; exact hj)]
    split
    · exact A6 _ (by omega)
    · exact B6 j hj
end OwnCopy
/-- a method that its class declares is found by the lookup from that class; the class is no interface, as another word on it says -/
theorem own_same {Z : State} {a0 : Array Value} {C : String} {y z : MethodName} (hd : (Cond.declares y).before a0 Z = true) (hs : (Cond.selects C z z).before a0 Z = true) (hc : y.cls = z.cls) (hy : y.cls ≠ "java/lang/invoke/MethodHandle" ∧ y.cls ≠ "java/lang/invoke/VarHandle") :
    (Cond.sameMethod y.cls y.cls y.name y.desc).before a0 Z = true := by
  obtain ⟨m, meth, hm, -, -, -⟩ := Cond.declares_spec hd
  obtain ⟨c2, r2, m2, q1, q2, q3, q4, kP, hkP, hkPi⟩ := Cond.selects_spec hs
  have e1 := findClass_of_methodNamed hm
  have e2 := findClass_of_methodNamed q3
  have e3 : m.cls = m2.cls := Option.some.inj (e1.symm.trans (hc ▸ e2))
  have e4 := State.methodFound?_of_named hm hy
  have hm' : Z.methodNamed? ⟨y.cls, y.name, y.desc⟩ = some m := hm
  simp [Cond.before, Cond.holds, Cond.value, e1, e4, hm', e3, hkP, hkPi]
theorem own_nf {args : Array Value} {s : State} {C : String} {y z : MethodName} (hc : y.cls = z.cls) (hsel : (Cond.selects C z z).before args s = true) : NotFace s y := fun r0 h0 => by
  obtain ⟨c2, r2, m2, q1, q2, q3, q4, kP, hkP, hkPi⟩ := Cond.selects_spec hsel
  have e1 := findClass_of_methodNamed h0
  have e2 := findClass_of_methodNamed q3
  have e3 : r0.cls = m2.cls := Option.some.inj (e1.symm.trans (hc ▸ e2))
  exact ⟨kP, by rw [e3]; exact hkP, hkPi⟩
/-- a private method is selected from its own class too -/
theorem own_psel {s : State} {a0 : Array Value} {C : String} {y : MethodName} (hs : (Cond.selects C y y).before a0 s = true) (hp : (Cond.privateMethod y).before a0 s = true) (hy : y.cls ≠ "java/lang/invoke/MethodHandle" ∧ y.cls ≠ "java/lang/invoke/VarHandle") :
    (Cond.selects y.cls y y).before a0 s = true := by
  obtain ⟨c2, r2, m2, q1, q2, q3, q4, kP, hkP, hkPi⟩ := Cond.selects_spec hs
  have e1 := findClass_of_methodNamed q3
  have e4 := State.methodFound?_of_named q3 hy
  cases hm : s.vm.method? m2 with
  | none => simp [Cond.before, Cond.holds, Cond.value, q3, hm] at hp
  | some meth =>
    have hpr : meth.isPrivate = true := by simpa [Cond.before, Cond.holds, Cond.value, q3, hm] using hp
    have e5 : selectMethod {} s.vm m2.cls m2 = .method m2 := selectMethod_private hm hpr
    simp [Cond.before, Cond.holds, Cond.value, e1, e4, q3, e5, hkP, hkPi]
theorem own_shr0 (x : Int32) : x >>> ((0 : Int32) &&& 31) = x := by
  rw [(by decide : (0 : Int32) &&& 31 = 0)]
  simp
theorem own_shl0 (x : Int32) : x <<< ((0 : Int32) &&& 31) = x := by
  rw [(by decide : (0 : Int32) &&& 31 = 0)]
  simp
/-- the byte back to its char -/
theorem own_unb {t : Int32} (h : ¬ t < 0 ∧ ¬ (255 : Int32) < t) : own_b t &&& 255 = t := by
  have e1 := c_i2b t
  have e2 := c_mask (own_b t) 255 8 (by decide) (by decide)
  obtain ⟨h1, h2⟩ := h
  rw [Int32.lt_iff_toInt_lt] at h1 h2
  have l0 : (0 : Int32).toInt = 0 := by decide
  have l1 : (255 : Int32).toInt = 255 := by decide
  have e3 : (own_b t).toInt = t.toInt8.toInt32.toInt := rfl
  apply Int32.toInt_inj.mp
  omega
theorem own_ofn {k : Nat} (h : k < 2 ^ 31) : (Int32.ofNat k).toNatClampNeg = k := by
  show (Int32.ofNat k).toInt.toNat = k
  rw [Int32.toInt_ofNat_of_lt (by omega)]
  omega
theorem own_16 : (16 : Int32).toNatClampNeg = 16 := by decide
theorem own_100 : (100 : Int32).toNatClampNeg = 100 := by decide
theorem own_ofnn {k : Nat} (h : k < 2 ^ 31) : ¬ Int32.ofNat k < 0 := by
  rw [Int32.lt_iff_toInt_lt, Int32.toInt_ofNat_of_lt (by omega), (by decide : (0 : Int32).toInt = 0)]
  omega
theorem own_oflt {k j : Nat} (h : k < j) (hj : j < 2 ^ 31) : Int32.ofNat k < Int32.ofNat j := by
  rw [Int32.lt_iff_toInt_lt, Int32.toInt_ofNat_of_lt (by omega), Int32.toInt_ofNat_of_lt (by omega)]
  omega
theorem own_ofnlt {k j : Nat} (h : j ≤ k) (hk : k < 2 ^ 31) : ¬ Int32.ofNat k < Int32.ofNat j := by
  rw [Int32.lt_iff_toInt_lt, Int32.toInt_ofNat_of_lt (by omega), Int32.toInt_ofNat_of_lt (by omega)]
  omega
theorem own_lt_of {k j : Nat} (hk : k < 2 ^ 31) (hj : j < 2 ^ 31) (h : Int32.ofNat k < Int32.ofNat j) : k < j := by
  rw [Int32.lt_iff_toInt_lt, Int32.toInt_ofNat_of_lt (by omega), Int32.toInt_ofNat_of_lt (by omega)] at h
  omega
theorem own_ofne {k j : Nat} (h : k ≠ j) (hk : k < 2 ^ 31) (hj : j < 2 ^ 31) : ¬ Int32.ofNat k = Int32.ofNat j := fun q => by
  have := congrArg Int32.toInt q
  rw [Int32.toInt_ofNat_of_lt (by omega), Int32.toInt_ofNat_of_lt (by omega)] at this
  omega
theorem own_room {k : Nat} (h : k ≤ 16) : ¬ (0 : Int32) < Int32.ofNat k - 16 := by
  have e1 : (Int32.ofNat k).toInt = k := Int32.toInt_ofNat_of_lt (by omega)
  have e2 : (16 : Int32).toInt = 16 := by decide
  have e3 : (0 : Int32).toInt = 0 := by decide
  have e4 := x_isub (x := Int32.ofNat k) (y := 16) (by omega) (by omega)
  rw [Int32.lt_iff_toInt_lt]
  omega
theorem own_cnt {cs vs us : List Value} (h : us = cs ++ vs) : Int32.ofNat cs.length + Int32.ofNat vs.length = Int32.ofNat us.length := by
  rw [h, List.length_append, Int32.ofNat_add]
theorem own_dec (k : Nat) : Int32.ofNat (k + 1) + (-1 : Int32) = Int32.ofNat k := by
  rw [Int32.ofNat_add, Int32.add_assoc, (by decide : Int32.ofNat 1 + (-1 : Int32) = 0)]
  simp
theorem own_sub0 (x : Int32) : x - (0 : Int32) = x := by simp
section OwnArv
variable {Z : State} {h : Heap} {a : Addr} {k : ClassId} {ty : FieldType} {z : Int32} {vs ws us cs : List Value} {dv : Value}
theorem own_arv_eq (A : Arv Z h a k ty z vs dv) (q : ∀ j, j < z.toNatClampNeg → ws.getD j dv = vs.getD j dv) : Arv Z h a k ty z ws dv := by
  obtain ⟨c, A1, A2, A3, A4, A5, A6⟩ := A
  refine ⟨c, A1, A2, A3, A4, fun j hj => ?_, fun j hj => ?_⟩
  · rw [q j (by omega)]
    exact A5 j hj
  · rw [q j (by omega)]
    exact A6 j hj
theorem own_getapp (cs vs : List Value) (j : Nat) : (cs ++ vs).getD j dv = if j < cs.length then cs.getD j dv else vs.getD (j - cs.length) dv := by
  simp only [List.getD_eq_getElem?_getD]
  by_cases q : j < cs.length
  · rw [if_pos q, List.getElem?_append_left q]
  · rw [if_neg q, List.getElem?_append_right (Nat.le_of_not_lt q)]
theorem own_getout (cs : List Value) {j : Nat} (h : cs.length ≤ j) : cs.getD j dv = dv := by
  rw [List.getD_eq_getElem?_getD, List.getElem?_eq_none h]
  rfl
theorem own_arv_put (hus : us = cs ++ vs) (A : Arv Z h a k .byte 16 (own_put (16 : Int32).toNatClampNeg cs cs.length vs.length vs 0) (.int 0)) : Arv Z h a k .byte 16 us (.int 0) := by
  refine own_arv_eq A fun j hj => ?_
  rw [own_putD hj, hus, own_getapp]
  by_cases q : j < cs.length
  · rw [if_pos q, if_neg (by omega)]
  · rw [if_neg q]
    by_cases r : j < cs.length + vs.length
    · rw [if_pos ⟨by omega, r⟩, Nat.zero_add]
    · rw [if_neg (by omega), own_getout vs (by omega), own_getout cs (by omega)]
theorem own_arv_cp (hk : cs.length < 2 ^ 31) (A : Arv Z h a k .byte (Int32.ofNat cs.length) (own_put (Int32.ofNat cs.length).toNatClampNeg [] 0 cs.length cs 0) (.int 0)) : Arv Z h a k .byte (Int32.ofNat cs.length) cs (.int 0) := by
  refine own_arv_eq A fun j hj => ?_
  rw [own_putD hj]
  rw [own_ofn hk] at hj
  rw [if_pos ⟨by omega, by omega⟩, Nat.zero_add, Nat.sub_zero]
end OwnArv
/-- what was there, so many noughts, and behind them ds -/
def own_row (cs : List Value) (k : Nat) (ds : List Value) : List Value := cs ++ (List.replicate k (.int 0) ++ ds)
theorem own_row_len (cs : List Value) (k : Nat) (ds : List Value) : (own_row cs k ds).length = cs.length + (k + ds.length) := by simp [own_row]
theorem own_row_set (cs : List Value) (k : Nat) (ds : List Value) (v : Value) : (own_row cs (k + 1) ds).set (cs.length + k) v = own_row cs k (v :: ds) := by
  unfold own_row
  rw [List.set_append_right _ _ (by omega), Nat.add_sub_cancel_left, List.replicate_succ', List.append_assoc, List.set_append_right _ _ (by simp)]
  simp
theorem own_row_in {Z : State} {h : Heap} {a : Addr} {kk : ClassId} {z : Int32} {cs : List Value} (k : Nat) (A : Arv Z h a kk .byte z cs (.int 0)) : Arv Z h a kk .byte z (own_row cs k []) (.int 0) :=
  A.pad fun i => by
    unfold own_row
    rw [List.append_nil]
    exact pad_rep cs (.int 0) k i
/-- a digit of p: that of the ones (u = 1), the tens (u = 10), .. -/
def own_dgt (p : Int32) (u : Nat) : Int32 := Int32.ofNat (48 + p.toNatClampNeg / u % 10)
def own_dg (p : Int32) : List Value :=
  if p.toInt < 10 then [.int (own_dgt p 1)] else if p.toInt < 100 then [.int (own_dgt p 10), .int (own_dgt p 1)] else if p.toInt < 1000 then [.int (own_dgt p 100), .int (own_dgt p 10), .int (own_dgt p 1)]
  else if p.toInt < 10000 then [.int (own_dgt p 1000), .int (own_dgt p 100), .int (own_dgt p 10), .int (own_dgt p 1)] else [.int (own_dgt p 10000), .int (own_dgt p 1000), .int (own_dgt p 100), .int (own_dgt p 10), .int (own_dgt p 1)]
theorem own_dg_1 {p : Int32} (h2 : p.toInt < 10) : own_dg p = [.int (own_dgt p 1)] := by
  unfold own_dg
  rw [if_pos h2]
theorem own_dg_2 {p : Int32} (h : 10 ≤ p.toInt ∧ p.toInt < 100) : own_dg p = [.int (own_dgt p 10), .int (own_dgt p 1)] := by
  unfold own_dg
  rw [if_neg (by omega), if_pos h.2]
theorem own_dg_3 {p : Int32} (h : 100 ≤ p.toInt ∧ p.toInt < 1000) : own_dg p = [.int (own_dgt p 100), .int (own_dgt p 10), .int (own_dgt p 1)] := by
  unfold own_dg
  rw [if_neg (by omega), if_neg (by omega), if_pos h.2]
theorem own_dg_4 {p : Int32} (h : 1000 ≤ p.toInt ∧ p.toInt < 10000) : own_dg p = [.int (own_dgt p 1000), .int (own_dgt p 100), .int (own_dgt p 10), .int (own_dgt p 1)] := by
  unfold own_dg
  rw [if_neg (by omega), if_neg (by omega), if_neg (by omega), if_pos h.2]
theorem own_dg_5 {p : Int32} (h : 10000 ≤ p.toInt ∧ p.toInt ≤ 65535) : own_dg p = [.int (own_dgt p 10000), .int (own_dgt p 1000), .int (own_dgt p 100), .int (own_dgt p 10), .int (own_dgt p 1)] := by
  unfold own_dg
  rw [if_neg (by omega), if_neg (by omega), if_neg (by omega), if_neg (by omega)]
theorem own_dg_len (p : Int32) : (own_dg p).length ≤ 5 := by
  unfold own_dg
  split
  · simp
  split
  · simp
  split
  · simp
  split <;> simp
theorem own_sz {p : Int32} (h : 0 < p.toInt ∧ p.toInt ≤ 65535) : p.toInt < 10 ∨ (10 ≤ p.toInt ∧ p.toInt < 100) ∨ (100 ≤ p.toInt ∧ p.toInt < 1000) ∨ (1000 ≤ p.toInt ∧ p.toInt < 10000) ∨ (10000 ≤ p.toInt ∧ p.toInt ≤ 65535) := by omega
theorem own_dgt_to (p : Int32) (u : Nat) : (own_dgt p u).toInt = 48 + ((p.toNatClampNeg / u % 10 : Nat) : Int) := by
  unfold own_dgt
  rw [Int32.toInt_ofNat_of_lt (by omega)]
  omega
theorem own_dgt_b (p : Int32) (u : Nat) : ¬ own_dgt p u < 0 ∧ ¬ (255 : Int32) < own_dgt p u := by
  have e := own_dgt_to p u
  have e3 : (0 : Int32).toInt = 0 := by decide
  have e4 : (255 : Int32).toInt = 255 := by decide
  rw [Int32.lt_iff_toInt_lt, Int32.lt_iff_toInt_lt]
  omega
theorem own_dgt_n {k : Nat} (h : k < 58) : nar .byte (Int32.ofNat k) = Int32.ofNat k := (by decide +kernel : ∀ k, k < 58 → (Int32.ofNat k).toInt8.toInt32 = Int32.ofNat k) k h
theorem own_dgt_255 (p : Int32) (u : Nat) : own_dgt p u &&& 255 = own_dgt p u := by
  have e := own_dgt_to p u
  have e2 := c_mask (own_dgt p u) 255 8 (by decide) (by decide)
  apply Int32.toInt_inj.mp
  omega
/-- as the law reckons it -/
theorem own_ld {p v : Int32} (u : Nat) (hp : 0 < p.toInt ∧ p.toInt ≤ 65535) (hv : v.toInt = p.toInt / u % 10) : ((48 : Int32) + v).toUInt32.toUInt16.toUInt32.toInt32 = own_dgt p u := by
  have e := own_dgt_to p u
  have e1 : (48 : Int32).toInt = 48 := by decide
  have e2 := x_iadd (x := 48) (y := v) (by omega) (by omega)
  have e3 := c_i2c ((48 : Int32) + v)
  have e4 : p.toNatClampNeg = p.toInt.toNat := rfl
  have e5 : ((p.toNatClampNeg / u % 10 : Nat) : Int) = p.toInt / u % 10 := by
    rw [e4]
    have : p.toInt = (p.toInt.toNat : Int) := by omega
    rw [this]
    simp
  apply Int32.toInt_inj.mp
  omega
def own_ones : List Value := (List.range 100).map fun r => .int (Int32.ofNat (48 + r % 10))
def own_tens : List Value := (List.range 100).map fun r => .int (Int32.ofNat (48 + r / 10))
theorem own_onesD {r : Nat} (h : r < 100) : own_ones.getD r (.int 0) = .int (Int32.ofNat (48 + r % 10)) := by simp [own_ones, List.getD_eq_getElem?_getD, h]
theorem own_tensD {r : Nat} (h : r < 100) : own_tens.getD r (.int 0) = .int (Int32.ofNat (48 + r / 10)) := by simp [own_tens, List.getD_eq_getElem?_getD, h]
/-- the first k places say the same: a byte there, its char here -/
def own_pr (v w : Value) : Prop := ∃ x : Int32, v = .int x ∧ w = .int (x &&& 255)
def own_says (ss es : List Value) (k : Nat) : Prop := ∀ i, i < k → own_pr (ss.getD i (.int 0)) (es.getD i (.int 0))
theorem own_s0 {ss es : List Value} : own_says ss es 0 := fun i hi => absurd hi (Nat.not_lt_zero i)
theorem own_sC {v w : Value} {ss es : List Value} {k : Nat} (h : own_pr v w) (r : own_says ss es k) : own_says (v :: ss) (w :: es) (k + 1) := fun i hi => by
  cases i with
  | zero => exact h
  | succ j => exact r j (Nat.lt_of_succ_lt_succ hi)
theorem own_pb {t : Int32} (h : ¬ t < 0 ∧ ¬ (255 : Int32) < t) : own_pr (.int (own_b t)) (.int t) := ⟨_, rfl, by rw [own_unb h]⟩
theorem own_pd (p : Int32) (u : Nat) : own_pr (.int (own_dgt p u)) (.int (own_dgt p u)) := ⟨_, rfl, by rw [own_dgt_255]⟩
theorem own_pl (x : Int32) (h : x &&& 255 = x) : own_pr (.int x) (.int x) := ⟨_, rfl, by rw [h]⟩
theorem own_port {x p : Int32} (h : p = (1 : Int32) + ((x &&& 2147483647) - (x &&& 2147483647) / 65535 * 65535)) : 0 < p.toInt ∧ p.toInt ≤ 65535 := by
  have hx := (c_and x (2147483647 : Int32) (by decide)).1
  have h1 := (x_irem (x := x &&& 2147483647) (y := 65535) 65535 (by decide)).1 (by omega)
  have e1 : (1 : Int32).toInt = 1 := by decide
  have h2 := x_iadd (x := 1) (y := (x &&& 2147483647) - (x &&& 2147483647) / 65535 * 65535) (by omega) (by omega)
  rw [h]
  omega
theorem own_n3 {x n : Int32} (h : n = (1 : Int32) + ((x &&& 2147483647) - (x &&& 2147483647) / 3 * 3)) : n = 1 ∨ n = 2 ∨ n = 3 := by
  have hx := (c_and x (2147483647 : Int32) (by decide)).1
  have h1 := (x_irem (x := x &&& 2147483647) (y := 3) 3 (by decide)).1 (by omega)
  have e1 : (1 : Int32).toInt = 1 := by decide
  have e2 : (2 : Int32).toInt = 2 := by decide
  have e3 : (3 : Int32).toInt = 3 := by decide
  have h2 := x_iadd (x := 1) (y := (x &&& 2147483647) - (x &&& 2147483647) / 3 * 3) (by omega) (by omega)
  have e : ∀ k : Int32, n.toInt = k.toInt → n = k := fun k q => Int32.toInt_inj.mp q
  rw [← h] at h2
  rcases (by omega : n.toInt = 1 ∨ n.toInt = 2 ∨ n.toInt = 3) with q | q | q
  · exact Or.inl (e 1 (by omega))
  · exact Or.inr (Or.inl (e 2 (by omega)))
  · exact Or.inr (Or.inr (e 3 (by omega)))
theorem own_bd {c x : Int32} (h : c = x &&& 255) : ¬ c < 0 ∧ ¬ (255 : Int32) < c := by
  subst h
  exact ⟨own_0 x, own_255 x⟩
theorem own_58 {t : Int32} (h : ¬ t < 0 ∧ ¬ (255 : Int32) < t) : own_b t = 58 ↔ t = 58 := ⟨fun q => own_b_inj h.1 h.2 (by decide) (by decide) (q.trans (by decide)), fun q => by subst q; decide⟩
theorem x_ineg {x : Int32} (h1 : -2147483647 ≤ x.toInt) : (-x).toInt = -x.toInt := by
  have a := c_ineg x
  have r := rng32 (-x)
  have r2 := rng32 x
  omega
open Jvm.Free.SBG Jvm.Free.SB in
/-- from the words on one of Integer's two tables to the array -/
theorem own_tbl {a0 : Array Value} {s : State} {t rhs : Term} {F : Nat → Nat} (hall : ∀ idx, t.eval a0 s none idx s = t.eval a0 s none [] s) (hex : (Cond.exactly t "[B").before a0 s = true) (hl : (Cond.eq (.length t) (.int 100)).before a0 s = true)
    (hv : (Cond.all t (.eq (.elem t (.index 0)) rhs)).before a0 s = true) (harr : (Cond.arrayClass .byte).before a0 s = true) (hr : ∀ r, r < 100 → rhs.eval a0 s none [r] s = some (.int (Int32.ofNat (F r)))) (hF : ∀ r, r < 100 → F r < 58) :
    ∃ (d : Addr) (k : ClassId), t.eval a0 s none [] s = some (.ref d) ∧ Arv s s.heap d k .byte 100 ((List.range 100).map fun r => .int (Int32.ofNat (F r))) (.int 0) := by
  obtain ⟨d, cB, D, kB, hev, hfcB, hcellD, hkB, hstatD, hclsD, -⟩ := Cond.exactly_spec hex
  have hl2 := Cond.eq_int hl rfl
  obtain ⟨d', D', hev', harrAt, hlen⟩ := Term.length_spec hl2
  cases hev.symm.trans hev'
  obtain ⟨hcellD', hknD, -, -⟩ := State.arrayAt?_spec harrAt
  cases hcellD.symm.trans hcellD'
  obtain ⟨h31, hsz'⟩ := own_len hev harrAt hl2
  have hsz : D.slots.size = 100 := by
    have := congrArg Int32.toInt hsz'
    rw [show D.slots.size.toInt32 = Int32.ofNat D.slots.size from rfl, Int32.toInt_ofNat_of_lt (by omega), (by decide : (100 : Int32).toInt = 100)] at this
    omega
  obtain ⟨cB', kB', comp, hnameB, hkB', hkindB⟩ := Cond.arrayClass_spec harr
  have eBA : ("[" ++ FieldType.toString .byte) = "[B" := by decide
  rw [eBA] at hnameB
  cases hfcB.symm.trans hnameB
  cases hkB.symm.trans hkB'
  have hat : ∀ r, r < 100 → D.slots[r]? = some (.int (Int32.ofNat (F r))) := fun r hr' => by
    have h := Cond.all_elim hev harrAt (Cond.before_iff.mp hv) r (by omega)
    have eL : (Term.elem t (.index 0)).eval a0 s none [r] s = D.slots[r]? := elem_at (ix := .index 0) ((hall [r]).trans hev) harrAt (by omega) (by omega) rfl
    rw [← eL]
    exact eqv_i (hr r hr') h
  refine ⟨d, D.cls, hev, D, ⟨hcellD, ⟨(fun q h => by rw [h] at hstatD; cases hstatD), kB, (by rw [hclsD]; exact hkB), comp, hkindB⟩, hknD⟩, rfl, by rw [own_100]; exact hsz, by decide, fun r hr' => ?_, fun r hr' => ?_⟩
  · rw [hat r (by omega)]
    simp [List.getD_eq_getElem?_getD, (by omega : r < 100)]
  · have e : (((List.range 100).map fun r => Value.int (Int32.ofNat (F r))).getD r (.int 0)) = .int (Int32.ofNat (F r)) := by simp [List.getD_eq_getElem?_getD, (by omega : r < 100)]
    rw [e, ← own_dgt_n (hF r (by omega))]
    exact fits_nar_byte _
theorem own_dgE {a b : Nat} (h : a = b) : Int32.ofNat (48 + a) = Int32.ofNat (48 + b) := by rw [h]
theorem own_dgt_nb (p : Int32) (u : Nat) : nar .byte (own_dgt p u) = own_dgt p u := own_dgt_n (by omega)
theorem own_app16 {xs : List Value} {p : Int32} (h : xs.length ≤ 11) : (xs ++ own_dg p).length ≤ 16 := by
  have := own_dg_len p
  rw [List.length_append]
  omega
theorem own_app15 {xs : List Value} {p : Int32} (h : xs.length ≤ 10) : (xs ++ own_dg p).length < 16 := by
  have := own_dg_len p
  rw [List.length_append]
  omega
theorem own_nm0 : ¬ Value.int 58 ∈ ([] : List Value) := by simp
theorem own_nmC {b : Int32} {l : List Value} (h : ¬ b = 58) (r : ¬ Value.int 58 ∈ l) : ¬ Value.int 58 ∈ Value.int b :: l := fun q => by
  rcases List.mem_cons.mp q with e | e
  · exact h (Value.int.inj e).symm
  · exact r e
theorem own_mH {b : Int32} {l : List Value} (h : b = 58) : Value.int 58 ∈ Value.int b :: l := by
  rw [h]
  exact List.mem_cons_self
theorem own_mT {v : Value} {l : List Value} (h : Value.int 58 ∈ l) : Value.int 58 ∈ v :: l := List.mem_cons_of_mem _ h
/-- one to three bytes -/
def own_host (l : List Value) : Prop := (∃ a : Int32, l = [.int a]) ∨ (∃ a b : Int32, l = [.int a, .int b]) ∨ (∃ a b c : Int32, l = [.int a, .int b, .int c])
theorem own_host3 {l : List Value} (h : own_host l) : l.length ≤ 3 := by
  rcases h with ⟨_, rfl⟩ | ⟨_, _, rfl⟩ | ⟨_, _, _, rfl⟩ <;> simp
theorem own_host0 {l : List Value} (h : own_host l) : ¬ Int32.ofNat l.length = 0 := by
  rcases h with ⟨_, rfl⟩ | ⟨_, _, rfl⟩ | ⟨_, _, _, rfl⟩ <;> exact own_ofne (j := 0) (by simp) (by simp) (by decide)
theorem own_row_inC {Z : State} {h : Heap} {a : Addr} {kk : ClassId} {z : Int32} {ty : FieldType} {cs : List Value} (k : Nat) (A : Arv Z h a kk ty z cs (.int 0)) : Arv Z h a kk ty z (own_row cs k []) (.int 0) :=
  A.pad fun i => by
    unfold own_row
    rw [List.append_nil]
    exact pad_rep cs (.int 0) k i
theorem own_row_snoc (pl ds : List Value) (v : Value) : own_row (pl ++ ds) 0 [v] = pl ++ (ds ++ [v]) := by simp [own_row]
theorem own_inc {pl : List Value} (ds : List Value) (v : Value) : Int32.ofNat (pl ++ ds).length + (1 : Int32) = Int32.ofNat (pl ++ (ds ++ [v])).length := by
  rw [← List.append_assoc, List.length_append (as := pl ++ ds), Int32.ofNat_add]
  rfl
theorem own_says_app {sl pl ds es : List Value} {k d : Nat} (h : own_says sl pl k) (hs : sl.length = k) (hp : pl.length = k) (hd : own_says ds es d) : own_says (sl ++ ds) (pl ++ es) (k + d) := fun i hi => by
  rw [own_getapp, own_getapp, hs, hp]
  by_cases q : i < k
  · rw [if_pos q, if_pos q]
    exact h i q
  · rw [if_neg q, if_neg q]
    exact hd (i - k) (by omega)
/-- the host's bytes, by its length -/
def own_hc (n c0 c1 c2 : Int32) (l : List Value) : Prop := (n = 1 ∧ l = [.int (own_b c0)]) ∨ (n = 2 ∧ l = [.int (own_b c0), .int (own_b c1)]) ∨ (n = 3 ∧ l = [.int (own_b c0), .int (own_b c1), .int (own_b c2)])
theorem own_hc_host {n c0 c1 c2 : Int32} {l : List Value} (h : own_hc n c0 c1 c2 l) : own_host l := by
  rcases h with ⟨_, rfl⟩ | ⟨_, rfl⟩ | ⟨_, rfl⟩
  · exact Or.inl ⟨_, rfl⟩
  · exact Or.inr (Or.inl ⟨_, _, rfl⟩)
  · exact Or.inr (Or.inr ⟨_, _, _, rfl⟩)
theorem own_le_app {xs ys : List Value} {m n : Nat} (h1 : xs.length ≤ m) (h2 : ys.length ≤ n) : (xs ++ ys).length ≤ m + n := by
  rw [List.length_append]
  omega

theorem pn_3 : plainName "java/lang/String" = true := by first | (simp [plainName, overriddenIn]; done) | decide +kernel
theorem ef_4 (m : MethodId) (x0 : Addr) : entryFrame m #[(.ref x0)] 1 = mkF m 0 #[rv x0] [] := by (first | (simp [entryFrame, mkF, argsToLocals, Value.category]; done) | rfl)
theorem d16_0 : decode jdk_42_method_152_code 0 = .ok (.getstatic 38, 3) := by decide +kernel
theorem d16_3 : decode jdk_42_method_152_code 3 = .ok (.ifCond .eq 10, 3) := by decide +kernel
theorem d16_6 : decode jdk_42_method_152_code 6 = .ok (.aload_n 0, 1) := by decide +kernel
theorem d16_7 : decode jdk_42_method_152_code 7 = .ok (.getfield 15, 3) := by decide +kernel
theorem d16_10 : decode jdk_42_method_152_code 10 = .ok (.goto 4, 3) := by decide +kernel
theorem d16_14 : decode jdk_42_method_152_code 14 = .ok (.ireturn, 1) := by decide +kernel
def Q_rmSCoder (Z : State) (a : Addr) (cs : Int32) (h0 : Heap) (n0 : Nat) (v : Option Value) (h : Heap) (L : List Loc) : Prop := v = some (.int 0) ∧ Fr n0 L ∧ h = h0
theorem rmSCoder (l : Launch) (Z : State) (a0 : Array Value) (hw : ∀ d ∈ tables_1, d.before a0 Z = true) (ws : List Jvm.Cond) (a : Addr) (cs : Int32) (h0 : Heap) (n0 : Nat) (Z0 : n0 ≤ h0.size) (O0 : Old Z n0 h0) (F_a_coder : Fld Z h0 a "java/lang/String" "coder" "B" (.int 0)) (S_cs : Sta Z Z.heap "java/lang/String" "COMPACT_STRINGS" "Z" (.int cs)) (n_cs : ¬ cs = 0) :
    MetN l Z ws (⟨"java/lang/String", "coder", "()B"⟩ : MethodName) jdk_42_method_152_code 1 (some .byte) ({ frames := 0, cells := 0, slots := 0, locals := 0 } : Room) #[(.ref a)] h0 (Q_rmSCoder Z a cs h0 n0) := by
  refine MetN.go (plainFor_of_name pn_3) n0 fun p e s m below meth c s₁ Bd hx hby hml hZ hh hown hnm X0 e0 N0 => ?_
  have hown : s.vm.findClass "java/lang/String" = some m.cls := hown
  refine Go.ent (ef_4 m a) ?_
  show Go _ _ _ _ s₁ (mkF m 0 #[rv a] [])
  have F1 : Sta Z h0 "java/lang/String" "COMPACT_STRINGS" "Z" (.int cs) := S_cs.ext O0.2
  obtain ⟨T2, X2, e2, st2⟩ := getS2 X0 hx hZ hown (host := "") (Or.inl (ow hw 19 rfl)) Via.refl e0 F1 (g := (mkF m 0 #[rv a] [])) rfl (hb hby d16_0)
  refine Go.by st2 ?_
  show Go _ _ _ _ T2 (mkF m 3 #[rv a] [(.int cs)])
  refine Go.ifN 6 X2 hx (hb hby d16_3) (XT.i0_eq_f n_cs) rfl ?_
  refine Go.aload1 7 X2 hx (hb hby d16_6) rfl rfl rfl ?_
  obtain ⟨T3, X3, e3, st3⟩ := getF X2 hx hZ hown (host := "") (Or.inl (ow hw 31 rfl)) Via.refl e2 F_a_coder (g := (mkF m 7 #[rv a] [(.ref a)])) rfl rfl (hb hby d16_7)
  refine Go.by st3 ?_
  show Go _ _ _ _ T3 (mkF m 10 #[rv a] [(.int 0)])
  refine Go.goto 14 X3 hx (hb hby d16_10) (by decide) (by decide) ?_
  exact Go.retI X3 hx Bd.notSynchronized Bd.returns rfl (by simp) (hb hby d16_14) (by rw [e3]; exact ⟨rfl, N0, rfl⟩) (by decide) (by decide)
theorem d17_0 : decode jdk_42_method_154_code 0 = .ok (.getstatic 38, 3) := by decide +kernel
theorem d17_3 : decode jdk_42_method_154_code 3 = .ok (.ifCond .eq 14, 3) := by decide +kernel
theorem d17_6 : decode jdk_42_method_154_code 6 = .ok (.aload_n 0, 1) := by decide +kernel
theorem d17_7 : decode jdk_42_method_154_code 7 = .ok (.getfield 15, 3) := by decide +kernel
theorem d17_10 : decode jdk_42_method_154_code 10 = .ok (.ifCond .ne 7, 3) := by decide +kernel
theorem d17_13 : decode jdk_42_method_154_code 13 = .ok (.iconst 1, 1) := by decide +kernel
theorem d17_14 : decode jdk_42_method_154_code 14 = .ok (.goto 4, 3) := by decide +kernel
theorem d17_18 : decode jdk_42_method_154_code 18 = .ok (.ireturn, 1) := by decide +kernel
def Q_rmSL1 (Z : State) (a : Addr) (cs : Int32) (h0 : Heap) (n0 : Nat) (v : Option Value) (h : Heap) (L : List Loc) : Prop := v = some (.int 1) ∧ Fr n0 L ∧ h = h0
theorem rmSL1 (l : Launch) (Z : State) (a0 : Array Value) (hw : ∀ d ∈ tables_1, d.before a0 Z = true) (ws : List Jvm.Cond) (a : Addr) (cs : Int32) (h0 : Heap) (n0 : Nat) (Z0 : n0 ≤ h0.size) (O0 : Old Z n0 h0) (F_a_coder : Fld Z h0 a "java/lang/String" "coder" "B" (.int 0)) (S_cs : Sta Z Z.heap "java/lang/String" "COMPACT_STRINGS" "Z" (.int cs)) (n_cs : ¬ cs = 0) :
    MetN l Z ws (⟨"java/lang/String", "isLatin1", "()Z"⟩ : MethodName) jdk_42_method_154_code 1 (some .boolean) ({ frames := 0, cells := 0, slots := 0, locals := 0 } : Room) #[(.ref a)] h0 (Q_rmSL1 Z a cs h0 n0) := by
  refine MetN.go (plainFor_of_name pn_3) n0 fun p e s m below meth c s₁ Bd hx hby hml hZ hh hown hnm X0 e0 N0 => ?_
  have hown : s.vm.findClass "java/lang/String" = some m.cls := hown
  refine Go.ent (ef_4 m a) ?_
  show Go _ _ _ _ s₁ (mkF m 0 #[rv a] [])
  have F1 : Sta Z h0 "java/lang/String" "COMPACT_STRINGS" "Z" (.int cs) := S_cs.ext O0.2
  obtain ⟨T2, X2, e2, st2⟩ := getS2 X0 hx hZ hown (host := "") (Or.inl (ow hw 19 rfl)) Via.refl e0 F1 (g := (mkF m 0 #[rv a] [])) rfl (hb hby d17_0)
  refine Go.by st2 ?_
  show Go _ _ _ _ T2 (mkF m 3 #[rv a] [(.int cs)])
  refine Go.ifN 6 X2 hx (hb hby d17_3) (XT.i0_eq_f n_cs) rfl ?_
  refine Go.aload1 7 X2 hx (hb hby d17_6) rfl rfl rfl ?_
  obtain ⟨T3, X3, e3, st3⟩ := getF X2 hx hZ hown (host := "") (Or.inl (ow hw 31 rfl)) Via.refl e2 F_a_coder (g := (mkF m 7 #[rv a] [(.ref a)])) rfl rfl (hb hby d17_7)
  refine Go.by st3 ?_
  show Go _ _ _ _ T3 (mkF m 10 #[rv a] [(.int 0)])
  refine Go.ifN 13 X3 hx (hb hby d17_10) (XT.i0_ne_f rfl) rfl ?_
  refine Go.iconst 14 X3 hx (1 : Int32) (hb hby d17_13) (by decide) rfl ?_
  refine Go.goto 18 X3 hx (hb hby d17_14) (by decide) (by decide) ?_
  exact Go.retI X3 hx Bd.notSynchronized Bd.returns rfl (by simp) (hb hby d17_18) (by rw [e3]; exact ⟨rfl, N0, rfl⟩) (by decide) (by decide)
theorem d22_0 : decode jdk_42_method_54_code 0 = .ok (.aload_n 0, 1) := by decide +kernel
theorem d22_1 : decode jdk_42_method_54_code 1 = .ok (.getfield 9, 3) := by decide +kernel
theorem d22_4 : decode jdk_42_method_54_code 4 = .ok (.arraylength, 1) := by decide +kernel
theorem d22_5 : decode jdk_42_method_54_code 5 = .ok (.aload_n 0, 1) := by decide +kernel
theorem pd_23 : parseMethodDescriptor "()B" = some ⟨[], some .byte⟩ := by decide +kernel
theorem d22_6 : decode jdk_42_method_54_code 6 = .ok (.invokevirtual 335, 3) := by decide +kernel
theorem d22_9 : decode jdk_42_method_54_code 9 = .ok (.ishr, 1) := by decide +kernel
theorem d22_10 : decode jdk_42_method_54_code 10 = .ok (.ireturn, 1) := by decide +kernel
def Q_rmSLen (Z : State) (a : Addr) (sv : Addr) (ks : ClassId) (z : Int32) (vs : List Value) (cs : Int32) (h0 : Heap) (n0 : Nat) (v : Option Value) (h : Heap) (L : List Loc) : Prop := v = some (.int z) ∧ Fr n0 L ∧ h = h0
theorem rmSLen (l : Launch) (Z : State) (a0 : Array Value) (hw : ∀ d ∈ tables_1, d.before a0 Z = true) (ws : List Jvm.Cond) (a : Addr) (sv : Addr) (ks : ClassId) (z : Int32) (vs : List Value) (cs : Int32) (h0 : Heap) (n0 : Nat) (Z0 : n0 ≤ h0.size) (O0 : Old Z n0 h0) (E_a : Exa Z h0 a "java/lang/String") (F_a_coder : Fld Z h0 a "java/lang/String" "coder" "B" (.int 0)) (F_a_value : Fld Z h0 a "java/lang/String" "value" "[B" (.ref sv)) (V_sv : Arv Z h0 sv ks .byte z vs (.int 0)) (S_cs : Sta Z Z.heap "java/lang/String" "COMPACT_STRINGS" "Z" (.int cs)) (n_cs : ¬ cs = 0) :
    MetN l Z ws (⟨"java/lang/String", "length", "()I"⟩ : MethodName) jdk_42_method_54_code 1 (some .int) ({ frames := 1, cells := 0, slots := 0, locals := 13 } : Room) #[(.ref a)] h0 (Q_rmSLen Z a sv ks z vs cs h0 n0) := by
  refine MetN.go (plainFor_of_name pn_3) n0 fun p e s m below meth c s₁ Bd hx hby hml hZ hh hown hnm X0 e0 N0 => ?_
  have hown : s.vm.findClass "java/lang/String" = some m.cls := hown
  refine Go.ent (ef_4 m a) ?_
  show Go _ _ _ _ s₁ (mkF m 0 #[rv a] [])
  refine Go.aload1 1 X0 hx (hb hby d22_0) rfl rfl rfl ?_
  obtain ⟨T1, X1, e1, st1⟩ := getF X0 hx hZ hown (host := "") (Or.inl (ow hw 33 rfl)) Via.refl e0 F_a_value (g := (mkF m 1 #[rv a] [(.ref a)])) rfl rfl (hb hby d22_1)
  refine Go.by st1 ?_
  show Go _ _ _ _ T1 (mkF m 4 #[rv a] [(.ref sv)])
  obtain ⟨cl2, Ar2, -, S2, M2, -, -⟩ := id V_sv
  refine Go.by (fun _ gk => X1.arraylength hx (by rw [e1]; exact Ar2.1) (State.isArrayOf_alike hZ.alike Ar2.2.1) (g := (mkF m 4 #[rv a] [(.ref sv)])) rfl rfl (hb hby d22_4) _ gk) ?_
  rw [len_of S2 M2]
  show Go _ _ _ _ T1 (mkF m 5 #[rv a] [(.int z)])
  refine Go.aload1 6 X1 hx (hb hby d22_5) rfl rfl rfl ?_
  obtain ⟨cq3, kq3, q3a, q3b, q3c⟩ := isOf hZ e1 E_a
  obtain ⟨_, _, ⟨T3, L3, k3, n3⟩, -, X3, ⟨Lc3, hQ3, l3, y3, z3⟩, st3⟩ := X1.virtualBack hx (y := (⟨"java/lang/String", "coder", "()B"⟩ : MethodName)) (z := (⟨"java/lang/String", "coder", "()B"⟩ : MethodName)) hown (mvT hZ (ow hw 98 rfl)) (mvT hZ (ow hw 99 rfl)) (notFace_of_selects (args := #[]) (mvT hZ (ow hw 101 rfl))) (mvT hZ (ow hw 101 rfl)) (mvT hZ (ow hw 100 rfl)) (by decide) (backOf (W := 1) (rmSCoder l Z a0 hw [] a cs h0 n0 Z0 O0 F_a_coder S_cs n_cs) hZ (ow hw 102 rfl) (ow hw 8 rfl) (by decide) (by decide)) q3a q3c (g := (mkF m 6 #[rv a] [(.ref a), (.int z)])) rfl (by rw [hml]; rfl) (Steps.refl _) (argsL := []) (rest := [(.int z)]) (lenOf pd_23 rfl) rfl (by show 2 * 0 + _ ≤ _; exact Nat.le_of_eq rfl) (hb hby d22_6) (fun _ _ => ⟨rfl, e1, (by decide : 0 + 0 ≤ _), (by decide : 0 + 0 ≤ _)⟩)
  dsimp only [Pt.U, Pt.locs, Pt.cells, Pt.slots] at X3 l3 y3 z3 st3 hQ3
  subst l3 y3 z3
  obtain ⟨rfl, N3q, e3⟩ := hQ3
  have N3 := Fr.app N0 N3q
  refine Go.to st3 ?_
  show Go _ _ _ _ T3 (mkF m 9 #[rv a] [(.int 0), (.int z)])
  refine Go.ishr 10 X3 hx (hb hby d22_9) rfl ?_
  rw [own_shr0 _]
  show Go _ _ _ _ T3 (mkF m 10 #[rv a] [(.int z)])
  exact Go.retI X3 hx Bd.notSynchronized Bd.returns rfl (by simp) (hb hby d22_10) (by rw [e3]; exact ⟨rfl, N3, rfl⟩) (by decide) (by decide)
theorem d9_0 : decode jdk_42_method_55_code 0 = .ok (.aload_n 0, 1) := by decide +kernel
theorem d9_1 : decode jdk_42_method_55_code 1 = .ok (.getfield 9, 3) := by decide +kernel
theorem d9_4 : decode jdk_42_method_55_code 4 = .ok (.arraylength, 1) := by decide +kernel
theorem d9_5 : decode jdk_42_method_55_code 5 = .ok (.ifCond .ne 7, 3) := by decide +kernel
theorem d9_12 : decode jdk_42_method_55_code 12 = .ok (.iconst 0, 1) := by decide +kernel
theorem d9_13 : decode jdk_42_method_55_code 13 = .ok (.ireturn, 1) := by decide +kernel
def Q_rmSEmpty (Z : State) (a : Addr) (sv : Addr) (ks : ClassId) (z : Int32) (vs : List Value) (h0 : Heap) (n0 : Nat) (v : Option Value) (h : Heap) (L : List Loc) : Prop := v = some (.int 0) ∧ Fr n0 L ∧ h = h0
theorem rmSEmpty (l : Launch) (Z : State) (a0 : Array Value) (hw : ∀ d ∈ tables_1, d.before a0 Z = true) (ws : List Jvm.Cond) (a : Addr) (sv : Addr) (ks : ClassId) (z : Int32) (vs : List Value) (h0 : Heap) (n0 : Nat) (Z0 : n0 ≤ h0.size) (E_a : Exa Z h0 a "java/lang/String") (F_a_coder : Fld Z h0 a "java/lang/String" "coder" "B" (.int 0)) (F_a_value : Fld Z h0 a "java/lang/String" "value" "[B" (.ref sv)) (V_sv : Arv Z h0 sv ks .byte z vs (.int 0)) (hz : (¬ z = 0)) :
    MetN l Z ws (⟨"java/lang/String", "isEmpty", "()Z"⟩ : MethodName) jdk_42_method_55_code 1 (some .boolean) ({ frames := 0, cells := 0, slots := 0, locals := 0 } : Room) #[(.ref a)] h0 (Q_rmSEmpty Z a sv ks z vs h0 n0) := by
  refine MetN.go (plainFor_of_name pn_3) n0 fun p e s m below meth c s₁ Bd hx hby hml hZ hh hown hnm X0 e0 N0 => ?_
  have hown : s.vm.findClass "java/lang/String" = some m.cls := hown
  refine Go.ent (ef_4 m a) ?_
  show Go _ _ _ _ s₁ (mkF m 0 #[rv a] [])
  refine Go.aload1 1 X0 hx (hb hby d9_0) rfl rfl rfl ?_
  obtain ⟨T1, X1, e1, st1⟩ := getF X0 hx hZ hown (host := "") (Or.inl (ow hw 33 rfl)) Via.refl e0 F_a_value (g := (mkF m 1 #[rv a] [(.ref a)])) rfl rfl (hb hby d9_1)
  refine Go.by st1 ?_
  show Go _ _ _ _ T1 (mkF m 4 #[rv a] [(.ref sv)])
  obtain ⟨cl2, Ar2, -, S2, M2, -, -⟩ := id V_sv
  refine Go.by (fun _ gk => X1.arraylength hx (by rw [e1]; exact Ar2.1) (State.isArrayOf_alike hZ.alike Ar2.2.1) (g := (mkF m 4 #[rv a] [(.ref sv)])) rfl rfl (hb hby d9_4) _ gk) ?_
  rw [len_of S2 M2]
  show Go _ _ _ _ T1 (mkF m 5 #[rv a] [(.int z)])
  refine Go.ifY 12 X1 hx (hb hby d9_5) (XT.i0_ne_t hz) (by decide) (by decide) ?_
  refine Go.iconst 13 X1 hx (0 : Int32) (hb hby d9_12) (by decide) rfl ?_
  exact Go.retI X1 hx Bd.notSynchronized Bd.returns rfl (by simp) (hb hby d9_13) (by rw [e1]; exact ⟨rfl, N0, rfl⟩) (by decide) (by decide)
theorem d14_0 : decode jdk_42_method_126_code 0 = .ok (.aload_n 0, 1) := by decide +kernel
theorem d14_1 : decode jdk_42_method_126_code 1 = .ok (.areturn, 1) := by decide +kernel
def Q_rmSTs (Z : State) (a : Addr) (h0 : Heap) (n0 : Nat) (v : Option Value) (h : Heap) (L : List Loc) : Prop := v = some (.ref a) ∧ Fr n0 L ∧ h = h0
theorem rmSTs (l : Launch) (Z : State) (a0 : Array Value) (hw : ∀ d ∈ tables_1, d.before a0 Z = true) (ws : List Jvm.Cond) (a : Addr) (h0 : Heap) (n0 : Nat) (Z0 : n0 ≤ h0.size)  :
    MetN l Z ws (⟨"java/lang/String", "toString", "()Ljava/lang/String;"⟩ : MethodName) jdk_42_method_126_code 1 (some (.object "java/lang/String")) ({ frames := 0, cells := 0, slots := 0, locals := 0 } : Room) #[(.ref a)] h0 (Q_rmSTs Z a h0 n0) := by
  refine MetN.go (plainFor_of_name pn_3) n0 fun p e s m below meth c s₁ Bd hx hby hml hZ hh hown hnm X0 e0 N0 => ?_
  have hown : s.vm.findClass "java/lang/String" = some m.cls := hown
  refine Go.ent (ef_4 m a) ?_
  show Go _ _ _ _ s₁ (mkF m 0 #[rv a] [])
  refine Go.aload1 1 X0 hx (hb hby d14_0) rfl rfl rfl ?_
  exact Go.retA X0 hx Bd.notSynchronized Bd.returns rfl rfl (hb hby d14_1) (by rw [e0]; exact ⟨rfl, N0, rfl⟩) (by decide) (by decide)
theorem pn_35 : plainName "jdk/internal/util/Preconditions" = true := by first | (simp [plainName, overriddenIn]; done) | decide +kernel
theorem ef_36 (m : MethodId) (x0 : Int32) (x1 : Int32) (x2 : Value) (r2 : x2.isRef = true) : entryFrame m #[(.int x0), (.int x1), x2] 3 = mkF m 0 #[iv x0, iv x1, .val x2] [] := by rcases ref_cases r2 with rfl | ⟨y2, rfl⟩ <;> (first | (simp [entryFrame, mkF, argsToLocals, Value.category]; done) | rfl)
theorem d46_0 : decode jdk_41_method_11_code 0 = .ok (.iload_n 0, 1) := by decide +kernel
theorem d46_1 : decode jdk_41_method_11_code 1 = .ok (.ifCond .lt 8, 3) := by decide +kernel
theorem d46_4 : decode jdk_41_method_11_code 4 = .ok (.iload_n 0, 1) := by decide +kernel
theorem d46_5 : decode jdk_41_method_11_code 5 = .ok (.iload_n 1, 1) := by decide +kernel
theorem d46_6 : decode jdk_41_method_11_code 6 = .ok (.if_icmp .lt 10, 3) := by decide +kernel
theorem d46_16 : decode jdk_41_method_11_code 16 = .ok (.iload_n 0, 1) := by decide +kernel
theorem d46_17 : decode jdk_41_method_11_code 17 = .ok (.ireturn, 1) := by decide +kernel
def Q_rmChkP (Z : State) (i : Int32) (z : Int32) (fv : Value) (h0 : Heap) (n0 : Nat) (v : Option Value) (h : Heap) (L : List Loc) : Prop := v = some (.int i) ∧ Fr n0 L ∧ h = h0
theorem rmChkP (l : Launch) (Z : State) (a0 : Array Value) (hw : ∀ d ∈ tables_1, d.before a0 Z = true) (ws : List Jvm.Cond) (i : Int32) (z : Int32) (fv : Value) (h0 : Heap) (n0 : Nat) (Z0 : n0 ≤ h0.size) (hi0 : (¬ i < 0)) (hiz : (i < z)) (hfv : (fv.isRef = true)) :
    MetN l Z ws (⟨"jdk/internal/util/Preconditions", "checkIndex", "(IILjava/util/function/BiFunction;)I"⟩ : MethodName) jdk_41_method_11_code 3 (some .int) ({ frames := 0, cells := 0, slots := 0, locals := 0 } : Room) #[(.int i), (.int z), fv] h0 (Q_rmChkP Z i z fv h0 n0) := by
  refine MetN.go (plainFor_of_name pn_35) n0 fun p e s m below meth c s₁ Bd hx hby hml hZ hh hown hnm X0 e0 N0 => ?_
  have hown : s.vm.findClass "jdk/internal/util/Preconditions" = some m.cls := hown
  refine Go.ent (ef_36 m i z fv hfv) ?_
  show Go _ _ _ _ s₁ (mkF m 0 #[iv i, iv z, .val fv] [])
  refine Go.iload1 1 X0 hx (hb hby d46_0) rfl rfl ?_
  refine Go.ifN 4 X0 hx (hb hby d46_1) (XT.i0_lt_f hi0) rfl ?_
  refine Go.iload1 5 X0 hx (hb hby d46_4) rfl rfl ?_
  refine Go.iload1 6 X0 hx (hb hby d46_5) rfl rfl ?_
  refine Go.icmpY 16 X0 hx (hb hby d46_6) (XT.ii_lt_t hiz) (by decide) (by decide) ?_
  refine Go.iload1 17 X0 hx (hb hby d46_16) rfl rfl ?_
  exact Go.retI X0 hx Bd.notSynchronized Bd.returns rfl (by simp) (hb hby d46_17) (by rw [e0]; exact ⟨rfl, N0, rfl⟩) (by decide) (by decide)
theorem ef_44 (m : MethodId) (x0 : Int32) (x1 : Int32) : entryFrame m #[(.int x0), (.int x1)] 2 = mkF m 0 #[iv x0, iv x1] [] := by (first | (simp [entryFrame, mkF, argsToLocals, Value.category]; done) | rfl)
theorem d45_0 : decode jdk_42_method_155_code 0 = .ok (.iload_n 0, 1) := by decide +kernel
theorem d45_1 : decode jdk_42_method_155_code 1 = .ok (.iload_n 1, 1) := by decide +kernel
theorem d45_2 : decode jdk_42_method_155_code 2 = .ok (.getstatic 1053, 3) := by decide +kernel
theorem pd_48 : parseMethodDescriptor "(IILjava/util/function/BiFunction;)I" = some ⟨[.int, .int, (.object "java/util/function/BiFunction")], some .int⟩ := by decide +kernel
theorem d45_5 : decode jdk_42_method_155_code 5 = .ok (.invokestatic 1059, 3) := by decide +kernel
theorem d45_8 : decode jdk_42_method_155_code 8 = .ok (.pop, 1) := by decide +kernel
theorem d45_9 : decode jdk_42_method_155_code 9 = .ok (.return_, 1) := by decide +kernel
def Q_rmChkS (Z : State) (i : Int32) (z : Int32) (sf : Value) (h0 : Heap) (n0 : Nat) (v : Option Value) (h : Heap) (L : List Loc) : Prop := v = none ∧ Fr n0 L ∧ h = h0
theorem rmChkS (l : Launch) (Z : State) (a0 : Array Value) (hw : ∀ d ∈ tables_1, d.before a0 Z = true) (ws : List Jvm.Cond) (i : Int32) (z : Int32) (sf : Value) (h0 : Heap) (n0 : Nat) (Z0 : n0 ≤ h0.size) (O0 : Old Z n0 h0) (hi0 : (¬ i < 0)) (hiz : (i < z)) (S_sf : Sta Z Z.heap "jdk/internal/util/Preconditions" "SIOOBE_FORMATTER" "Ljava/util/function/BiFunction;" sf) (r_sf : sf.isRef = true) :
    MetN l Z ws (⟨"java/lang/String", "checkIndex", "(II)V"⟩ : MethodName) jdk_42_method_155_code 2 none ({ frames := 1, cells := 0, slots := 0, locals := 14 } : Room) #[(.int i), (.int z)] h0 (Q_rmChkS Z i z sf h0 n0) := by
  refine MetN.go (plainFor_of_name pn_3) n0 fun p e s m below meth c s₁ Bd hx hby hml hZ hh hown hnm X0 e0 N0 => ?_
  have hown : s.vm.findClass "java/lang/String" = some m.cls := hown
  refine Go.ent (ef_44 m i z) ?_
  show Go _ _ _ _ s₁ (mkF m 0 #[iv i, iv z] [])
  refine Go.iload1 1 X0 hx (hb hby d45_0) rfl rfl ?_
  refine Go.iload1 2 X0 hx (hb hby d45_1) rfl rfl ?_
  have F1 : Sta Z h0 "jdk/internal/util/Preconditions" "SIOOBE_FORMATTER" "Ljava/util/function/BiFunction;" sf := S_sf.ext O0.2
  obtain ⟨T2, X2, e2, st2⟩ := getS2 X0 hx hZ hown (host := "") (Or.inl (ow hw 237 rfl)) Via.refl e0 F1 (g := (mkF m 2 #[iv i, iv z] [(.int z), (.int i)])) rfl (hb hby d45_2)
  refine Go.by st2 ?_
  show Go _ _ _ _ T2 (mkF m 5 #[iv i, iv z] [sf, (.int z), (.int i)])
  obtain ⟨_, _, ⟨T3, L3, k3, n3⟩, -, X3, ⟨Lc3, hQ3, l3, y3, z3⟩, st3⟩ := Jvm.LawKit.callS X2 hx (y := (⟨"jdk/internal/util/Preconditions", "checkIndex", "(IILjava/util/function/BiFunction;)I"⟩ : MethodName)) hown (mvT hZ (ow hw 239 rfl)) (mvT hZ (ow hw 240 rfl)) (mvT hZ (ow hw 238 rfl)) (mvT hZ (ow hw 241 rfl)) (by decide) (backOf (W := 0) (rmChkP l Z a0 hw [] i z sf h0 n0 Z0 hi0 hiz r_sf) hZ (ow hw 241 rfl) (ow hw 238 rfl) (by decide) (by decide)) (g := (mkF m 5 #[iv i, iv z] [sf, (.int z), (.int i)])) rfl (by rw [hml]; rfl) (argsL := [(.int i), (.int z), sf]) (rest := []) (lenOf pd_48 rfl) rfl (by show 2 * 0 + _ ≤ _; exact Nat.le_of_eq rfl) (hb hby d45_5) (fun _ _ => ⟨rfl, e2, (by decide : 0 + 0 ≤ _), (by decide : 0 + 0 ≤ _)⟩)
  dsimp only [Pt.U, Pt.locs, Pt.cells, Pt.slots] at X3 l3 y3 z3 st3 hQ3
  subst l3 y3 z3
  obtain ⟨rfl, N3q, e3⟩ := hQ3
  have N3 := Fr.app N0 N3q
  refine Go.by st3 ?_
  show Go _ _ _ _ T3 (mkF m 8 #[iv i, iv z] [(.int i)])
  refine Go.pop 9 X3 hx (hb hby d45_8) rfl rfl ?_
  exact Go.retV X3 hx Bd.notSynchronized Bd.returns (hb hby d45_9) (by rw [e3]; exact ⟨rfl, N3, rfl⟩) (by decide) (by decide)
theorem pn_52 : plainName "java/lang/StringLatin1" = true := by first | (simp [plainName, overriddenIn]; done) | decide +kernel
theorem ef_53 (m : MethodId) (x0 : Addr) (x1 : Int32) : entryFrame m #[(.ref x0), (.int x1)] 2 = mkF m 0 #[rv x0, iv x1] [] := by (first | (simp [entryFrame, mkF, argsToLocals, Value.category]; done) | rfl)
theorem d44_0 : decode jdk_43_method_2_code 0 = .ok (.iload_n 1, 1) := by decide +kernel
theorem d44_1 : decode jdk_43_method_2_code 1 = .ok (.aload_n 0, 1) := by decide +kernel
theorem d44_2 : decode jdk_43_method_2_code 2 = .ok (.arraylength, 1) := by decide +kernel
theorem pd_57 : parseMethodDescriptor "(II)V" = some ⟨[.int, .int], none⟩ := by decide +kernel
theorem d44_3 : decode jdk_43_method_2_code 3 = .ok (.invokestatic 9, 3) := by decide +kernel
theorem d44_6 : decode jdk_43_method_2_code 6 = .ok (.aload_n 0, 1) := by decide +kernel
theorem d44_7 : decode jdk_43_method_2_code 7 = .ok (.iload_n 1, 1) := by decide +kernel
theorem d44_8 : decode jdk_43_method_2_code 8 = .ok (.baload, 1) := by decide +kernel
theorem d44_9 : decode jdk_43_method_2_code 9 = .ok (.sipush 255, 3) := by decide +kernel
theorem d44_12 : decode jdk_43_method_2_code 12 = .ok (.iand, 1) := by decide +kernel
theorem d44_13 : decode jdk_43_method_2_code 13 = .ok (.i2c, 1) := by decide +kernel
theorem d44_14 : decode jdk_43_method_2_code 14 = .ok (.ireturn, 1) := by decide +kernel
def Q_rmLCharAt (Z : State) (sv : Addr) (ks : ClassId) (z : Int32) (vs : List Value) (i : Int32) (xq : Int32) (sf : Value) (h0 : Heap) (n0 : Nat) (v : Option Value) (h : Heap) (L : List Loc) : Prop := v = some (.int (xq &&& (255 : Int32))) ∧ Fr n0 L ∧ h = h0
theorem rmLCharAt (l : Launch) (Z : State) (a0 : Array Value) (hw : ∀ d ∈ tables_1, d.before a0 Z = true) (ws : List Jvm.Cond) (sv : Addr) (ks : ClassId) (z : Int32) (vs : List Value) (i : Int32) (xq : Int32) (sf : Value) (h0 : Heap) (n0 : Nat) (Z0 : n0 ≤ h0.size) (O0 : Old Z n0 h0) (V_sv : Arv Z h0 sv ks .byte z vs (.int 0)) (hi0 : (¬ i < 0)) (hiz : (i < z)) (hat : (vs.getD i.toNatClampNeg (.int 0) = .int xq)) (S_sf : Sta Z Z.heap "jdk/internal/util/Preconditions" "SIOOBE_FORMATTER" "Ljava/util/function/BiFunction;" sf) (r_sf : sf.isRef = true) :
    MetN l Z ws (⟨"java/lang/StringLatin1", "charAt", "([BI)C"⟩ : MethodName) jdk_43_method_2_code 2 (some .char) ({ frames := 2, cells := 0, slots := 0, locals := 27 } : Room) #[(.ref sv), (.int i)] h0 (Q_rmLCharAt Z sv ks z vs i xq sf h0 n0) := by
  refine MetN.go (plainFor_of_name pn_52) n0 fun p e s m below meth c s₁ Bd hx hby hml hZ hh hown hnm X0 e0 N0 => ?_
  have hown : s.vm.findClass "java/lang/StringLatin1" = some m.cls := hown
  refine Go.ent (ef_53 m sv i) ?_
  show Go _ _ _ _ s₁ (mkF m 0 #[rv sv, iv i] [])
  refine Go.iload1 1 X0 hx (hb hby d44_0) rfl rfl ?_
  refine Go.aload1 2 X0 hx (hb hby d44_1) rfl rfl rfl ?_
  obtain ⟨cl1, Ar1, -, S1, M1, -, -⟩ := id V_sv
  refine Go.by (fun _ gk => X0.arraylength hx (by rw [e0]; exact Ar1.1) (State.isArrayOf_alike hZ.alike Ar1.2.1) (g := (mkF m 2 #[rv sv, iv i] [(.ref sv), (.int i)])) rfl rfl (hb hby d44_2) _ gk) ?_
  rw [len_of S1 M1]
  show Go _ _ _ _ s₁ (mkF m 3 #[rv sv, iv i] [(.int z), (.int i)])
  obtain ⟨_, _, ⟨T2, L2, k2, n2⟩, -, X2, ⟨Lc2, hQ2, l2, y2, z2⟩, st2⟩ := Jvm.LawKit.callS X0 hx (y := (⟨"java/lang/String", "checkIndex", "(II)V"⟩ : MethodName)) hown (mvT hZ (ow hw 234 rfl)) (mvT hZ (ow hw 235 rfl)) (mvT hZ (ow hw 8 rfl)) (mvT hZ (ow hw 236 rfl)) (by decide) (backOf (W := 0) (rmChkS l Z a0 hw [] i z sf h0 n0 Z0 O0 hi0 hiz S_sf r_sf) hZ (ow hw 236 rfl) (ow hw 8 rfl) (by decide) (by decide)) (g := (mkF m 3 #[rv sv, iv i] [(.int z), (.int i)])) rfl (by rw [hml]; rfl) (argsL := [(.int i), (.int z)]) (rest := []) (lenOf pd_57 rfl) rfl (by show 2 * 0 + _ ≤ _; exact Nat.le_of_eq rfl) (hb hby d44_3) (fun _ _ => ⟨rfl, e0, (by decide : 0 + 0 ≤ _), (by decide : 0 + 0 ≤ _)⟩)
  dsimp only [Pt.U, Pt.locs, Pt.cells, Pt.slots] at X2 l2 y2 z2 st2 hQ2
  subst l2 y2 z2
  obtain ⟨rfl, N2q, e2⟩ := hQ2
  have N2 := Fr.app N0 N2q
  refine Go.by st2 ?_
  show Go _ _ _ _ T2 (mkF m 6 #[rv sv, iv i] [])
  refine Go.aload1 7 X2 hx (hb hby d44_6) rfl rfl rfl ?_
  refine Go.iload1 8 X2 hx (hb hby d44_7) rfl rfl ?_
  obtain ⟨cl3, Ar3, -, S3, M3, H3, -⟩ := id V_sv
  have hin3 : ¬ (i < 0 ∨ cl3.slots.size ≤ i.toNatClampNeg) := inb_of S3 ⟨hi0, hiz⟩
  refine Go.by (fun _ gk => X2.baloadBytes hx (j := i) (v := (.int xq)) (by rw [e2]; exact Ar3.1) (State.isArrayOf_alike hZ.alike Ar3.2.1) Ar3.2.2 hin3 (Has.at H3 hin3 hat) (g := (mkF m 8 #[rv sv, iv i] [(.int i), (.ref sv)])) rfl rfl (hb hby d44_8) _ gk) ?_
  show Go _ _ _ _ T2 (mkF m 9 #[rv sv, iv i] [(.int xq)])
  refine Go.sipush 12 X2 hx (255 : Int32) (hb hby d44_9) (by decide) rfl ?_
  refine Go.iand 13 X2 hx (hb hby d44_12) rfl ?_
  refine Go.i2c 14 X2 hx (hb hby d44_13) rfl ?_
  rw [i2c_mask _]
  show Go _ _ _ _ T2 (mkF m 14 #[rv sv, iv i] [(.int (xq &&& (255 : Int32)))])
  exact Go.retI X2 hx Bd.notSynchronized Bd.returns (congrArg Value.int (i2c_mask xq)) (by simp) (hb hby d44_14) (by rw [e2]; exact ⟨rfl, N2, rfl⟩) (by decide) (by decide)
theorem d43_0 : decode jdk_42_method_56_code 0 = .ok (.aload_n 0, 1) := by decide +kernel
theorem pd_67 : parseMethodDescriptor "()Z" = some ⟨[], some .boolean⟩ := by decide +kernel
theorem d43_1 : decode jdk_42_method_56_code 1 = .ok (.invokevirtual 492, 3) := by decide +kernel
theorem d43_4 : decode jdk_42_method_56_code 4 = .ok (.ifCond .eq 12, 3) := by decide +kernel
theorem d43_7 : decode jdk_42_method_56_code 7 = .ok (.aload_n 0, 1) := by decide +kernel
theorem d43_8 : decode jdk_42_method_56_code 8 = .ok (.getfield 9, 3) := by decide +kernel
theorem d43_11 : decode jdk_42_method_56_code 11 = .ok (.iload_n 1, 1) := by decide +kernel
theorem pd_73 : parseMethodDescriptor "([BI)C" = some ⟨[(.array .byte), .int], some .char⟩ := by decide +kernel
theorem d43_12 : decode jdk_42_method_56_code 12 = .ok (.invokestatic 495, 3) := by decide +kernel
theorem d43_15 : decode jdk_42_method_56_code 15 = .ok (.ireturn, 1) := by decide +kernel
def Q_rmCharAt (Z : State) (a : Addr) (sv : Addr) (ks : ClassId) (z : Int32) (vs : List Value) (i : Int32) (xq : Int32) (cs : Int32) (sf : Value) (h0 : Heap) (n0 : Nat) (v : Option Value) (h : Heap) (L : List Loc) : Prop := v = some (.int (xq &&& (255 : Int32))) ∧ Fr n0 L ∧ h = h0
theorem rmCharAt (l : Launch) (Z : State) (a0 : Array Value) (hw : ∀ d ∈ tables_1, d.before a0 Z = true) (ws : List Jvm.Cond) (a : Addr) (sv : Addr) (ks : ClassId) (z : Int32) (vs : List Value) (i : Int32) (xq : Int32) (cs : Int32) (sf : Value) (h0 : Heap) (n0 : Nat) (Z0 : n0 ≤ h0.size) (O0 : Old Z n0 h0) (E_a : Exa Z h0 a "java/lang/String") (F_a_coder : Fld Z h0 a "java/lang/String" "coder" "B" (.int 0)) (F_a_value : Fld Z h0 a "java/lang/String" "value" "[B" (.ref sv)) (V_sv : Arv Z h0 sv ks .byte z vs (.int 0)) (hi0 : (¬ i < 0)) (hiz : (i < z)) (hat : (vs.getD i.toNatClampNeg (.int 0) = .int xq)) (S_cs : Sta Z Z.heap "java/lang/String" "COMPACT_STRINGS" "Z" (.int cs)) (n_cs : ¬ cs = 0) (S_sf : Sta Z Z.heap "jdk/internal/util/Preconditions" "SIOOBE_FORMATTER" "Ljava/util/function/BiFunction;" sf) (r_sf : sf.isRef = true) :
    MetN l Z ws (⟨"java/lang/String", "charAt", "(I)C"⟩ : MethodName) jdk_42_method_56_code 2 (some .char) ({ frames := 3, cells := 0, slots := 0, locals := 40 } : Room) #[(.ref a), (.int i)] h0 (Q_rmCharAt Z a sv ks z vs i xq cs sf h0 n0) := by
  refine MetN.go (plainFor_of_name pn_3) n0 fun p e s m below meth c s₁ Bd hx hby hml hZ hh hown hnm X0 e0 N0 => ?_
  have hown : s.vm.findClass "java/lang/String" = some m.cls := hown
  refine Go.ent (ef_53 m a i) ?_
  show Go _ _ _ _ s₁ (mkF m 0 #[rv a, iv i] [])
  refine Go.aload1 1 X0 hx (hb hby d43_0) rfl rfl rfl ?_
  obtain ⟨cq1, kq1, q1a, q1b, q1c⟩ := isOf hZ e0 E_a
  obtain ⟨_, _, ⟨T1, L1, k1, n1⟩, -, X1, ⟨Lc1, hQ1, l1, y1, z1⟩, st1⟩ := X0.virtualBack hx (y := (⟨"java/lang/String", "isLatin1", "()Z"⟩ : MethodName)) (z := (⟨"java/lang/String", "isLatin1", "()Z"⟩ : MethodName)) hown (mvT hZ (ow hw 103 rfl)) (mvT hZ (ow hw 104 rfl)) (notFace_of_selects (args := #[]) (mvT hZ (ow hw 106 rfl))) (mvT hZ (ow hw 106 rfl)) (mvT hZ (ow hw 105 rfl)) (by decide) (backOf (W := 0) (rmSL1 l Z a0 hw [] a cs h0 n0 Z0 O0 F_a_coder S_cs n_cs) hZ (ow hw 107 rfl) (ow hw 8 rfl) (by decide) (by decide)) q1a q1c (g := (mkF m 1 #[rv a, iv i] [(.ref a)])) rfl (by rw [hml]; rfl) (Steps.refl _) (argsL := []) (rest := []) (lenOf pd_67 rfl) rfl (by show 2 * 0 + _ ≤ _; exact Nat.le_of_eq rfl) (hb hby d43_1) (fun _ _ => ⟨rfl, e0, (by decide : 0 + 0 ≤ _), (by decide : 0 + 0 ≤ _)⟩)
  dsimp only [Pt.U, Pt.locs, Pt.cells, Pt.slots] at X1 l1 y1 z1 st1 hQ1
  subst l1 y1 z1
  obtain ⟨rfl, N1q, e1⟩ := hQ1
  have N1 := Fr.app N0 N1q
  refine Go.to st1 ?_
  show Go _ _ _ _ T1 (mkF m 4 #[rv a, iv i] [(.int 1)])
  refine Go.ifN 7 X1 hx (hb hby d43_4) (XT.i0_eq_f (by decide)) rfl ?_
  refine Go.aload1 8 X1 hx (hb hby d43_7) rfl rfl rfl ?_
  obtain ⟨T2, X2, e2, st2⟩ := getF X1 hx hZ hown (host := "") (Or.inl (ow hw 33 rfl)) Via.refl e1 F_a_value (g := (mkF m 8 #[rv a, iv i] [(.ref a)])) rfl rfl (hb hby d43_8)
  refine Go.by st2 ?_
  show Go _ _ _ _ T2 (mkF m 11 #[rv a, iv i] [(.ref sv)])
  refine Go.iload1 12 X2 hx (hb hby d43_11) rfl rfl ?_
  obtain ⟨_, _, ⟨T3, L3, k3, n3⟩, -, X3, ⟨Lc3, hQ3, l3, y3, z3⟩, st3⟩ := Jvm.LawKit.callS X2 hx (y := (⟨"java/lang/StringLatin1", "charAt", "([BI)C"⟩ : MethodName)) hown (mvT hZ (ow hw 231 rfl)) (mvT hZ (ow hw 232 rfl)) (mvT hZ (ow hw 110 rfl)) (mvT hZ (ow hw 233 rfl)) (by decide) (backOf (W := 0) (rmLCharAt l Z a0 hw [] sv ks z vs i xq sf h0 n0 Z0 O0 V_sv hi0 hiz hat S_sf r_sf) hZ (ow hw 233 rfl) (ow hw 110 rfl) (by decide) (by decide)) (g := (mkF m 12 #[rv a, iv i] [(.int i), (.ref sv)])) rfl (by rw [hml]; rfl) (argsL := [(.ref sv), (.int i)]) (rest := []) (lenOf pd_73 rfl) rfl (by show 2 * 0 + _ ≤ _; exact Nat.le_of_eq rfl) (hb hby d43_12) (fun _ _ => ⟨rfl, e2, (by decide : 0 + 0 ≤ _), (by decide : 0 + 0 ≤ _)⟩)
  dsimp only [Pt.U, Pt.locs, Pt.cells, Pt.slots] at X3 l3 y3 z3 st3 hQ3
  subst l3 y3 z3
  obtain ⟨rfl, N3q, e3⟩ := hQ3
  have N3 := Fr.app N1 N3q
  refine Go.by st3 ?_
  show Go _ _ _ _ T3 (mkF m 15 #[rv a, iv i] [(.int (xq &&& (255 : Int32)))])
  exact Go.retI X3 hx Bd.notSynchronized Bd.returns (congrArg Value.int (i2c_mask xq)) (by simp) (hb hby d43_15) (by rw [e3]; exact ⟨rfl, N3, rfl⟩) (by decide) (by decide)
theorem pn_76 : plainName "com/example/entries_to_nodes/entriestonodes/component/ServerAddressToStringPinLaw" = true := by first | (simp [plainName, overriddenIn]; done) | decide +kernel
theorem ef_77 (m : MethodId) (x0 : Addr) (x1 : Addr) (x2 : Int32) (x3 : Int32) : entryFrame m #[(.ref x0), (.ref x1), (.int x2), (.int x3)] 4 = mkF m 0 #[rv x0, rv x1, iv x2, iv x3] [] := by (first | (simp [entryFrame, mkF, argsToLocals, Value.category]; done) | rfl)
theorem d42_0 : decode method_3_code 0 = .ok (.iload_n 3, 1) := by decide +kernel
theorem d42_1 : decode method_3_code 1 = .ok (.iload_n 2, 1) := by decide +kernel
theorem d42_2 : decode method_3_code 2 = .ok (.if_icmp .ge 14, 3) := by decide +kernel
theorem d42_5 : decode method_3_code 5 = .ok (.aload_n 0, 1) := by decide +kernel
theorem d42_6 : decode method_3_code 6 = .ok (.iload_n 3, 1) := by decide +kernel
theorem pd_83 : parseMethodDescriptor "(I)C" = some ⟨[.int], some .char⟩ := by decide +kernel
theorem d42_7 : decode method_3_code 7 = .ok (.invokevirtual 7, 3) := by decide +kernel
theorem d42_10 : decode method_3_code 10 = .ok (.aload_n 1, 1) := by decide +kernel
theorem d42_11 : decode method_3_code 11 = .ok (.iload_n 3, 1) := by decide +kernel
theorem d42_12 : decode method_3_code 12 = .ok (.caload, 1) := by decide +kernel
theorem d42_13 : decode method_3_code 13 = .ok (.if_icmp .ne 7, 3) := by decide +kernel
theorem d42_16 : decode method_3_code 16 = .ok (.iconst 1, 1) := by decide +kernel
theorem d42_17 : decode method_3_code 17 = .ok (.goto 4, 3) := by decide +kernel
theorem d42_21 : decode method_3_code 21 = .ok (.ireturn, 1) := by decide +kernel
def Q_rmAt (Z : State) (st : Addr) (sv : Addr) (ks : ClassId) (ss : List Value) (ea : Addr) (ke : ClassId) (es : List Value) (k : Int32) (i : Int32) (kk : Nat) (ii : Nat) (cs : Int32) (sf : Value) (h0 : Heap) (n0 : Nat) (v : Option Value) (h : Heap) (L : List Loc) : Prop := v = some (.int 1) ∧ Fr n0 L ∧ h = h0
theorem rmAt (l : Launch) (Z : State) (a0 : Array Value) (hw : ∀ d ∈ tables_1, d.before a0 Z = true) (ws : List Jvm.Cond) (st : Addr) (sv : Addr) (ks : ClassId) (ss : List Value) (ea : Addr) (ke : ClassId) (es : List Value) (k : Int32) (i : Int32) (kk : Nat) (ii : Nat) (cs : Int32) (sf : Value) (h0 : Heap) (n0 : Nat) (Z0 : n0 ≤ h0.size) (O0 : Old Z n0 h0) (E_st : Exa Z h0 st "java/lang/String") (F_st_coder : Fld Z h0 st "java/lang/String" "coder" "B" (.int 0)) (F_st_value : Fld Z h0 st "java/lang/String" "value" "[B" (.ref sv)) (V_sv : Arv Z h0 sv ks .byte k ss (.int 0)) (V_ea : Arv Z h0 ea ke .char (11 : Int32) es (.int 0)) (hk : (k = Int32.ofNat kk)) (hi : (i = Int32.ofNat ii)) (hkk : (kk ≤ 11)) (hii : (ii < 11)) (hsay : (own_says ss es kk)) (S_cs : Sta Z Z.heap "java/lang/String" "COMPACT_STRINGS" "Z" (.int cs)) (n_cs : ¬ cs = 0) (S_sf : Sta Z Z.heap "jdk/internal/util/Preconditions" "SIOOBE_FORMATTER" "Ljava/util/function/BiFunction;" sf) (r_sf : sf.isRef = true) :
    MetN l Z ws (⟨"com/example/entries_to_nodes/entriestonodes/component/ServerAddressToStringPinLaw", "at", "(Ljava/lang/String;[CII)Z"⟩ : MethodName) method_3_code 4 (some .boolean) ({ frames := 4, cells := 0, slots := 0, locals := 53 } : Room) #[(.ref st), (.ref ea), (.int k), (.int i)] h0 (Q_rmAt Z st sv ks ss ea ke es k i kk ii cs sf h0 n0) := by
  refine MetN.go (plainFor_of_name pn_76) n0 fun p e s m below meth c s₁ Bd hx hby hml hZ hh hown hnm X0 e0 N0 => ?_
  have hown : s.vm.findClass "com/example/entries_to_nodes/entriestonodes/component/ServerAddressToStringPinLaw" = some m.cls := hown
  refine Go.ent (ef_77 m st ea k i) ?_
  show Go _ _ _ _ s₁ (mkF m 0 #[rv st, rv ea, iv k, iv i] [])
  refine Go.iload1 1 X0 hx (hb hby d42_0) rfl rfl ?_
  refine Go.iload1 2 X0 hx (hb hby d42_1) rfl rfl ?_
  by_cases hb1 : i < k
  · refine Go.icmpN 5 X0 hx (hb hby d42_2) (XT.ii_ge_f hb1) rfl ?_
    have hlt : ii < kk := own_lt_of (by omega) (by omega) (by rw [← hi, ← hk]; exact hb1)
    obtain ⟨xq, hs1, hs2⟩ := hsay ii hlt
    refine Go.aload1 6 X0 hx (hb hby d42_5) rfl rfl rfl ?_
    refine Go.iload1 7 X0 hx (hb hby d42_6) rfl rfl ?_
    obtain ⟨cq2, kq2, q2a, q2b, q2c⟩ := isOf hZ e0 E_st
    obtain ⟨_, _, ⟨T2, L2, k2, n2⟩, -, X2, ⟨Lc2, hQ2, l2, y2, z2⟩, st2⟩ := X0.virtualBack hx (y := (⟨"java/lang/String", "charAt", "(I)C"⟩ : MethodName)) (z := (⟨"java/lang/String", "charAt", "(I)C"⟩ : MethodName)) hown (mvT hZ (ow hw 226 rfl)) (mvT hZ (ow hw 227 rfl)) (notFace_of_selects (args := #[]) (mvT hZ (ow hw 229 rfl))) (mvT hZ (ow hw 229 rfl)) (mvT hZ (ow hw 228 rfl)) (by decide) (backOf (W := 0) (rmCharAt l Z a0 hw [] st sv ks k ss i xq cs sf h0 n0 Z0 O0 E_st F_st_coder F_st_value V_sv (by rw [hi]; exact own_ofnn (by omega)) hb1 (by rw [hi, own_ofn (by omega)]; exact hs1) S_cs n_cs S_sf r_sf) hZ (ow hw 230 rfl) (ow hw 8 rfl) (by decide) (by decide)) q2a q2c (g := (mkF m 7 #[rv st, rv ea, iv k, iv i] [(.int i), (.ref st)])) rfl (by rw [hml]; rfl) (Steps.refl _) (argsL := [(.int i)]) (rest := []) (lenOf pd_83 rfl) rfl (by show 2 * 0 + _ ≤ _; exact Nat.le_of_eq rfl) (hb hby d42_7) (fun _ _ => ⟨rfl, e0, (by decide : 0 + 0 ≤ _), (by decide : 0 + 0 ≤ _)⟩)
    dsimp only [Pt.U, Pt.locs, Pt.cells, Pt.slots] at X2 l2 y2 z2 st2 hQ2
    subst l2 y2 z2
    obtain ⟨rfl, N2q, e2⟩ := hQ2
    have N2 := Fr.app N0 N2q
    refine Go.to st2 ?_
    show Go _ _ _ _ T2 (mkF m 10 #[rv st, rv ea, iv k, iv i] [(.int (xq &&& (255 : Int32)))])
    refine Go.aload1 11 X2 hx (hb hby d42_10) rfl rfl rfl ?_
    refine Go.iload1 12 X2 hx (hb hby d42_11) rfl rfl ?_
    obtain ⟨cl3, Ar3, -, S3, M3, H3, -⟩ := id V_ea
    have hin3 : ¬ (i < 0 ∨ cl3.slots.size ≤ i.toNatClampNeg) := inb_of S3 ⟨by rw [hi]; exact own_ofnn (by omega), by rw [hi]; exact own_oflt (j := 11) (by omega) (by omega)⟩
    refine Go.by (fun _ gk => X2.caload hx (j := i) (v := (.int (xq &&& (255 : Int32)))) (by rw [e2]; exact Ar3.1) (State.isArrayOf_alike hZ.alike Ar3.2.1) Ar3.2.2 hin3 (Has.at H3 hin3 (by rw [hi, own_ofn (by omega)]; exact hs2)) (g := (mkF m 12 #[rv st, rv ea, iv k, iv i] [(.int i), (.ref ea), (.int (xq &&& (255 : Int32)))])) rfl rfl (hb hby d42_12) _ gk) ?_
    show Go _ _ _ _ T2 (mkF m 13 #[rv st, rv ea, iv k, iv i] [(.int (xq &&& (255 : Int32))), (.int (xq &&& (255 : Int32)))])
    refine Go.icmpN 16 X2 hx (hb hby d42_13) (XT.ii_ne_f rfl) rfl ?_
    refine Go.iconst 17 X2 hx (1 : Int32) (hb hby d42_16) (by decide) rfl ?_
    refine Go.goto 21 X2 hx (hb hby d42_17) (by decide) (by decide) ?_
    exact Go.retI X2 hx Bd.notSynchronized Bd.returns rfl (by simp) (hb hby d42_21) (by rw [e2]; exact ⟨rfl, N2, rfl⟩) (by decide) (by decide)
  · refine Go.icmpY 16 X0 hx (hb hby d42_2) (XT.ii_ge_t hb1) (by decide) (by decide) ?_
    refine Go.iconst 17 X0 hx (1 : Int32) (hb hby d42_16) (by decide) rfl ?_
    refine Go.goto 21 X0 hx (hb hby d42_17) (by decide) (by decide) ?_
    exact Go.retI X0 hx Bd.notSynchronized Bd.returns rfl (by simp) (hb hby d42_21) (by rw [e0]; exact ⟨rfl, N0, rfl⟩) (by decide) (by decide)
theorem pn_92 : plainName "java/lang/AbstractStringBuilder" = true := by first | (simp [plainName, overriddenIn]; done) | decide +kernel
theorem d12_0 : decode jdk_68_method_2_code 0 = .ok (.aload_n 0, 1) := by decide +kernel
theorem d12_1 : decode jdk_68_method_2_code 1 = .ok (.invokespecial 3, 3) := by decide +kernel
theorem d12_4 : decode jdk_68_method_2_code 4 = .ok (.getstatic 18, 3) := by decide +kernel
theorem d12_7 : decode jdk_68_method_2_code 7 = .ok (.ifCond .eq 18, 3) := by decide +kernel
theorem d12_10 : decode jdk_68_method_2_code 10 = .ok (.aload_n 0, 1) := by decide +kernel
theorem d12_11 : decode jdk_68_method_2_code 11 = .ok (.iload_n 1, 1) := by decide +kernel
theorem d12_12 : decode jdk_68_method_2_code 12 = .ok (.newarray .byte, 2) := by decide +kernel
theorem d12_14 : decode jdk_68_method_2_code 14 = .ok (.putfield 15, 3) := by decide +kernel
theorem d12_17 : decode jdk_68_method_2_code 17 = .ok (.aload_n 0, 1) := by decide +kernel
theorem d12_18 : decode jdk_68_method_2_code 18 = .ok (.iconst 0, 1) := by decide +kernel
theorem d12_19 : decode jdk_68_method_2_code 19 = .ok (.putfield 22, 3) := by decide +kernel
theorem d12_22 : decode jdk_68_method_2_code 22 = .ok (.goto 16, 3) := by decide +kernel
theorem d12_38 : decode jdk_68_method_2_code 38 = .ok (.return_, 1) := by decide +kernel
def Q_rmAsbInit (Z : State) (a : Addr) (cs : Int32) (h0 : Heap) (n0 : Nat) (v : Option Value) (h : Heap) (L : List Loc) : Prop := ∃ b : Addr, ∃ kb : ClassId, v = none ∧ Fr n0 L ∧ Keep h0 h [a] ∧ Exa Z h a "java/lang/StringBuilder" ∧ Fld Z h a "java/lang/AbstractStringBuilder" "coder" "B" (.int 0) ∧ Fld Z h a "java/lang/AbstractStringBuilder" "value" "[B" (.ref b) ∧ Fld Z h a "java/lang/AbstractStringBuilder" "count" "I" (.int 0) ∧ Arv Z h b kb .byte (16 : Int32) ([] : List Value) (.int 0) ∧ h0.size ≤ b
theorem rmAsbInit (l : Launch) (Z : State) (a0 : Array Value) (hw : ∀ d ∈ tables_1, d.before a0 Z = true) (ws : List Jvm.Cond) (a : Addr) (cs : Int32) (h0 : Heap) (n0 : Nat) (Z0 : n0 ≤ h0.size) (O0 : Old Z n0 h0) (E_a : Exa Z h0 a "java/lang/StringBuilder") (F_a_coder : Fld Z h0 a "java/lang/AbstractStringBuilder" "coder" "B" (.int 0)) (F_a_value : Fld Z h0 a "java/lang/AbstractStringBuilder" "value" "[B" .null) (F_a_count : Fld Z h0 a "java/lang/AbstractStringBuilder" "count" "I" (.int 0)) (g_a : n0 ≤ a) (S_cs : Sta Z Z.heap "java/lang/String" "COMPACT_STRINGS" "Z" (.int cs)) (n_cs : ¬ cs = 0) :
    MetN l Z ws (⟨"java/lang/AbstractStringBuilder", "<init>", "(I)V"⟩ : MethodName) jdk_68_method_2_code 2 none ({ frames := 1, cells := 1, slots := 16, locals := 12 } : Room) #[(.ref a), (.int 16)] h0 (Q_rmAsbInit Z a cs h0 n0) := by
  refine MetN.go (plainFor_of_name pn_92) n0 fun p e s m below meth c s₁ Bd hx hby hml hZ hh hown hnm X0 e0 N0 => ?_
  have hown : s.vm.findClass "java/lang/AbstractStringBuilder" = some m.cls := hown
  refine Go.ent (ef_53 m a (16 : Int32)) ?_
  show Go _ _ _ _ s₁ (mkF m 0 #[rv a, iv 16] [])
  refine Go.aload1 1 X0 hx (hb hby d12_0) rfl rfl rfl ?_
  obtain ⟨T1, X1, e1, st1⟩ := initO X0 hx hZ hown (ow hw 70 rfl) (ow hw 17 rfl) (ow hw 18 rfl) e0 (g := (mkF m 1 #[rv a, iv 16] [(.ref a)])) rfl (by rw [hml]; rfl) rfl (hb hby d12_1) (by decide) (W := 0) (by show 2 * 0 + _ ≤ _; exact Nat.le_of_eq rfl) (by decide)
  refine Go.by st1 ?_
  show Go _ _ _ _ T1 (mkF m 4 #[rv a, iv 16] [])
  have F2 : Sta Z h0 "java/lang/String" "COMPACT_STRINGS" "Z" (.int cs) := S_cs.ext O0.2
  obtain ⟨T3, X3, e3, st3⟩ := getS2 X1 hx hZ hown (host := "") (Or.inl (ow hw 71 rfl)) Via.refl e1 F2 (g := (mkF m 4 #[rv a, iv 16] [])) rfl (hb hby d12_4)
  refine Go.by st3 ?_
  show Go _ _ _ _ T3 (mkF m 7 #[rv a, iv 16] [(.int cs)])
  refine Go.ifN 10 X3 hx (hb hby d12_7) (XT.i0_eq_f n_cs) rfl ?_
  refine Go.aload1 11 X3 hx (hb hby d12_10) rfl rfl rfl ?_
  refine Go.iload1 12 X3 hx (hb hby d12_11) rfl rfl ?_
  obtain ⟨b, g4⟩ : ∃ z, z = h0.size := ⟨_, rfl⟩
  have ge_b : n0 ≤ b := Nat.le_trans Z0 (Nat.le_of_eq g4.symm)
  have sz_b : h0.size ≤ b := Nat.le_trans (Keep.refl h0 [a]).1 (Nat.le_of_eq g4.symm)
  have ne_a_b : a ≠ b := Nat.ne_of_lt (Nat.lt_of_lt_of_le E_a.lt (Nat.le_of_eq g4.symm))
  obtain ⟨T4, h4, k4, X4, e4, E4, A4, Ea4, st4⟩ := newPE X3 hx hZ (ow hw 24 rfl) e3 (g := (mkF m 12 #[rv a, iv 16] [(.int 16), (.ref a)])) rfl (hb hby d12_12) rfl (by decide) (cap := 16) (by decide) (by decide) (by decide) (by decide) (ad := "[B") rfl
  rw [← g4] at A4 Ea4 st4
  have V_b : Arv Z h4 b k4 .byte (16 : Int32) [(.int 0), (.int 0), (.int 0), (.int 0), (.int 0), (.int 0), (.int 0), (.int 0), (.int 0), (.int 0), (.int 0), (.int 0), (.int 0), (.int 0), (.int 0), (.int 0)] (.int 0) := (Arv.new A4 (by decide)).pad (pad_rep [] (.int 0) 16)
  refine Go.by st4 ?_
  show Go _ _ _ _ T4 (mkF m 14 #[rv a, iv 16] [(.ref b), (.ref a)])
  have Vn : Arv Z h4 b k4 .byte (16 : Int32) ([] : List Value) (.int 0) := Arv.new A4 (by decide)
  have F5 : Fld Z h4 a "java/lang/AbstractStringBuilder" "value" "[B" .null := F_a_value.ext E4
  have F6 : Exa Z h4 a "java/lang/StringBuilder" := E_a.ext E4
  obtain ⟨T7, h7, X7, e7, W7, st7⟩ := putF X4 hx hZ hown (host := "") (Or.inl (ow hw 72 rfl)) Via.refl e4 F5 F6 (Or.inl (ow hw 73 rfl)) (ow hw 59 rfl) (ty := (.array .byte)) (by decide) rfl rfl (g := (mkF m 14 #[rv a, iv 16] [(.ref b), (.ref a)])) rfl rfl (hb hby d12_14)
  have N7 := Fr.snoc X7 N0 g_a
  have Fw7 : Fld Z h7 a "java/lang/AbstractStringBuilder" "value" "[B" (.ref b) := F5.same W7
  refine Go.by st7 ?_
  show Go _ _ _ _ T7 (mkF m 17 #[rv a, iv 16] [])
  refine Go.aload1 18 X7 hx (hb hby d12_17) rfl rfl rfl ?_
  refine Go.iconst 19 X7 hx (0 : Int32) (hb hby d12_18) (by decide) rfl ?_
  have F8 : Fld Z h4 a "java/lang/AbstractStringBuilder" "coder" "B" (.int 0) := F_a_coder.ext E4
  have F9 : Fld Z h7 a "java/lang/AbstractStringBuilder" "coder" "B" (.int 0) := F8.other W7 (Or.inr (slot_ne (Or.inl (ow hw 75 rfl)) (Or.inl (ow hw 73 rfl)) (by decide) (t := .byte) (t' := (.array .byte)) (by decide) (by decide)))
  have F10 : Exa Z h7 a "java/lang/StringBuilder" := F6.wr W7
  obtain ⟨T11, h11, X11, e11, W11, st11⟩ := putFN X7 hx hZ hown (ow hw 74 rfl) Via.refl e7 F9 F10 (Or.inl (ow hw 75 rfl)) (ow hw 59 rfl) (ty := .byte) (v' := (.int 0)) (by decide) rfl rfl (g := (mkF m 19 #[rv a, iv 16] [(.int 0), (.ref a)])) rfl rfl (hb hby d12_19)
  have N11 := Fr.snoc X11 N7 g_a
  have Fw11 : Fld Z h11 a "java/lang/AbstractStringBuilder" "coder" "B" (.int 0) := F9.same W11
  refine Go.by st11 ?_
  show Go _ _ _ _ T11 (mkF m 22 #[rv a, iv 16] [])
  refine Go.goto 38 X11 hx (hb hby d12_22) (by decide) (by decide) ?_
  have F12 : Keep h0 h4 [a] := (Keep.refl h0 [a]).ext E4
  have F13 : Keep h0 h7 [a] := F12.wr W7 (Or.inl (List.mem_of_getElem? (i := 0) rfl))
  have F14 : Keep h0 h11 [a] := F13.wr W11 (Or.inl (List.mem_of_getElem? (i := 0) rfl))
  have F15 : Exa Z h11 a "java/lang/StringBuilder" := F10.wr W11
  have F16 : Fld Z h11 a "java/lang/AbstractStringBuilder" "value" "[B" (.ref b) := Fw7.other W11 (Or.inr (slot_ne (Or.inl (ow hw 73 rfl)) (Or.inl (ow hw 75 rfl)) (by decide) (t := (.array .byte)) (t' := .byte) (by decide) (by decide)))
  have F17 : Fld Z h4 a "java/lang/AbstractStringBuilder" "count" "I" (.int 0) := F_a_count.ext E4
  have F18 : Fld Z h7 a "java/lang/AbstractStringBuilder" "count" "I" (.int 0) := F17.other W7 (Or.inr (slot_ne (Or.inl (ow hw 132 rfl)) (Or.inl (ow hw 73 rfl)) (by decide) (t := .int) (t' := (.array .byte)) (by decide) (by decide)))
  have F19 : Fld Z h11 a "java/lang/AbstractStringBuilder" "count" "I" (.int 0) := F18.other W11 (Or.inr (slot_ne (Or.inl (ow hw 132 rfl)) (Or.inl (ow hw 75 rfl)) (by decide) (t := .int) (t' := .byte) (by decide) (by decide)))
  have F20 : Arv Z h7 b k4 .byte (16 : Int32) ([] : List Value) (.int 0) := Vn.other W7 (Ne.symm ne_a_b)
  have F21 : Arv Z h11 b k4 .byte (16 : Int32) ([] : List Value) (.int 0) := F20.other W11 (Ne.symm ne_a_b)
  exact Go.retV X11 hx Bd.notSynchronized Bd.returns (hb hby d12_38) (by rw [e11]; exact ⟨b, k4, rfl, N11, F14, F15, Fw11, F16, F19, F21, sz_b⟩) (by decide) (by decide)
theorem pn_106 : plainName "java/lang/StringBuilder" = true := by first | (simp [plainName, overriddenIn]; done) | decide +kernel
theorem d11_0 : decode jdk_67_method_1_code 0 = .ok (.aload_n 0, 1) := by decide +kernel
theorem d11_1 : decode jdk_67_method_1_code 1 = .ok (.bipush 16, 2) := by decide +kernel
theorem pd_109 : parseMethodDescriptor "(I)V" = some ⟨[.int], none⟩ := by decide +kernel
theorem d11_3 : decode jdk_67_method_1_code 3 = .ok (.invokespecial 1, 3) := by decide +kernel
theorem d11_6 : decode jdk_67_method_1_code 6 = .ok (.return_, 1) := by decide +kernel
def Q_rmSbInit (Z : State) (a : Addr) (cs : Int32) (h0 : Heap) (n0 : Nat) (v : Option Value) (h : Heap) (L : List Loc) : Prop := ∃ b : Addr, ∃ kb : ClassId, v = none ∧ Fr n0 L ∧ Keep h0 h [a] ∧ Exa Z h a "java/lang/StringBuilder" ∧ Fld Z h a "java/lang/AbstractStringBuilder" "coder" "B" (.int 0) ∧ Fld Z h a "java/lang/AbstractStringBuilder" "value" "[B" (.ref b) ∧ Fld Z h a "java/lang/AbstractStringBuilder" "count" "I" (.int 0) ∧ Arv Z h b kb .byte (16 : Int32) ([] : List Value) (.int 0) ∧ h0.size ≤ b
theorem rmSbInit (l : Launch) (Z : State) (a0 : Array Value) (hw : ∀ d ∈ tables_1, d.before a0 Z = true) (ws : List Jvm.Cond) (a : Addr) (cs : Int32) (h0 : Heap) (n0 : Nat) (Z0 : n0 ≤ h0.size) (O0 : Old Z n0 h0) (E_a : Exa Z h0 a "java/lang/StringBuilder") (F_a_coder : Fld Z h0 a "java/lang/AbstractStringBuilder" "coder" "B" (.int 0)) (F_a_value : Fld Z h0 a "java/lang/AbstractStringBuilder" "value" "[B" .null) (F_a_count : Fld Z h0 a "java/lang/AbstractStringBuilder" "count" "I" (.int 0)) (g_a : n0 ≤ a) (S_cs : Sta Z Z.heap "java/lang/String" "COMPACT_STRINGS" "Z" (.int cs)) (n_cs : ¬ cs = 0) :
    MetN l Z ws (⟨"java/lang/StringBuilder", "<init>", "()V"⟩ : MethodName) jdk_67_method_1_code 1 none ({ frames := 2, cells := 1, slots := 16, locals := 25 } : Room) #[(.ref a)] h0 (Q_rmSbInit Z a cs h0 n0) := by
  refine MetN.go (plainFor_of_name pn_106) n0 fun p e s m below meth c s₁ Bd hx hby hml hZ hh hown hnm X0 e0 N0 => ?_
  have hown : s.vm.findClass "java/lang/StringBuilder" = some m.cls := hown
  refine Go.ent (ef_4 m a) ?_
  show Go _ _ _ _ s₁ (mkF m 0 #[rv a] [])
  refine Go.aload1 1 X0 hx (hb hby d11_0) rfl rfl rfl ?_
  refine Go.bipush 3 X0 hx (16 : Int32) (hb hby d11_1) (by decide) rfl ?_
  obtain ⟨_, _, ⟨T1, L1, k1, n1⟩, -, X1, ⟨Lc1, hQ1, l1, y1, z1⟩, st1⟩ := X0.specialBack hx (y := (⟨"java/lang/AbstractStringBuilder", "<init>", "(I)V"⟩ : MethodName)) rfl hown (mvT hZ (ow hw 64 rfl)) (mvT hZ (ow hw 65 rfl)) (mvT hZ (ow hw 69 rfl)) (by decide) (backOf (W := 0) (rmAsbInit l Z a0 hw [] a cs h0 n0 Z0 O0 E_a F_a_coder F_a_value F_a_count g_a S_cs n_cs) hZ (ow hw 69 rfl) (ow hw 68 rfl) (by decide) (by decide)) (g := (mkF m 3 #[rv a] [(.int 16), (.ref a)])) rfl (by rw [hml]; rfl) (Steps.refl _) (a := a) (argsL := [(.int 16)]) (rest := []) (lenOf pd_109 rfl) rfl (by show 2 * 0 + _ ≤ _; exact Nat.le_of_eq rfl) (hb hby d11_3) (fun _ _ => ⟨rfl, e0, (by decide : 0 + 1 ≤ _), (by decide : 0 + 16 ≤ _)⟩)
  dsimp only [Pt.U, Pt.locs, Pt.cells, Pt.slots] at X1 l1 y1 z1 st1 hQ1
  subst l1 y1 z1
  obtain ⟨b, kb, rfl, N1q, K1, Q1_0, Q1_1, Q1_2, Q1_3, Q1_4, Q1_5⟩ := hQ1
  have N1 := Fr.app N0 N1q
  refine Go.to st1 ?_
  show Go _ _ _ _ T1 (mkF m 6 #[rv a] [])
  have ge_b : n0 ≤ b := Nat.le_trans Z0 Q1_5
  have sz_b : h0.size ≤ b := Nat.le_trans (Keep.refl h0 [a]).1 Q1_5
  have ne_a_b : a ≠ b := Nat.ne_of_lt (Nat.lt_of_lt_of_le E_a.lt Q1_5)
  have F2 : Keep h0 T1.heap [a] := (Keep.refl h0 [a]).trans K1 (allS (Or.inl (List.mem_of_getElem? (i := 0) rfl)) all0)
  exact Go.retV X1 hx Bd.notSynchronized Bd.returns (hb hby d11_6) ⟨b, kb, rfl, N1, F2, Q1_0, Q1_1, Q1_2, Q1_3, Q1_4, sz_b⟩ (by decide) (by decide)
theorem ef_112 (m : MethodId) (x0 : Addr) (x1 : Int32) : entryFrame m #[(.ref x0), (.int x1)] 3 = mkF m 0 #[rv x0, iv x1, un] [] := by (first | (simp [entryFrame, mkF, argsToLocals, Value.category]; done) | rfl)
theorem d23_0 : decode jdk_68_method_9_code 0 = .ok (.aload_n 0, 1) := by decide +kernel
theorem d23_1 : decode jdk_68_method_9_code 1 = .ok (.getfield 15, 3) := by decide +kernel
theorem d23_4 : decode jdk_68_method_9_code 4 = .ok (.arraylength, 1) := by decide +kernel
theorem d23_5 : decode jdk_68_method_9_code 5 = .ok (.aload_n 0, 1) := by decide +kernel
theorem d23_6 : decode jdk_68_method_9_code 6 = .ok (.getfield 22, 3) := by decide +kernel
theorem d23_9 : decode jdk_68_method_9_code 9 = .ok (.ishr, 1) := by decide +kernel
theorem d23_10 : decode jdk_68_method_9_code 10 = .ok (.istore_n 2, 1) := by decide +kernel
theorem d23_11 : decode jdk_68_method_9_code 11 = .ok (.iload_n 1, 1) := by decide +kernel
theorem d23_12 : decode jdk_68_method_9_code 12 = .ok (.iload_n 2, 1) := by decide +kernel
theorem d23_13 : decode jdk_68_method_9_code 13 = .ok (.isub, 1) := by decide +kernel
theorem d23_14 : decode jdk_68_method_9_code 14 = .ok (.ifCond .le 24, 3) := by decide +kernel
theorem d23_38 : decode jdk_68_method_9_code 38 = .ok (.return_, 1) := by decide +kernel
def Q_rmEnsure (Z : State) (a : Addr) (b : Addr) (kb : ClassId) (xs : List Value) (xw : Int32) (h0 : Heap) (n0 : Nat) (v : Option Value) (h : Heap) (L : List Loc) : Prop := v = none ∧ Fr n0 L ∧ h = h0
theorem rmEnsure (l : Launch) (Z : State) (a0 : Array Value) (hw : ∀ d ∈ tables_1, d.before a0 Z = true) (ws : List Jvm.Cond) (a : Addr) (b : Addr) (kb : ClassId) (xs : List Value) (xw : Int32) (h0 : Heap) (n0 : Nat) (Z0 : n0 ≤ h0.size) (F_a_coder : Fld Z h0 a "java/lang/AbstractStringBuilder" "coder" "B" (.int 0)) (F_a_value : Fld Z h0 a "java/lang/AbstractStringBuilder" "value" "[B" (.ref b)) (V_b : Arv Z h0 b kb .byte (16 : Int32) xs (.int 0)) (hcap : (¬ (0 : Int32) < xw - 16)) :
    MetN l Z ws (⟨"java/lang/AbstractStringBuilder", "ensureCapacityInternal", "(I)V"⟩ : MethodName) jdk_68_method_9_code 3 none ({ frames := 0, cells := 0, slots := 0, locals := 0 } : Room) #[(.ref a), (.int xw)] h0 (Q_rmEnsure Z a b kb xs xw h0 n0) := by
  refine MetN.go (plainFor_of_name pn_92) n0 fun p e s m below meth c s₁ Bd hx hby hml hZ hh hown hnm X0 e0 N0 => ?_
  have hown : s.vm.findClass "java/lang/AbstractStringBuilder" = some m.cls := hown
  refine Go.ent (ef_112 m a xw) ?_
  show Go _ _ _ _ s₁ (mkF m 0 #[rv a, iv xw, un] [])
  refine Go.aload1 1 X0 hx (hb hby d23_0) rfl rfl rfl ?_
  obtain ⟨T1, X1, e1, st1⟩ := getF X0 hx hZ hown (host := "") (Or.inl (ow hw 72 rfl)) Via.refl e0 F_a_value (g := (mkF m 1 #[rv a, iv xw, un] [(.ref a)])) rfl rfl (hb hby d23_1)
  refine Go.by st1 ?_
  show Go _ _ _ _ T1 (mkF m 4 #[rv a, iv xw, un] [(.ref b)])
  obtain ⟨cl2, Ar2, -, S2, M2, -, -⟩ := id V_b
  refine Go.by (fun _ gk => X1.arraylength hx (by rw [e1]; exact Ar2.1) (State.isArrayOf_alike hZ.alike Ar2.2.1) (g := (mkF m 4 #[rv a, iv xw, un] [(.ref b)])) rfl rfl (hb hby d23_4) _ gk) ?_
  rw [len_of S2 M2]
  show Go _ _ _ _ T1 (mkF m 5 #[rv a, iv xw, un] [(.int 16)])
  refine Go.aload1 6 X1 hx (hb hby d23_5) rfl rfl rfl ?_
  obtain ⟨T3, X3, e3, st3⟩ := getF X1 hx hZ hown (host := "") (Or.inl (ow hw 74 rfl)) Via.refl e1 F_a_coder (g := (mkF m 6 #[rv a, iv xw, un] [(.ref a), (.int 16)])) rfl rfl (hb hby d23_6)
  refine Go.by st3 ?_
  show Go _ _ _ _ T3 (mkF m 9 #[rv a, iv xw, un] [(.int 0), (.int 16)])
  refine Go.ishr 10 X3 hx (hb hby d23_9) rfl ?_
  rw [(by decide : ((16 : Int32) >>> ((0 : Int32) &&& 31)) = (16 : Int32))]
  refine Go.istore1 11 X3 hx (L' := #[rv a, iv xw, iv 16]) (hb hby d23_10) rfl rfl ?_
  refine Go.iload1 12 X3 hx (hb hby d23_11) rfl rfl ?_
  refine Go.iload1 13 X3 hx (hb hby d23_12) rfl rfl ?_
  refine Go.isub 14 X3 hx (hb hby d23_13) rfl ?_
  refine Go.ifY 38 X3 hx (hb hby d23_14) (XT.i0_le_t hcap) (by decide) (by decide) ?_
  exact Go.retV X3 hx Bd.notSynchronized Bd.returns (hb hby d23_38) (by rw [e3]; exact ⟨rfl, N0, rfl⟩) (by decide) (by decide)
theorem ef_125 (m : MethodId) (x0 : Addr) (x1 : Addr) : entryFrame m #[(.ref x0), (.ref x1)] 2 = mkF m 0 #[rv x0, rv x1] [] := by (first | (simp [entryFrame, mkF, argsToLocals, Value.category]; done) | rfl)
theorem d25_0 : decode jdk_68_method_71_code 0 = .ok (.getstatic 18, 3) := by decide +kernel
theorem d25_3 : decode jdk_68_method_71_code 3 = .ok (.ifCond .eq 18, 3) := by decide +kernel
theorem d25_6 : decode jdk_68_method_71_code 6 = .ok (.aload_n 0, 1) := by decide +kernel
theorem d25_7 : decode jdk_68_method_71_code 7 = .ok (.getfield 22, 3) := by decide +kernel
theorem d25_10 : decode jdk_68_method_71_code 10 = .ok (.aload_n 1, 1) := by decide +kernel
theorem d25_11 : decode jdk_68_method_71_code 11 = .ok (.invokevirtual 40, 3) := by decide +kernel
theorem d25_14 : decode jdk_68_method_71_code 14 = .ok (.if_icmp .eq 7, 3) := by decide +kernel
theorem d25_21 : decode jdk_68_method_71_code 21 = .ok (.return_, 1) := by decide +kernel
def Q_rmInflate (Z : State) (a : Addr) (st : Addr) (cs : Int32) (h0 : Heap) (n0 : Nat) (v : Option Value) (h : Heap) (L : List Loc) : Prop := v = none ∧ Fr n0 L ∧ h = h0
theorem rmInflate (l : Launch) (Z : State) (a0 : Array Value) (hw : ∀ d ∈ tables_1, d.before a0 Z = true) (ws : List Jvm.Cond) (a : Addr) (st : Addr) (cs : Int32) (h0 : Heap) (n0 : Nat) (Z0 : n0 ≤ h0.size) (O0 : Old Z n0 h0) (F_a_coder : Fld Z h0 a "java/lang/AbstractStringBuilder" "coder" "B" (.int 0)) (E_st : Exa Z h0 st "java/lang/String") (F_st_coder : Fld Z h0 st "java/lang/String" "coder" "B" (.int 0)) (S_cs : Sta Z Z.heap "java/lang/String" "COMPACT_STRINGS" "Z" (.int cs)) (n_cs : ¬ cs = 0) :
    MetN l Z ws (⟨"java/lang/AbstractStringBuilder", "inflateIfNeededFor", "(Ljava/lang/String;)V"⟩ : MethodName) jdk_68_method_71_code 2 none ({ frames := 1, cells := 0, slots := 0, locals := 13 } : Room) #[(.ref a), (.ref st)] h0 (Q_rmInflate Z a st cs h0 n0) := by
  refine MetN.go (plainFor_of_name pn_92) n0 fun p e s m below meth c s₁ Bd hx hby hml hZ hh hown hnm X0 e0 N0 => ?_
  have hown : s.vm.findClass "java/lang/AbstractStringBuilder" = some m.cls := hown
  refine Go.ent (ef_125 m a st) ?_
  show Go _ _ _ _ s₁ (mkF m 0 #[rv a, rv st] [])
  have F1 : Sta Z h0 "java/lang/String" "COMPACT_STRINGS" "Z" (.int cs) := S_cs.ext O0.2
  obtain ⟨T2, X2, e2, st2⟩ := getS2 X0 hx hZ hown (host := "") (Or.inl (ow hw 71 rfl)) Via.refl e0 F1 (g := (mkF m 0 #[rv a, rv st] [])) rfl (hb hby d25_0)
  refine Go.by st2 ?_
  show Go _ _ _ _ T2 (mkF m 3 #[rv a, rv st] [(.int cs)])
  refine Go.ifN 6 X2 hx (hb hby d25_3) (XT.i0_eq_f n_cs) rfl ?_
  refine Go.aload1 7 X2 hx (hb hby d25_6) rfl rfl rfl ?_
  obtain ⟨T3, X3, e3, st3⟩ := getF X2 hx hZ hown (host := "") (Or.inl (ow hw 74 rfl)) Via.refl e2 F_a_coder (g := (mkF m 7 #[rv a, rv st] [(.ref a)])) rfl rfl (hb hby d25_7)
  refine Go.by st3 ?_
  show Go _ _ _ _ T3 (mkF m 10 #[rv a, rv st] [(.int 0)])
  refine Go.aload1 11 X3 hx (hb hby d25_10) rfl rfl rfl ?_
  obtain ⟨cq4, kq4, q4a, q4b, q4c⟩ := isOf hZ e3 E_st
  obtain ⟨_, _, ⟨T4, L4, k4, n4⟩, -, X4, ⟨Lc4, hQ4, l4, y4, z4⟩, st4⟩ := X3.virtualBack hx (y := (⟨"java/lang/String", "coder", "()B"⟩ : MethodName)) (z := (⟨"java/lang/String", "coder", "()B"⟩ : MethodName)) hown (mvT hZ (ow hw 148 rfl)) (mvT hZ (ow hw 99 rfl)) (notFace_of_selects (args := #[]) (mvT hZ (ow hw 101 rfl))) (mvT hZ (ow hw 101 rfl)) (mvT hZ (ow hw 100 rfl)) (by decide) (backOf (W := 1) (rmSCoder l Z a0 hw [] st cs h0 n0 Z0 O0 F_st_coder S_cs n_cs) hZ (ow hw 102 rfl) (ow hw 8 rfl) (by decide) (by decide)) q4a q4c (g := (mkF m 11 #[rv a, rv st] [(.ref st), (.int 0)])) rfl (by rw [hml]; rfl) (Steps.refl _) (argsL := []) (rest := [(.int 0)]) (lenOf pd_23 rfl) rfl (by show 2 * 0 + _ ≤ _; exact Nat.le_of_eq rfl) (hb hby d25_11) (fun _ _ => ⟨rfl, e3, (by decide : 0 + 0 ≤ _), (by decide : 0 + 0 ≤ _)⟩)
  dsimp only [Pt.U, Pt.locs, Pt.cells, Pt.slots] at X4 l4 y4 z4 st4 hQ4
  subst l4 y4 z4
  obtain ⟨rfl, N4q, e4⟩ := hQ4
  have N4 := Fr.app N0 N4q
  refine Go.to st4 ?_
  show Go _ _ _ _ T4 (mkF m 14 #[rv a, rv st] [(.int 0), (.int 0)])
  refine Go.icmpY 21 X4 hx (hb hby d25_14) (XT.ii_eq_t rfl) (by decide) (by decide) ?_
  exact Go.retV X4 hx Bd.notSynchronized Bd.returns (hb hby d25_21) (by rw [e4]; exact ⟨rfl, N4, rfl⟩) (by decide) (by decide)
theorem d26_0 : decode jdk_42_method_147_code 0 = .ok (.aload_n 0, 1) := by decide +kernel
theorem d26_1 : decode jdk_42_method_147_code 1 = .ok (.invokevirtual 335, 3) := by decide +kernel
theorem d26_4 : decode jdk_42_method_147_code 4 = .ok (.iload_n 3, 1) := by decide +kernel
theorem d26_5 : decode jdk_42_method_147_code 5 = .ok (.if_icmp .ne 23, 3) := by decide +kernel
theorem d26_8 : decode jdk_42_method_147_code 8 = .ok (.aload_n 0, 1) := by decide +kernel
theorem d26_9 : decode jdk_42_method_147_code 9 = .ok (.getfield 9, 3) := by decide +kernel
theorem d26_12 : decode jdk_42_method_147_code 12 = .ok (.iconst 0, 1) := by decide +kernel
theorem d26_13 : decode jdk_42_method_147_code 13 = .ok (.aload_n 1, 1) := by decide +kernel
theorem d26_14 : decode jdk_42_method_147_code 14 = .ok (.iload_n 2, 1) := by decide +kernel
theorem d26_15 : decode jdk_42_method_147_code 15 = .ok (.iload_n 3, 1) := by decide +kernel
theorem d26_16 : decode jdk_42_method_147_code 16 = .ok (.ishl, 1) := by decide +kernel
theorem d26_17 : decode jdk_42_method_147_code 17 = .ok (.aload_n 0, 1) := by decide +kernel
theorem d26_18 : decode jdk_42_method_147_code 18 = .ok (.getfield 9, 3) := by decide +kernel
theorem d26_21 : decode jdk_42_method_147_code 21 = .ok (.arraylength, 1) := by decide +kernel
theorem d26_22 : decode jdk_42_method_147_code 22 = .ok (.invokestatic 212, 3) := by decide +kernel
theorem d26_25 : decode jdk_42_method_147_code 25 = .ok (.goto 18, 3) := by decide +kernel
theorem d26_43 : decode jdk_42_method_147_code 43 = .ok (.return_, 1) := by decide +kernel
def Q_rmGetBytes (Z : State) (st : Addr) (sv : Addr) (ks : ClassId) (b : Addr) (kb : ClassId) (xs : List Value) (vs : List Value) (us : List Value) (cs : Int32) (h0 : Heap) (n0 : Nat) (v : Option Value) (h : Heap) (L : List Loc) : Prop := v = none ∧ Fr n0 L ∧ Keep h0 h [b] ∧ Arv Z h b kb .byte (16 : Int32) us (.int 0)
theorem rmGetBytes (l : Launch) (Z : State) (a0 : Array Value) (hw : ∀ d ∈ tables_1, d.before a0 Z = true) (ws : List Jvm.Cond) (st : Addr) (sv : Addr) (ks : ClassId) (b : Addr) (kb : ClassId) (xs : List Value) (vs : List Value) (us : List Value) (cs : Int32) (h0 : Heap) (n0 : Nat) (Z0 : n0 ≤ h0.size) (O0 : Old Z n0 h0) (E_st : Exa Z h0 st "java/lang/String") (F_st_coder : Fld Z h0 st "java/lang/String" "coder" "B" (.int 0)) (F_st_value : Fld Z h0 st "java/lang/String" "value" "[B" (.ref sv)) (V_sv : Arv Z h0 sv ks .byte (Int32.ofNat vs.length) vs (.int 0)) (V_b : Arv Z h0 b kb .byte (16 : Int32) xs (.int 0)) (g_b : n0 ≤ b) (hus : (us = xs ++ vs)) (h16 : (us.length ≤ 16)) (S_cs : Sta Z Z.heap "java/lang/String" "COMPACT_STRINGS" "Z" (.int cs)) (n_cs : ¬ cs = 0) :
    MetN l Z ws (⟨"java/lang/String", "getBytes", "([BIB)V"⟩ : MethodName) jdk_42_method_147_code 4 none ({ frames := 1, cells := 0, slots := 0, locals := 40 } : Room) #[(.ref st), (.ref b), (.int (Int32.ofNat xs.length)), (.int 0)] h0 (Q_rmGetBytes Z st sv ks b kb xs vs us cs h0 n0) := by
  refine MetN.go (plainFor_of_name pn_3) n0 fun p e s m below meth c s₁ Bd hx hby hml hZ hh hown hnm X0 e0 N0 => ?_
  have hown : s.vm.findClass "java/lang/String" = some m.cls := hown
  refine Go.ent (ef_77 m st b (Int32.ofNat xs.length) (0 : Int32)) ?_
  show Go _ _ _ _ s₁ (mkF m 0 #[rv st, rv b, iv (Int32.ofNat xs.length), iv 0] [])
  have hl : xs.length + vs.length ≤ 16 := by have q := h16; rw [hus, List.length_append] at q; exact q
  refine Go.aload1 1 X0 hx (hb hby d26_0) rfl rfl rfl ?_
  obtain ⟨cq1, kq1, q1a, q1b, q1c⟩ := isOf hZ e0 E_st
  obtain ⟨_, _, ⟨T1, L1, k1, n1⟩, -, X1, ⟨Lc1, hQ1, l1, y1, z1⟩, st1⟩ := X0.virtualBack hx (y := (⟨"java/lang/String", "coder", "()B"⟩ : MethodName)) (z := (⟨"java/lang/String", "coder", "()B"⟩ : MethodName)) hown (mvT hZ (ow hw 98 rfl)) (mvT hZ (ow hw 99 rfl)) (notFace_of_selects (args := #[]) (mvT hZ (ow hw 101 rfl))) (mvT hZ (ow hw 101 rfl)) (mvT hZ (ow hw 100 rfl)) (by decide) (backOf (W := 0) (rmSCoder l Z a0 hw [] st cs h0 n0 Z0 O0 F_st_coder S_cs n_cs) hZ (ow hw 102 rfl) (ow hw 8 rfl) (by decide) (by decide)) q1a q1c (g := (mkF m 1 #[rv st, rv b, iv (Int32.ofNat xs.length), iv 0] [(.ref st)])) rfl (by rw [hml]; rfl) (Steps.refl _) (argsL := []) (rest := []) (lenOf pd_23 rfl) rfl (by show 2 * 0 + _ ≤ _; exact Nat.le_of_eq rfl) (hb hby d26_1) (fun _ _ => ⟨rfl, e0, (by decide : 0 + 0 ≤ _), (by decide : 0 + 0 ≤ _)⟩)
  dsimp only [Pt.U, Pt.locs, Pt.cells, Pt.slots] at X1 l1 y1 z1 st1 hQ1
  subst l1 y1 z1
  obtain ⟨rfl, N1q, e1⟩ := hQ1
  have N1 := Fr.app N0 N1q
  refine Go.to st1 ?_
  show Go _ _ _ _ T1 (mkF m 4 #[rv st, rv b, iv (Int32.ofNat xs.length), iv 0] [(.int 0)])
  refine Go.iload1 5 X1 hx (hb hby d26_4) rfl rfl ?_
  refine Go.icmpN 8 X1 hx (hb hby d26_5) (XT.ii_ne_f rfl) rfl ?_
  refine Go.aload1 9 X1 hx (hb hby d26_8) rfl rfl rfl ?_
  obtain ⟨T2, X2, e2, st2⟩ := getF X1 hx hZ hown (host := "") (Or.inl (ow hw 33 rfl)) Via.refl e1 F_st_value (g := (mkF m 9 #[rv st, rv b, iv (Int32.ofNat xs.length), iv 0] [(.ref st)])) rfl rfl (hb hby d26_9)
  refine Go.by st2 ?_
  show Go _ _ _ _ T2 (mkF m 12 #[rv st, rv b, iv (Int32.ofNat xs.length), iv 0] [(.ref sv)])
  refine Go.iconst 13 X2 hx (0 : Int32) (hb hby d26_12) (by decide) rfl ?_
  refine Go.aload1 14 X2 hx (hb hby d26_13) rfl rfl rfl ?_
  refine Go.iload1 15 X2 hx (hb hby d26_14) rfl rfl ?_
  refine Go.iload1 16 X2 hx (hb hby d26_15) rfl rfl ?_
  refine Go.ishl 17 X2 hx (hb hby d26_16) rfl ?_
  refine Go.aload1 18 X2 hx (hb hby d26_17) rfl rfl rfl ?_
  rw [own_shl0 _]
  show Go _ _ _ _ T2 (mkF m 18 #[rv st, rv b, iv (Int32.ofNat xs.length), iv 0] [(.ref st), (.int (Int32.ofNat xs.length)), (.ref b), (.int 0), (.ref sv)])
  obtain ⟨T3, X3, e3, st3⟩ := getF X2 hx hZ hown (host := "") (Or.inl (ow hw 33 rfl)) Via.refl e2 F_st_value (g := (mkF m 18 #[rv st, rv b, iv (Int32.ofNat xs.length), iv 0] [(.ref st), (.int (Int32.ofNat xs.length)), (.ref b), (.int 0), (.ref sv)])) rfl rfl (hb hby d26_18)
  refine Go.by st3 ?_
  show Go _ _ _ _ T3 (mkF m 21 #[rv st, rv b, iv (Int32.ofNat xs.length), iv 0] [(.ref sv), (.int (Int32.ofNat xs.length)), (.ref b), (.int 0), (.ref sv)])
  obtain ⟨cl4, Ar4, -, S4, M4, -, -⟩ := id V_sv
  refine Go.by (fun _ gk => X3.arraylength hx (by rw [e3]; exact Ar4.1) (State.isArrayOf_alike hZ.alike Ar4.2.1) (g := (mkF m 21 #[rv st, rv b, iv (Int32.ofNat xs.length), iv 0] [(.ref sv), (.int (Int32.ofNat xs.length)), (.ref b), (.int 0), (.ref sv)])) rfl rfl (hb hby d26_21) _ gk) ?_
  rw [len_of S4 M4]
  show Go _ _ _ _ T3 (mkF m 22 #[rv st, rv b, iv (Int32.ofNat xs.length), iv 0] [(.int (Int32.ofNat vs.length)), (.int (Int32.ofNat xs.length)), (.ref b), (.int 0), (.ref sv)])
  obtain ⟨T5, h5, X5, e5, K5, V5, st5⟩ := own_acopy X3 hx hZ hown (ow hw 154 rfl) (ow hw 157 rfl) (ow hw 155 rfl) (ow hw 156 rfl) e3 V_sv V_b 0 xs.length vs.length rfl rfl rfl (by rw [own_ofn (by omega)]; omega) (by rw [own_16]; exact hl) (g := (mkF m 22 #[rv st, rv b, iv (Int32.ofNat xs.length), iv 0] [(.int (Int32.ofNat vs.length)), (.int (Int32.ofNat xs.length)), (.ref b), (.int 0), (.ref sv)])) rfl (by rw [hml]; rfl) rfl (hb hby d26_22) (W := 0) (by show 2 * 0 + _ ≤ _; exact Nat.le_of_eq rfl) (by decide) (by decide)
  have N5 := own_copyFr (b := b) (q := xs.length) (n := vs.length) N1 g_b
  refine Go.by st5 ?_
  show Go _ _ _ _ T5 (mkF m 25 #[rv st, rv b, iv (Int32.ofNat xs.length), iv 0] [])
  have Vu : Arv Z h5 b kb .byte (16 : Int32) us (.int 0) := own_arv_put hus V5
  refine Go.goto 43 X5 hx (hb hby d26_25) (by decide) (by decide) ?_
  have F6 : Keep h0 h5 [b] := (Keep.refl h0 [b]).trans K5 (allS (Or.inl (List.mem_of_getElem? (i := 0) rfl)) all0)
  exact Go.retV X5 hx Bd.notSynchronized Bd.returns (hb hby d26_43) (by rw [e5]; exact ⟨rfl, N5, F6, Vu⟩) (by decide) (by decide)
theorem ef_151 (m : MethodId) (x0 : Addr) (x1 : Int32) (x2 : Addr) : entryFrame m #[(.ref x0), (.int x1), (.ref x2)] 3 = mkF m 0 #[rv x0, iv x1, rv x2] [] := by (first | (simp [entryFrame, mkF, argsToLocals, Value.category]; done) | rfl)
theorem d24_0 : decode jdk_68_method_73_code 0 = .ok (.aload_n 0, 1) := by decide +kernel
theorem d24_1 : decode jdk_68_method_73_code 1 = .ok (.aload_n 2, 1) := by decide +kernel
theorem pd_154 : parseMethodDescriptor "(Ljava/lang/String;)V" = some ⟨[(.object "java/lang/String")], none⟩ := by decide +kernel
theorem d24_2 : decode jdk_68_method_73_code 2 = .ok (.invokevirtual 397, 3) := by decide +kernel
theorem d24_5 : decode jdk_68_method_73_code 5 = .ok (.aload_n 2, 1) := by decide +kernel
theorem d24_6 : decode jdk_68_method_73_code 6 = .ok (.aload_n 0, 1) := by decide +kernel
theorem d24_7 : decode jdk_68_method_73_code 7 = .ok (.getfield 15, 3) := by decide +kernel
theorem d24_10 : decode jdk_68_method_73_code 10 = .ok (.iload_n 1, 1) := by decide +kernel
theorem d24_11 : decode jdk_68_method_73_code 11 = .ok (.aload_n 0, 1) := by decide +kernel
theorem d24_12 : decode jdk_68_method_73_code 12 = .ok (.getfield 22, 3) := by decide +kernel
theorem pd_162 : parseMethodDescriptor "([BIB)V" = some ⟨[(.array .byte), .int, .byte], none⟩ := by decide +kernel
theorem d24_15 : decode jdk_68_method_73_code 15 = .ok (.invokevirtual 399, 3) := by decide +kernel
theorem d24_18 : decode jdk_68_method_73_code 18 = .ok (.return_, 1) := by decide +kernel
def Q_rmPuts (Z : State) (a : Addr) (b : Addr) (kb : ClassId) (st : Addr) (sv : Addr) (ks : ClassId) (xs : List Value) (vs : List Value) (us : List Value) (cs : Int32) (h0 : Heap) (n0 : Nat) (v : Option Value) (h : Heap) (L : List Loc) : Prop := v = none ∧ Fr n0 L ∧ Keep h0 h [b] ∧ Arv Z h b kb .byte (16 : Int32) us (.int 0)
theorem rmPuts (l : Launch) (Z : State) (a0 : Array Value) (hw : ∀ d ∈ tables_1, d.before a0 Z = true) (ws : List Jvm.Cond) (a : Addr) (b : Addr) (kb : ClassId) (st : Addr) (sv : Addr) (ks : ClassId) (xs : List Value) (vs : List Value) (us : List Value) (cs : Int32) (h0 : Heap) (n0 : Nat) (Z0 : n0 ≤ h0.size) (O0 : Old Z n0 h0) (E_a : Exa Z h0 a "java/lang/StringBuilder") (F_a_coder : Fld Z h0 a "java/lang/AbstractStringBuilder" "coder" "B" (.int 0)) (F_a_value : Fld Z h0 a "java/lang/AbstractStringBuilder" "value" "[B" (.ref b)) (V_b : Arv Z h0 b kb .byte (16 : Int32) xs (.int 0)) (E_st : Exa Z h0 st "java/lang/String") (F_st_coder : Fld Z h0 st "java/lang/String" "coder" "B" (.int 0)) (F_st_value : Fld Z h0 st "java/lang/String" "value" "[B" (.ref sv)) (V_sv : Arv Z h0 sv ks .byte (Int32.ofNat vs.length) vs (.int 0)) (g_b : n0 ≤ b) (hus : (us = xs ++ vs)) (h16 : (us.length ≤ 16)) (S_cs : Sta Z Z.heap "java/lang/String" "COMPACT_STRINGS" "Z" (.int cs)) (n_cs : ¬ cs = 0) :
    MetN l Z ws (⟨"java/lang/AbstractStringBuilder", "putStringAt", "(ILjava/lang/String;)V"⟩ : MethodName) jdk_68_method_73_code 3 none ({ frames := 2, cells := 0, slots := 0, locals := 55 } : Room) #[(.ref a), (.int (Int32.ofNat xs.length)), (.ref st)] h0 (Q_rmPuts Z a b kb st sv ks xs vs us cs h0 n0) := by
  refine MetN.go (plainFor_of_name pn_92) n0 fun p e s m below meth c s₁ Bd hx hby hml hZ hh hown hnm X0 e0 N0 => ?_
  have hown : s.vm.findClass "java/lang/AbstractStringBuilder" = some m.cls := hown
  refine Go.ent (ef_151 m a (Int32.ofNat xs.length) st) ?_
  show Go _ _ _ _ s₁ (mkF m 0 #[rv a, iv (Int32.ofNat xs.length), rv st] [])
  refine Go.aload1 1 X0 hx (hb hby d24_0) rfl rfl rfl ?_
  refine Go.aload1 2 X0 hx (hb hby d24_1) rfl rfl rfl ?_
  obtain ⟨cq1, q1, q1'⟩ := E_a.cell
  obtain ⟨_, _, ⟨T1, L1, k1, n1⟩, -, X1, ⟨Lc1, hQ1, l1, y1, z1⟩, st1⟩ := X0.privateBack hx (y := (⟨"java/lang/AbstractStringBuilder", "inflateIfNeededFor", "(Ljava/lang/String;)V"⟩ : MethodName)) hown (mvT hZ (ow hw 143 rfl)) (mvT hZ (ow hw 144 rfl)) (own_psel (mvT hZ (ow hw 146 rfl)) (mvP hZ (ow hw 145 rfl)) (by decide)) (Cond.privateMethod_at (mvP hZ (ow hw 145 rfl) (args := #[]))) (mvT hZ (ow hw 147 rfl)) (by decide) (backOf (W := 0) (rmInflate l Z a0 hw [] a st cs h0 n0 Z0 O0 F_a_coder E_st F_st_coder S_cs n_cs) hZ (ow hw 147 rfl) (ow hw 68 rfl) (by decide) (by decide)) (g := (mkF m 2 #[rv a, iv (Int32.ofNat xs.length), rv st] [(.ref st), (.ref a)])) rfl (by rw [hml]; rfl) (Steps.refl _) (a := a) (by rw [e0]; exact q1) q1' (argsL := [(.ref st)]) (rest := []) (lenOf pd_154 rfl) rfl (by show 2 * 0 + _ ≤ _; exact Nat.le_of_eq rfl) (hb hby d24_2) (fun _ _ => ⟨rfl, e0, (by decide : 0 + 0 ≤ _), (by decide : 0 + 0 ≤ _)⟩)
  dsimp only [Pt.U, Pt.locs, Pt.cells, Pt.slots] at X1 l1 y1 z1 st1 hQ1
  subst l1 y1 z1
  obtain ⟨rfl, N1q, e1⟩ := hQ1
  have N1 := Fr.app N0 N1q
  refine Go.to st1 ?_
  show Go _ _ _ _ T1 (mkF m 5 #[rv a, iv (Int32.ofNat xs.length), rv st] [])
  refine Go.aload1 6 X1 hx (hb hby d24_5) rfl rfl rfl ?_
  refine Go.aload1 7 X1 hx (hb hby d24_6) rfl rfl rfl ?_
  obtain ⟨T2, X2, e2, st2⟩ := getF X1 hx hZ hown (host := "") (Or.inl (ow hw 72 rfl)) Via.refl e1 F_a_value (g := (mkF m 7 #[rv a, iv (Int32.ofNat xs.length), rv st] [(.ref a), (.ref st)])) rfl rfl (hb hby d24_7)
  refine Go.by st2 ?_
  show Go _ _ _ _ T2 (mkF m 10 #[rv a, iv (Int32.ofNat xs.length), rv st] [(.ref b), (.ref st)])
  refine Go.iload1 11 X2 hx (hb hby d24_10) rfl rfl ?_
  refine Go.aload1 12 X2 hx (hb hby d24_11) rfl rfl rfl ?_
  obtain ⟨T3, X3, e3, st3⟩ := getF X2 hx hZ hown (host := "") (Or.inl (ow hw 74 rfl)) Via.refl e2 F_a_coder (g := (mkF m 12 #[rv a, iv (Int32.ofNat xs.length), rv st] [(.ref a), (.int (Int32.ofNat xs.length)), (.ref b), (.ref st)])) rfl rfl (hb hby d24_12)
  refine Go.by st3 ?_
  show Go _ _ _ _ T3 (mkF m 15 #[rv a, iv (Int32.ofNat xs.length), rv st] [(.int 0), (.int (Int32.ofNat xs.length)), (.ref b), (.ref st)])
  obtain ⟨cq4, kq4, q4a, q4b, q4c⟩ := isOf hZ e3 E_st
  obtain ⟨_, _, ⟨T4, L4, k4, n4⟩, -, X4, ⟨Lc4, hQ4, l4, y4, z4⟩, st4⟩ := X3.virtualBack hx (y := (⟨"java/lang/String", "getBytes", "([BIB)V"⟩ : MethodName)) (z := (⟨"java/lang/String", "getBytes", "([BIB)V"⟩ : MethodName)) hown (mvT hZ (ow hw 149 rfl)) (mvT hZ (ow hw 150 rfl)) (notFace_of_selects (args := #[]) (mvT hZ (ow hw 152 rfl))) (mvT hZ (ow hw 152 rfl)) (mvT hZ (ow hw 151 rfl)) (by decide) (backOf (W := 0) (rmGetBytes l Z a0 hw [] st sv ks b kb xs vs us cs h0 n0 Z0 O0 E_st F_st_coder F_st_value V_sv V_b g_b hus h16 S_cs n_cs) hZ (ow hw 153 rfl) (ow hw 8 rfl) (by decide) (by decide)) q4a q4c (g := (mkF m 15 #[rv a, iv (Int32.ofNat xs.length), rv st] [(.int 0), (.int (Int32.ofNat xs.length)), (.ref b), (.ref st)])) rfl (by rw [hml]; rfl) (Steps.refl _) (argsL := [(.ref b), (.int (Int32.ofNat xs.length)), (.int 0)]) (rest := []) (lenOf pd_162 rfl) rfl (by show 2 * 0 + _ ≤ _; exact Nat.le_of_eq rfl) (hb hby d24_15) (fun _ _ => ⟨rfl, e3, (by decide : 0 + 0 ≤ _), (by decide : 0 + 0 ≤ _)⟩)
  dsimp only [Pt.U, Pt.locs, Pt.cells, Pt.slots] at X4 l4 y4 z4 st4 hQ4
  subst l4 y4 z4
  obtain ⟨rfl, N4q, K4, Q4_0⟩ := hQ4
  have N4 := Fr.app N1 N4q
  refine Go.to st4 ?_
  show Go _ _ _ _ T4 (mkF m 18 #[rv a, iv (Int32.ofNat xs.length), rv st] [])
  have F5 : Keep h0 T4.heap [b] := (Keep.refl h0 [b]).trans K4 (allS (Or.inl (List.mem_of_getElem? (i := 0) rfl)) all0)
  exact Go.retV X4 hx Bd.notSynchronized Bd.returns (hb hby d24_18) ⟨rfl, N4, F5, Q4_0⟩ (by decide) (by decide)
theorem ef_165 (m : MethodId) (x0 : Addr) (x1 : Addr) : entryFrame m #[(.ref x0), (.ref x1)] 3 = mkF m 0 #[rv x0, rv x1, un] [] := by (first | (simp [entryFrame, mkF, argsToLocals, Value.category]; done) | rfl)
theorem d21_0 : decode jdk_68_method_22_code 0 = .ok (.aload_n 1, 1) := by decide +kernel
theorem d21_1 : decode jdk_68_method_22_code 1 = .ok (.ifnonnull 8, 3) := by decide +kernel
theorem d21_9 : decode jdk_68_method_22_code 9 = .ok (.aload_n 1, 1) := by decide +kernel
theorem pd_169 : parseMethodDescriptor "()I" = some ⟨[], some .int⟩ := by decide +kernel
theorem d21_10 : decode jdk_68_method_22_code 10 = .ok (.invokevirtual 32, 3) := by decide +kernel
theorem d21_13 : decode jdk_68_method_22_code 13 = .ok (.istore_n 2, 1) := by decide +kernel
theorem d21_14 : decode jdk_68_method_22_code 14 = .ok (.aload_n 0, 1) := by decide +kernel
theorem d21_15 : decode jdk_68_method_22_code 15 = .ok (.aload_n 0, 1) := by decide +kernel
theorem d21_16 : decode jdk_68_method_22_code 16 = .ok (.getfield 79, 3) := by decide +kernel
theorem d21_19 : decode jdk_68_method_22_code 19 = .ok (.iload_n 2, 1) := by decide +kernel
theorem d21_20 : decode jdk_68_method_22_code 20 = .ok (.iadd, 1) := by decide +kernel
theorem d21_21 : decode jdk_68_method_22_code 21 = .ok (.invokevirtual 100, 3) := by decide +kernel
theorem d21_24 : decode jdk_68_method_22_code 24 = .ok (.aload_n 0, 1) := by decide +kernel
theorem d21_25 : decode jdk_68_method_22_code 25 = .ok (.aload_n 0, 1) := by decide +kernel
theorem d21_26 : decode jdk_68_method_22_code 26 = .ok (.getfield 79, 3) := by decide +kernel
theorem d21_29 : decode jdk_68_method_22_code 29 = .ok (.aload_n 1, 1) := by decide +kernel
theorem pd_182 : parseMethodDescriptor "(ILjava/lang/String;)V" = some ⟨[.int, (.object "java/lang/String")], none⟩ := by decide +kernel
theorem d21_30 : decode jdk_68_method_22_code 30 = .ok (.invokevirtual 208, 3) := by decide +kernel
theorem d21_33 : decode jdk_68_method_22_code 33 = .ok (.aload_n 0, 1) := by decide +kernel
theorem d21_34 : decode jdk_68_method_22_code 34 = .ok (.dup, 1) := by decide +kernel
theorem d21_35 : decode jdk_68_method_22_code 35 = .ok (.getfield 79, 3) := by decide +kernel
theorem d21_38 : decode jdk_68_method_22_code 38 = .ok (.iload_n 2, 1) := by decide +kernel
theorem d21_39 : decode jdk_68_method_22_code 39 = .ok (.iadd, 1) := by decide +kernel
theorem d21_40 : decode jdk_68_method_22_code 40 = .ok (.putfield 79, 3) := by decide +kernel
theorem d21_43 : decode jdk_68_method_22_code 43 = .ok (.aload_n 0, 1) := by decide +kernel
theorem d21_44 : decode jdk_68_method_22_code 44 = .ok (.areturn, 1) := by decide +kernel
def Q_rmAppA (Z : State) (a : Addr) (b : Addr) (kb : ClassId) (st : Addr) (sv : Addr) (ks : ClassId) (xs : List Value) (vs : List Value) (us : List Value) (cs : Int32) (h0 : Heap) (n0 : Nat) (v : Option Value) (h : Heap) (L : List Loc) : Prop := v = some (.ref a) ∧ Fr n0 L ∧ Keep h0 h [a, b] ∧ Exa Z h a "java/lang/StringBuilder" ∧ Fld Z h a "java/lang/AbstractStringBuilder" "coder" "B" (.int 0) ∧ Fld Z h a "java/lang/AbstractStringBuilder" "value" "[B" (.ref b) ∧ Fld Z h a "java/lang/AbstractStringBuilder" "count" "I" (.int (Int32.ofNat us.length)) ∧ Arv Z h b kb .byte (16 : Int32) us (.int 0)
theorem rmAppA (l : Launch) (Z : State) (a0 : Array Value) (hw : ∀ d ∈ tables_1, d.before a0 Z = true) (ws : List Jvm.Cond) (a : Addr) (b : Addr) (kb : ClassId) (st : Addr) (sv : Addr) (ks : ClassId) (xs : List Value) (vs : List Value) (us : List Value) (cs : Int32) (h0 : Heap) (n0 : Nat) (Z0 : n0 ≤ h0.size) (O0 : Old Z n0 h0) (E_a : Exa Z h0 a "java/lang/StringBuilder") (F_a_coder : Fld Z h0 a "java/lang/AbstractStringBuilder" "coder" "B" (.int 0)) (F_a_value : Fld Z h0 a "java/lang/AbstractStringBuilder" "value" "[B" (.ref b)) (F_a_count : Fld Z h0 a "java/lang/AbstractStringBuilder" "count" "I" (.int (Int32.ofNat xs.length))) (V_b : Arv Z h0 b kb .byte (16 : Int32) xs (.int 0)) (g_a : n0 ≤ a) (g_b : n0 ≤ b) (ne_a_b : a ≠ b) (E_st : Exa Z h0 st "java/lang/String") (F_st_coder : Fld Z h0 st "java/lang/String" "coder" "B" (.int 0)) (F_st_value : Fld Z h0 st "java/lang/String" "value" "[B" (.ref sv)) (V_sv : Arv Z h0 sv ks .byte (Int32.ofNat vs.length) vs (.int 0)) (hus : (us = xs ++ vs)) (h16 : (us.length ≤ 16)) (S_cs : Sta Z Z.heap "java/lang/String" "COMPACT_STRINGS" "Z" (.int cs)) (n_cs : ¬ cs = 0) :
    MetN l Z ws (⟨"java/lang/AbstractStringBuilder", "append", "(Ljava/lang/String;)Ljava/lang/AbstractStringBuilder;"⟩ : MethodName) jdk_68_method_22_code 3 (some (.object "java/lang/AbstractStringBuilder")) ({ frames := 3, cells := 0, slots := 0, locals := 69 } : Room) #[(.ref a), (.ref st)] h0 (Q_rmAppA Z a b kb st sv ks xs vs us cs h0 n0) := by
  refine MetN.go (plainFor_of_name pn_92) n0 fun p e s m below meth c s₁ Bd hx hby hml hZ hh hown hnm X0 e0 N0 => ?_
  have hown : s.vm.findClass "java/lang/AbstractStringBuilder" = some m.cls := hown
  refine Go.ent (ef_165 m a st) ?_
  show Go _ _ _ _ s₁ (mkF m 0 #[rv a, rv st, un] [])
  refine Go.aload1 1 X0 hx (hb hby d21_0) rfl rfl rfl ?_
  refine Go.by (fun _ gk => XT.nonnullYes X0.here hx rfl (pc0 := 1) (pc' := 9) rfl (hb hby d21_1) rfl rfl nofun (by decide) (by decide) gk) ?_
  show Go _ _ _ _ s₁ (mkF m 9 #[rv a, rv st, un] [])
  refine Go.aload1 10 X0 hx (hb hby d21_9) rfl rfl rfl ?_
  obtain ⟨cq1, kq1, q1a, q1b, q1c⟩ := isOf hZ e0 E_st
  obtain ⟨_, _, ⟨T1, L1, k1, n1⟩, -, X1, ⟨Lc1, hQ1, l1, y1, z1⟩, st1⟩ := X0.virtualBack hx (y := (⟨"java/lang/String", "length", "()I"⟩ : MethodName)) (z := (⟨"java/lang/String", "length", "()I"⟩ : MethodName)) hown (mvT hZ (ow hw 126 rfl)) (mvT hZ (ow hw 127 rfl)) (notFace_of_selects (args := #[]) (mvT hZ (ow hw 129 rfl))) (mvT hZ (ow hw 129 rfl)) (mvT hZ (ow hw 128 rfl)) (by decide) (backOf (W := 0) (rmSLen l Z a0 hw [] st sv ks (Int32.ofNat vs.length) vs cs h0 n0 Z0 O0 E_st F_st_coder F_st_value V_sv S_cs n_cs) hZ (ow hw 130 rfl) (ow hw 8 rfl) (by decide) (by decide)) q1a q1c (g := (mkF m 10 #[rv a, rv st, un] [(.ref st)])) rfl (by rw [hml]; rfl) (Steps.refl _) (argsL := []) (rest := []) (lenOf pd_169 rfl) rfl (by show 2 * 0 + _ ≤ _; exact Nat.le_of_eq rfl) (hb hby d21_10) (fun _ _ => ⟨rfl, e0, (by decide : 0 + 0 ≤ _), (by decide : 0 + 0 ≤ _)⟩)
  dsimp only [Pt.U, Pt.locs, Pt.cells, Pt.slots] at X1 l1 y1 z1 st1 hQ1
  subst l1 y1 z1
  obtain ⟨rfl, N1q, e1⟩ := hQ1
  have N1 := Fr.app N0 N1q
  refine Go.to st1 ?_
  show Go _ _ _ _ T1 (mkF m 13 #[rv a, rv st, un] [(.int (Int32.ofNat vs.length))])
  refine Go.istore1 14 X1 hx (L' := #[rv a, rv st, iv (Int32.ofNat vs.length)]) (hb hby d21_13) rfl rfl ?_
  refine Go.aload1 15 X1 hx (hb hby d21_14) rfl rfl rfl ?_
  refine Go.aload1 16 X1 hx (hb hby d21_15) rfl rfl rfl ?_
  obtain ⟨T2, X2, e2, st2⟩ := getF X1 hx hZ hown (host := "") (Or.inl (ow hw 131 rfl)) Via.refl e1 F_a_count (g := (mkF m 16 #[rv a, rv st, iv (Int32.ofNat vs.length)] [(.ref a), (.ref a)])) rfl rfl (hb hby d21_16)
  refine Go.by st2 ?_
  show Go _ _ _ _ T2 (mkF m 19 #[rv a, rv st, iv (Int32.ofNat vs.length)] [(.int (Int32.ofNat xs.length)), (.ref a)])
  refine Go.iload1 20 X2 hx (hb hby d21_19) rfl rfl ?_
  refine Go.iadd 21 X2 hx (hb hby d21_20) rfl ?_
  rw [own_cnt hus]
  show Go _ _ _ _ T2 (mkF m 21 #[rv a, rv st, iv (Int32.ofNat vs.length)] [(.int (Int32.ofNat us.length)), (.ref a)])
  obtain ⟨cq3, q3, q3'⟩ := E_a.cell
  obtain ⟨_, _, ⟨T3, L3, k3, n3⟩, -, X3, ⟨Lc3, hQ3, l3, y3, z3⟩, st3⟩ := X2.privateBack hx (y := (⟨"java/lang/AbstractStringBuilder", "ensureCapacityInternal", "(I)V"⟩ : MethodName)) hown (mvT hZ (ow hw 133 rfl)) (mvT hZ (ow hw 134 rfl)) (own_psel (mvT hZ (ow hw 136 rfl)) (mvP hZ (ow hw 135 rfl)) (by decide)) (Cond.privateMethod_at (mvP hZ (ow hw 135 rfl) (args := #[]))) (mvT hZ (ow hw 137 rfl)) (by decide) (backOf (W := 0) (rmEnsure l Z a0 hw [] a b kb xs (Int32.ofNat us.length) h0 n0 Z0 F_a_coder F_a_value V_b (own_room h16)) hZ (ow hw 137 rfl) (ow hw 68 rfl) (by decide) (by decide)) (g := (mkF m 21 #[rv a, rv st, iv (Int32.ofNat vs.length)] [(.int (Int32.ofNat us.length)), (.ref a)])) rfl (by rw [hml]; rfl) (Steps.refl _) (a := a) (by rw [e2]; exact q3) q3' (argsL := [(.int (Int32.ofNat us.length))]) (rest := []) (lenOf pd_109 rfl) rfl (by show 2 * 0 + _ ≤ _; exact Nat.le_of_eq rfl) (hb hby d21_21) (fun _ _ => ⟨rfl, e2, (by decide : 0 + 0 ≤ _), (by decide : 0 + 0 ≤ _)⟩)
  dsimp only [Pt.U, Pt.locs, Pt.cells, Pt.slots] at X3 l3 y3 z3 st3 hQ3
  subst l3 y3 z3
  obtain ⟨rfl, N3q, e3⟩ := hQ3
  have N3 := Fr.app N1 N3q
  refine Go.to st3 ?_
  show Go _ _ _ _ T3 (mkF m 24 #[rv a, rv st, iv (Int32.ofNat vs.length)] [])
  refine Go.aload1 25 X3 hx (hb hby d21_24) rfl rfl rfl ?_
  refine Go.aload1 26 X3 hx (hb hby d21_25) rfl rfl rfl ?_
  obtain ⟨T4, X4, e4, st4⟩ := getF X3 hx hZ hown (host := "") (Or.inl (ow hw 131 rfl)) Via.refl e3 F_a_count (g := (mkF m 26 #[rv a, rv st, iv (Int32.ofNat vs.length)] [(.ref a), (.ref a)])) rfl rfl (hb hby d21_26)
  refine Go.by st4 ?_
  show Go _ _ _ _ T4 (mkF m 29 #[rv a, rv st, iv (Int32.ofNat vs.length)] [(.int (Int32.ofNat xs.length)), (.ref a)])
  refine Go.aload1 30 X4 hx (hb hby d21_29) rfl rfl rfl ?_
  obtain ⟨cq5, q5, q5'⟩ := E_a.cell
  obtain ⟨_, _, ⟨T5, L5, k5, n5⟩, -, X5, ⟨Lc5, hQ5, l5, y5, z5⟩, st5⟩ := X4.privateBack hx (y := (⟨"java/lang/AbstractStringBuilder", "putStringAt", "(ILjava/lang/String;)V"⟩ : MethodName)) hown (mvT hZ (ow hw 138 rfl)) (mvT hZ (ow hw 139 rfl)) (own_psel (mvT hZ (ow hw 141 rfl)) (mvP hZ (ow hw 140 rfl)) (by decide)) (Cond.privateMethod_at (mvP hZ (ow hw 140 rfl) (args := #[]))) (mvT hZ (ow hw 142 rfl)) (by decide) (backOf (W := 0) (rmPuts l Z a0 hw [] a b kb st sv ks xs vs us cs h0 n0 Z0 O0 E_a F_a_coder F_a_value V_b E_st F_st_coder F_st_value V_sv g_b hus h16 S_cs n_cs) hZ (ow hw 142 rfl) (ow hw 68 rfl) (by decide) (by decide)) (g := (mkF m 30 #[rv a, rv st, iv (Int32.ofNat vs.length)] [(.ref st), (.int (Int32.ofNat xs.length)), (.ref a)])) rfl (by rw [hml]; rfl) (Steps.refl _) (a := a) (by rw [e4]; exact q5) q5' (argsL := [(.int (Int32.ofNat xs.length)), (.ref st)]) (rest := []) (lenOf pd_182 rfl) rfl (by show 2 * 0 + _ ≤ _; exact Nat.le_of_eq rfl) (hb hby d21_30) (fun _ _ => ⟨rfl, e4, (by decide : 0 + 0 ≤ _), (by decide : 0 + 0 ≤ _)⟩)
  dsimp only [Pt.U, Pt.locs, Pt.cells, Pt.slots] at X5 l5 y5 z5 st5 hQ5
  subst l5 y5 z5
  obtain ⟨rfl, N5q, K5, Q5_0⟩ := hQ5
  have N5 := Fr.app N3 N5q
  refine Go.to st5 ?_
  show Go _ _ _ _ T5 (mkF m 33 #[rv a, rv st, iv (Int32.ofNat vs.length)] [])
  refine Go.aload1 34 X5 hx (hb hby d21_33) rfl rfl rfl ?_
  refine Go.dup 35 X5 hx (hb hby d21_34) rfl rfl ?_
  have F6 : Fld Z T5.heap a "java/lang/AbstractStringBuilder" "count" "I" (.int (Int32.ofNat xs.length)) := F_a_count.keep K5 (ninS ne_a_b nin0)
  obtain ⟨T7, X7, e7, st7⟩ := getF X5 hx hZ hown (host := "") (Or.inl (ow hw 131 rfl)) Via.refl rfl F6 (g := (mkF m 35 #[rv a, rv st, iv (Int32.ofNat vs.length)] [(.ref a), (.ref a)])) rfl rfl (hb hby d21_35)
  refine Go.by st7 ?_
  show Go _ _ _ _ T7 (mkF m 38 #[rv a, rv st, iv (Int32.ofNat vs.length)] [(.int (Int32.ofNat xs.length)), (.ref a)])
  refine Go.iload1 39 X7 hx (hb hby d21_38) rfl rfl ?_
  refine Go.iadd 40 X7 hx (hb hby d21_39) rfl ?_
  rw [own_cnt hus]
  show Go _ _ _ _ T7 (mkF m 40 #[rv a, rv st, iv (Int32.ofNat vs.length)] [(.int (Int32.ofNat us.length)), (.ref a)])
  have F8 : Exa Z T5.heap a "java/lang/StringBuilder" := E_a.keep K5
  obtain ⟨T9, h9, X9, e9, W9, st9⟩ := putF X7 hx hZ hown (host := "") (Or.inl (ow hw 131 rfl)) Via.refl e7 F6 F8 (Or.inl (ow hw 132 rfl)) (ow hw 59 rfl) (ty := .int) (by decide) rfl rfl (g := (mkF m 40 #[rv a, rv st, iv (Int32.ofNat vs.length)] [(.int (Int32.ofNat us.length)), (.ref a)])) rfl rfl (hb hby d21_40)
  have N9 := Fr.snoc X9 N5 g_a
  have Fw9 : Fld Z h9 a "java/lang/AbstractStringBuilder" "count" "I" (.int (Int32.ofNat us.length)) := F6.same W9
  refine Go.by st9 ?_
  show Go _ _ _ _ T9 (mkF m 43 #[rv a, rv st, iv (Int32.ofNat vs.length)] [])
  refine Go.aload1 44 X9 hx (hb hby d21_43) rfl rfl rfl ?_
  have F10 : Keep h0 T5.heap [a, b] := (Keep.refl h0 [a, b]).trans K5 (allS (Or.inl (List.mem_of_getElem? (i := 1) rfl)) all0)
  have F11 : Keep h0 h9 [a, b] := F10.wr W9 (Or.inl (List.mem_of_getElem? (i := 0) rfl))
  have F12 : Exa Z h9 a "java/lang/StringBuilder" := F8.wr W9
  have F13 : Fld Z T5.heap a "java/lang/AbstractStringBuilder" "coder" "B" (.int 0) := F_a_coder.keep K5 (ninS ne_a_b nin0)
  have F14 : Fld Z h9 a "java/lang/AbstractStringBuilder" "coder" "B" (.int 0) := F13.other W9 (Or.inr (slot_ne (Or.inl (ow hw 75 rfl)) (Or.inl (ow hw 132 rfl)) (by decide) (t := .byte) (t' := .int) (by decide) (by decide)))
  have F15 : Fld Z T5.heap a "java/lang/AbstractStringBuilder" "value" "[B" (.ref b) := F_a_value.keep K5 (ninS ne_a_b nin0)
  have F16 : Fld Z h9 a "java/lang/AbstractStringBuilder" "value" "[B" (.ref b) := F15.other W9 (Or.inr (slot_ne (Or.inl (ow hw 73 rfl)) (Or.inl (ow hw 132 rfl)) (by decide) (t := (.array .byte)) (t' := .int) (by decide) (by decide)))
  have F17 : Arv Z h9 b kb .byte (16 : Int32) us (.int 0) := Q5_0.other W9 (Ne.symm ne_a_b)
  exact Go.retA X9 hx Bd.notSynchronized Bd.returns rfl rfl (hb hby d21_44) (by rw [e9]; exact ⟨rfl, N9, F11, F12, F14, F16, Fw9, F17⟩) (by decide) (by decide)
theorem d20_0 : decode jdk_67_method_7_code 0 = .ok (.aload_n 0, 1) := by decide +kernel
theorem d20_1 : decode jdk_67_method_7_code 1 = .ok (.aload_n 1, 1) := by decide +kernel
theorem pd_194 : parseMethodDescriptor "(Ljava/lang/String;)Ljava/lang/AbstractStringBuilder;" = some ⟨[(.object "java/lang/String")], some (.object "java/lang/AbstractStringBuilder")⟩ := by decide +kernel
theorem d20_2 : decode jdk_67_method_7_code 2 = .ok (.invokespecial 29, 3) := by decide +kernel
theorem d20_5 : decode jdk_67_method_7_code 5 = .ok (.pop, 1) := by decide +kernel
theorem d20_6 : decode jdk_67_method_7_code 6 = .ok (.aload_n 0, 1) := by decide +kernel
theorem d20_7 : decode jdk_67_method_7_code 7 = .ok (.areturn, 1) := by decide +kernel
def Q_rmAppS (Z : State) (a : Addr) (b : Addr) (kb : ClassId) (st : Addr) (sv : Addr) (ks : ClassId) (xs : List Value) (vs : List Value) (us : List Value) (cs : Int32) (h0 : Heap) (n0 : Nat) (v : Option Value) (h : Heap) (L : List Loc) : Prop := v = some (.ref a) ∧ Fr n0 L ∧ Keep h0 h [a, b] ∧ Exa Z h a "java/lang/StringBuilder" ∧ Fld Z h a "java/lang/AbstractStringBuilder" "coder" "B" (.int 0) ∧ Fld Z h a "java/lang/AbstractStringBuilder" "value" "[B" (.ref b) ∧ Fld Z h a "java/lang/AbstractStringBuilder" "count" "I" (.int (Int32.ofNat us.length)) ∧ Arv Z h b kb .byte (16 : Int32) us (.int 0)
theorem rmAppS (l : Launch) (Z : State) (a0 : Array Value) (hw : ∀ d ∈ tables_1, d.before a0 Z = true) (ws : List Jvm.Cond) (a : Addr) (b : Addr) (kb : ClassId) (st : Addr) (sv : Addr) (ks : ClassId) (xs : List Value) (vs : List Value) (us : List Value) (cs : Int32) (h0 : Heap) (n0 : Nat) (Z0 : n0 ≤ h0.size) (O0 : Old Z n0 h0) (E_a : Exa Z h0 a "java/lang/StringBuilder") (F_a_coder : Fld Z h0 a "java/lang/AbstractStringBuilder" "coder" "B" (.int 0)) (F_a_value : Fld Z h0 a "java/lang/AbstractStringBuilder" "value" "[B" (.ref b)) (F_a_count : Fld Z h0 a "java/lang/AbstractStringBuilder" "count" "I" (.int (Int32.ofNat xs.length))) (V_b : Arv Z h0 b kb .byte (16 : Int32) xs (.int 0)) (g_a : n0 ≤ a) (g_b : n0 ≤ b) (ne_a_b : a ≠ b) (E_st : Exa Z h0 st "java/lang/String") (F_st_coder : Fld Z h0 st "java/lang/String" "coder" "B" (.int 0)) (F_st_value : Fld Z h0 st "java/lang/String" "value" "[B" (.ref sv)) (V_sv : Arv Z h0 sv ks .byte (Int32.ofNat vs.length) vs (.int 0)) (hus : (us = xs ++ vs)) (h16 : (us.length ≤ 16)) (S_cs : Sta Z Z.heap "java/lang/String" "COMPACT_STRINGS" "Z" (.int cs)) (n_cs : ¬ cs = 0) :
    MetN l Z ws (⟨"java/lang/StringBuilder", "append", "(Ljava/lang/String;)Ljava/lang/StringBuilder;"⟩ : MethodName) jdk_67_method_7_code 2 (some (.object "java/lang/StringBuilder")) ({ frames := 4, cells := 0, slots := 0, locals := 83 } : Room) #[(.ref a), (.ref st)] h0 (Q_rmAppS Z a b kb st sv ks xs vs us cs h0 n0) := by
  refine MetN.go (plainFor_of_name pn_106) n0 fun p e s m below meth c s₁ Bd hx hby hml hZ hh hown hnm X0 e0 N0 => ?_
  have hown : s.vm.findClass "java/lang/StringBuilder" = some m.cls := hown
  refine Go.ent (ef_125 m a st) ?_
  show Go _ _ _ _ s₁ (mkF m 0 #[rv a, rv st] [])
  refine Go.aload1 1 X0 hx (hb hby d20_0) rfl rfl rfl ?_
  refine Go.aload1 2 X0 hx (hb hby d20_1) rfl rfl rfl ?_
  obtain ⟨_, _, ⟨T1, L1, k1, n1⟩, -, X1, ⟨Lc1, hQ1, l1, y1, z1⟩, st1⟩ := superBack X0 hx hZ (y := (⟨"java/lang/AbstractStringBuilder", "append", "(Ljava/lang/String;)Ljava/lang/AbstractStringBuilder;"⟩ : MethodName)) hown (ow hw 121 rfl) (own_same (C := "java/lang/StringBuilder") (z := (⟨"java/lang/AbstractStringBuilder", "ensureCapacityInternal", "(I)V"⟩ : MethodName)) (ow hw 124 rfl) (ow hw 136 rfl) rfl (by decide)) (ow hw 122 rfl) (ow hw 123 rfl) (by decide) (backOf (W := 0) (rmAppA l Z a0 hw [] a b kb st sv ks xs vs us cs h0 n0 Z0 O0 E_a F_a_coder F_a_value F_a_count V_b g_a g_b ne_a_b E_st F_st_coder F_st_value V_sv hus h16 S_cs n_cs) hZ (ow hw 125 rfl) (ow hw 68 rfl) (by decide) (by decide)) e0 (Ins.self E_a) (g := (mkF m 2 #[rv a, rv st] [(.ref st), (.ref a)])) rfl (by rw [hml]; rfl) (ow hw 125 rfl) (argsL := [(.ref st)]) (rest := []) (lenOf pd_194 rfl) rfl (by show 2 * 0 + _ ≤ _; exact Nat.le_of_eq rfl) (hb hby d20_2) (fun _ _ => ⟨rfl, e0, (by decide : 0 + 0 ≤ _), (by decide : 0 + 0 ≤ _)⟩)
  dsimp only [Pt.U, Pt.locs, Pt.cells, Pt.slots] at X1 l1 y1 z1 st1 hQ1
  subst l1 y1 z1
  obtain ⟨rfl, N1q, K1, Q1_0, Q1_1, Q1_2, Q1_3, Q1_4⟩ := hQ1
  have N1 := Fr.app N0 N1q
  refine Go.to st1 ?_
  show Go _ _ _ _ T1 (mkF m 5 #[rv a, rv st] [(.ref a)])
  refine Go.pop 6 X1 hx (hb hby d20_5) rfl rfl ?_
  refine Go.aload1 7 X1 hx (hb hby d20_6) rfl rfl rfl ?_
  have F2 : Keep h0 T1.heap [a, b] := (Keep.refl h0 [a, b]).trans K1 (allS (Or.inl (List.mem_of_getElem? (i := 0) rfl)) (allS (Or.inl (List.mem_of_getElem? (i := 1) rfl)) all0))
  exact Go.retA X1 hx Bd.notSynchronized Bd.returns rfl rfl (hb hby d20_7) ⟨rfl, N1, F2, Q1_0, Q1_1, Q1_2, Q1_3, Q1_4⟩ (by decide) (by decide)
theorem d30_0 : decode jdk_68_method_64_code 0 = .ok (.aload_n 0, 1) := by decide +kernel
theorem d30_1 : decode jdk_68_method_64_code 1 = .ok (.getfield 15, 3) := by decide +kernel
theorem d30_4 : decode jdk_68_method_64_code 4 = .ok (.areturn, 1) := by decide +kernel
def Q_rmGetV (Z : State) (a : Addr) (b : Addr) (h0 : Heap) (n0 : Nat) (v : Option Value) (h : Heap) (L : List Loc) : Prop := v = some (.ref b) ∧ Fr n0 L ∧ h = h0
theorem rmGetV (l : Launch) (Z : State) (a0 : Array Value) (hw : ∀ d ∈ tables_1, d.before a0 Z = true) (ws : List Jvm.Cond) (a : Addr) (b : Addr) (h0 : Heap) (n0 : Nat) (Z0 : n0 ≤ h0.size) (F_a_value : Fld Z h0 a "java/lang/AbstractStringBuilder" "value" "[B" (.ref b)) :
    MetN l Z ws (⟨"java/lang/AbstractStringBuilder", "getValue", "()[B"⟩ : MethodName) jdk_68_method_64_code 1 (some (.array .byte)) ({ frames := 0, cells := 0, slots := 0, locals := 0 } : Room) #[(.ref a)] h0 (Q_rmGetV Z a b h0 n0) := by
  refine MetN.go (plainFor_of_name pn_92) n0 fun p e s m below meth c s₁ Bd hx hby hml hZ hh hown hnm X0 e0 N0 => ?_
  have hown : s.vm.findClass "java/lang/AbstractStringBuilder" = some m.cls := hown
  refine Go.ent (ef_4 m a) ?_
  show Go _ _ _ _ s₁ (mkF m 0 #[rv a] [])
  refine Go.aload1 1 X0 hx (hb hby d30_0) rfl rfl rfl ?_
  obtain ⟨T1, X1, e1, st1⟩ := getF X0 hx hZ hown (host := "") (Or.inl (ow hw 72 rfl)) Via.refl e0 F_a_value (g := (mkF m 1 #[rv a] [(.ref a)])) rfl rfl (hb hby d30_1)
  refine Go.by st1 ?_
  show Go _ _ _ _ T1 (mkF m 4 #[rv a] [(.ref b)])
  exact Go.retA X1 hx Bd.notSynchronized Bd.returns rfl rfl (hb hby d30_4) (by rw [e1]; exact ⟨rfl, N0, rfl⟩) (by decide) (by decide)
theorem d32_0 : decode jdk_68_method_6_code 0 = .ok (.aload_n 0, 1) := by decide +kernel
theorem d32_1 : decode jdk_68_method_6_code 1 = .ok (.getfield 79, 3) := by decide +kernel
theorem d32_4 : decode jdk_68_method_6_code 4 = .ok (.ireturn, 1) := by decide +kernel
def Q_rmALen (Z : State) (a : Addr) (z : Int32) (h0 : Heap) (n0 : Nat) (v : Option Value) (h : Heap) (L : List Loc) : Prop := v = some (.int z) ∧ Fr n0 L ∧ h = h0
theorem rmALen (l : Launch) (Z : State) (a0 : Array Value) (hw : ∀ d ∈ tables_1, d.before a0 Z = true) (ws : List Jvm.Cond) (a : Addr) (z : Int32) (h0 : Heap) (n0 : Nat) (Z0 : n0 ≤ h0.size) (F_a_count : Fld Z h0 a "java/lang/AbstractStringBuilder" "count" "I" (.int z)) :
    MetN l Z ws (⟨"java/lang/AbstractStringBuilder", "length", "()I"⟩ : MethodName) jdk_68_method_6_code 1 (some .int) ({ frames := 0, cells := 0, slots := 0, locals := 0 } : Room) #[(.ref a)] h0 (Q_rmALen Z a z h0 n0) := by
  refine MetN.go (plainFor_of_name pn_92) n0 fun p e s m below meth c s₁ Bd hx hby hml hZ hh hown hnm X0 e0 N0 => ?_
  have hown : s.vm.findClass "java/lang/AbstractStringBuilder" = some m.cls := hown
  refine Go.ent (ef_4 m a) ?_
  show Go _ _ _ _ s₁ (mkF m 0 #[rv a] [])
  refine Go.aload1 1 X0 hx (hb hby d32_0) rfl rfl rfl ?_
  obtain ⟨T1, X1, e1, st1⟩ := getF X0 hx hZ hown (host := "") (Or.inl (ow hw 131 rfl)) Via.refl e0 F_a_count (g := (mkF m 1 #[rv a] [(.ref a)])) rfl rfl (hb hby d32_1)
  refine Go.by st1 ?_
  show Go _ _ _ _ T1 (mkF m 4 #[rv a] [(.int z)])
  exact Go.retI X1 hx Bd.notSynchronized Bd.returns rfl (by simp) (hb hby d32_4) (by rw [e1]; exact ⟨rfl, N0, rfl⟩) (by decide) (by decide)
theorem d31_0 : decode jdk_67_method_93_code 0 = .ok (.aload_n 0, 1) := by decide +kernel
theorem d31_1 : decode jdk_67_method_93_code 1 = .ok (.invokespecial 343, 3) := by decide +kernel
theorem d31_4 : decode jdk_67_method_93_code 4 = .ok (.ireturn, 1) := by decide +kernel
def Q_rmSbLen (Z : State) (a : Addr) (z : Int32) (h0 : Heap) (n0 : Nat) (v : Option Value) (h : Heap) (L : List Loc) : Prop := v = some (.int z) ∧ Fr n0 L ∧ h = h0
theorem rmSbLen (l : Launch) (Z : State) (a0 : Array Value) (hw : ∀ d ∈ tables_1, d.before a0 Z = true) (ws : List Jvm.Cond) (a : Addr) (z : Int32) (h0 : Heap) (n0 : Nat) (Z0 : n0 ≤ h0.size) (E_a : Exa Z h0 a "java/lang/StringBuilder") (F_a_count : Fld Z h0 a "java/lang/AbstractStringBuilder" "count" "I" (.int z)) :
    MetN l Z ws (⟨"java/lang/StringBuilder", "length", "()I"⟩ : MethodName) jdk_67_method_93_code 1 (some .int) ({ frames := 1, cells := 0, slots := 0, locals := 12 } : Room) #[(.ref a)] h0 (Q_rmSbLen Z a z h0 n0) := by
  refine MetN.go (plainFor_of_name pn_106) n0 fun p e s m below meth c s₁ Bd hx hby hml hZ hh hown hnm X0 e0 N0 => ?_
  have hown : s.vm.findClass "java/lang/StringBuilder" = some m.cls := hown
  refine Go.ent (ef_4 m a) ?_
  show Go _ _ _ _ s₁ (mkF m 0 #[rv a] [])
  refine Go.aload1 1 X0 hx (hb hby d31_0) rfl rfl rfl ?_
  obtain ⟨_, _, ⟨T1, L1, k1, n1⟩, -, X1, ⟨Lc1, hQ1, l1, y1, z1⟩, st1⟩ := superBack X0 hx hZ (y := (⟨"java/lang/AbstractStringBuilder", "length", "()I"⟩ : MethodName)) hown (ow hw 182 rfl) (own_same (C := "java/lang/StringBuilder") (z := (⟨"java/lang/AbstractStringBuilder", "ensureCapacityInternal", "(I)V"⟩ : MethodName)) (ow hw 177 rfl) (ow hw 136 rfl) rfl (by decide)) (ow hw 178 rfl) (ow hw 123 rfl) (by decide) (backOf (W := 0) (rmALen l Z a0 hw [] a z h0 n0 Z0 F_a_count) hZ (ow hw 183 rfl) (ow hw 68 rfl) (by decide) (by decide)) e0 (Ins.self E_a) (g := (mkF m 1 #[rv a] [(.ref a)])) rfl (by rw [hml]; rfl) (ow hw 183 rfl) (argsL := []) (rest := []) (lenOf pd_169 rfl) rfl (by show 2 * 0 + _ ≤ _; exact Nat.le_of_eq rfl) (hb hby d31_1) (fun _ _ => ⟨rfl, e0, (by decide : 0 + 0 ≤ _), (by decide : 0 + 0 ≤ _)⟩)
  dsimp only [Pt.U, Pt.locs, Pt.cells, Pt.slots] at X1 l1 y1 z1 st1 hQ1
  subst l1 y1 z1
  obtain ⟨rfl, N1q, e1⟩ := hQ1
  have N1 := Fr.app N0 N1q
  refine Go.to st1 ?_
  show Go _ _ _ _ T1 (mkF m 4 #[rv a] [(.int z)])
  exact Go.retI X1 hx Bd.notSynchronized Bd.returns rfl (by simp) (hb hby d31_4) (by rw [e1]; exact ⟨rfl, N1, rfl⟩) (by decide) (by decide)
theorem d33_0 : decode jdk_68_method_68_code 0 = .ok (.getstatic 18, 3) := by decide +kernel
theorem d33_3 : decode jdk_68_method_68_code 3 = .ok (.ifCond .eq 14, 3) := by decide +kernel
theorem d33_6 : decode jdk_68_method_68_code 6 = .ok (.aload_n 0, 1) := by decide +kernel
theorem d33_7 : decode jdk_68_method_68_code 7 = .ok (.getfield 22, 3) := by decide +kernel
theorem d33_10 : decode jdk_68_method_68_code 10 = .ok (.ifCond .ne 7, 3) := by decide +kernel
theorem d33_13 : decode jdk_68_method_68_code 13 = .ok (.iconst 1, 1) := by decide +kernel
theorem d33_14 : decode jdk_68_method_68_code 14 = .ok (.goto 4, 3) := by decide +kernel
theorem d33_18 : decode jdk_68_method_68_code 18 = .ok (.ireturn, 1) := by decide +kernel
def Q_rmAL1 (Z : State) (a : Addr) (cs : Int32) (h0 : Heap) (n0 : Nat) (v : Option Value) (h : Heap) (L : List Loc) : Prop := v = some (.int 1) ∧ Fr n0 L ∧ h = h0
theorem rmAL1 (l : Launch) (Z : State) (a0 : Array Value) (hw : ∀ d ∈ tables_1, d.before a0 Z = true) (ws : List Jvm.Cond) (a : Addr) (cs : Int32) (h0 : Heap) (n0 : Nat) (Z0 : n0 ≤ h0.size) (O0 : Old Z n0 h0) (F_a_coder : Fld Z h0 a "java/lang/AbstractStringBuilder" "coder" "B" (.int 0)) (S_cs : Sta Z Z.heap "java/lang/String" "COMPACT_STRINGS" "Z" (.int cs)) (n_cs : ¬ cs = 0) :
    MetN l Z ws (⟨"java/lang/AbstractStringBuilder", "isLatin1", "()Z"⟩ : MethodName) jdk_68_method_68_code 1 (some .boolean) ({ frames := 0, cells := 0, slots := 0, locals := 0 } : Room) #[(.ref a)] h0 (Q_rmAL1 Z a cs h0 n0) := by
  refine MetN.go (plainFor_of_name pn_92) n0 fun p e s m below meth c s₁ Bd hx hby hml hZ hh hown hnm X0 e0 N0 => ?_
  have hown : s.vm.findClass "java/lang/AbstractStringBuilder" = some m.cls := hown
  refine Go.ent (ef_4 m a) ?_
  show Go _ _ _ _ s₁ (mkF m 0 #[rv a] [])
  have F1 : Sta Z h0 "java/lang/String" "COMPACT_STRINGS" "Z" (.int cs) := S_cs.ext O0.2
  obtain ⟨T2, X2, e2, st2⟩ := getS2 X0 hx hZ hown (host := "") (Or.inl (ow hw 71 rfl)) Via.refl e0 F1 (g := (mkF m 0 #[rv a] [])) rfl (hb hby d33_0)
  refine Go.by st2 ?_
  show Go _ _ _ _ T2 (mkF m 3 #[rv a] [(.int cs)])
  refine Go.ifN 6 X2 hx (hb hby d33_3) (XT.i0_eq_f n_cs) rfl ?_
  refine Go.aload1 7 X2 hx (hb hby d33_6) rfl rfl rfl ?_
  obtain ⟨T3, X3, e3, st3⟩ := getF X2 hx hZ hown (host := "") (Or.inl (ow hw 74 rfl)) Via.refl e2 F_a_coder (g := (mkF m 7 #[rv a] [(.ref a)])) rfl rfl (hb hby d33_7)
  refine Go.by st3 ?_
  show Go _ _ _ _ T3 (mkF m 10 #[rv a] [(.int 0)])
  refine Go.ifN 13 X3 hx (hb hby d33_10) (XT.i0_ne_f rfl) rfl ?_
  refine Go.iconst 14 X3 hx (1 : Int32) (hb hby d33_13) (by decide) rfl ?_
  refine Go.goto 18 X3 hx (hb hby d33_14) (by decide) (by decide) ?_
  exact Go.retI X3 hx Bd.notSynchronized Bd.returns rfl (by simp) (hb hby d33_18) (by rw [e3]; exact ⟨rfl, N0, rfl⟩) (by decide) (by decide)
theorem pn_216 : plainName "java/util/Arrays" = true := by first | (simp [plainName, overriddenIn]; done) | decide +kernel
theorem d36_0 : decode jdk_65_method_131_code 0 = .ok (.iload_n 1, 1) := by decide +kernel
theorem d36_1 : decode jdk_65_method_131_code 1 = .ok (.iload_n 0, 1) := by decide +kernel
theorem d36_2 : decode jdk_65_method_131_code 2 = .ok (.if_icmp .ge 35, 3) := by decide +kernel
theorem d36_37 : decode jdk_65_method_131_code 37 = .ok (.return_, 1) := by decide +kernel
def Q_rmChkL (Z : State) (z : Int32) (h0 : Heap) (n0 : Nat) (v : Option Value) (h : Heap) (L : List Loc) : Prop := v = none ∧ Fr n0 L ∧ h = h0
theorem rmChkL (l : Launch) (Z : State) (a0 : Array Value) (hw : ∀ d ∈ tables_1, d.before a0 Z = true) (ws : List Jvm.Cond) (z : Int32) (h0 : Heap) (n0 : Nat) (Z0 : n0 ≤ h0.size) (hz : (¬ z < 0)) :
    MetN l Z ws (⟨"java/util/Arrays", "checkLength", "(II)V"⟩ : MethodName) jdk_65_method_131_code 2 none ({ frames := 0, cells := 0, slots := 0, locals := 0 } : Room) #[(.int 0), (.int z)] h0 (Q_rmChkL Z z h0 n0) := by
  refine MetN.go (plainFor_of_name pn_216) n0 fun p e s m below meth c s₁ Bd hx hby hml hZ hh hown hnm X0 e0 N0 => ?_
  have hown : s.vm.findClass "java/util/Arrays" = some m.cls := hown
  refine Go.ent (ef_44 m (0 : Int32) z) ?_
  show Go _ _ _ _ s₁ (mkF m 0 #[iv 0, iv z] [])
  refine Go.iload1 1 X0 hx (hb hby d36_0) rfl rfl ?_
  refine Go.iload1 2 X0 hx (hb hby d36_1) rfl rfl ?_
  refine Go.icmpY 37 X0 hx (hb hby d36_2) (XT.ii_ge_t hz) (by decide) (by decide) ?_
  exact Go.retV X0 hx Bd.notSynchronized Bd.returns (hb hby d36_37) (by rw [e0]; exact ⟨rfl, N0, rfl⟩) (by decide) (by decide)
theorem pf_221 : plainFor (⟨"java/lang/Math", "min", "(II)I"⟩ : MethodName) = true := Jvm.Free.JP.mathPlain rfl (by decide +kernel)
theorem d37_0 : decode jdk_29_method_69_code 0 = .ok (.iload_n 0, 1) := by decide +kernel
theorem d37_1 : decode jdk_29_method_69_code 1 = .ok (.iload_n 1, 1) := by decide +kernel
theorem d37_2 : decode jdk_29_method_69_code 2 = .ok (.if_icmp .gt 7, 3) := by decide +kernel
theorem d37_9 : decode jdk_29_method_69_code 9 = .ok (.iload_n 1, 1) := by decide +kernel
theorem d37_10 : decode jdk_29_method_69_code 10 = .ok (.ireturn, 1) := by decide +kernel
def Q_rmMin (Z : State) (xa : Int32) (ya : Int32) (h0 : Heap) (n0 : Nat) (v : Option Value) (h : Heap) (L : List Loc) : Prop := v = some (.int ya) ∧ Fr n0 L ∧ h = h0
theorem rmMin (l : Launch) (Z : State) (a0 : Array Value) (hw : ∀ d ∈ tables_1, d.before a0 Z = true) (ws : List Jvm.Cond) (xa : Int32) (ya : Int32) (h0 : Heap) (n0 : Nat) (Z0 : n0 ≤ h0.size) (hlt : (ya < xa)) :
    MetN l Z ws (⟨"java/lang/Math", "min", "(II)I"⟩ : MethodName) jdk_29_method_69_code 2 (some .int) ({ frames := 0, cells := 0, slots := 0, locals := 0 } : Room) #[(.int xa), (.int ya)] h0 (Q_rmMin Z xa ya h0 n0) := by
  refine MetN.go pf_221 n0 fun p e s m below meth c s₁ Bd hx hby hml hZ hh hown hnm X0 e0 N0 => ?_
  have hown : s.vm.findClass "java/lang/Math" = some m.cls := hown
  refine Go.ent (ef_44 m xa ya) ?_
  show Go _ _ _ _ s₁ (mkF m 0 #[iv xa, iv ya] [])
  refine Go.iload1 1 X0 hx (hb hby d37_0) rfl rfl ?_
  refine Go.iload1 2 X0 hx (hb hby d37_1) rfl rfl ?_
  refine Go.icmpY 9 X0 hx (hb hby d37_2) (XT.ii_gt_t hlt) (by decide) (by decide) ?_
  refine Go.iload1 10 X0 hx (hb hby d37_9) rfl rfl ?_
  exact Go.retI X0 hx Bd.notSynchronized Bd.returns rfl (by simp) (hb hby d37_10) (by rw [e0]; exact ⟨rfl, N0, rfl⟩) (by decide) (by decide)
theorem ef_227 (m : MethodId) (x0 : Addr) (x1 : Int32) (x2 : Int32) : entryFrame m #[(.ref x0), (.int x1), (.int x2)] 5 = mkF m 0 #[rv x0, iv x1, iv x2, un, un] [] := by (first | (simp [entryFrame, mkF, argsToLocals, Value.category]; done) | rfl)
theorem d35_0 : decode jdk_65_method_133_code 0 = .ok (.iload_n 1, 1) := by decide +kernel
theorem d35_1 : decode jdk_65_method_133_code 1 = .ok (.iload_n 2, 1) := by decide +kernel
theorem d35_2 : decode jdk_65_method_133_code 2 = .ok (.invokestatic 343, 3) := by decide +kernel
theorem d35_5 : decode jdk_65_method_133_code 5 = .ok (.iload_n 2, 1) := by decide +kernel
theorem d35_6 : decode jdk_65_method_133_code 6 = .ok (.iload_n 1, 1) := by decide +kernel
theorem d35_7 : decode jdk_65_method_133_code 7 = .ok (.isub, 1) := by decide +kernel
theorem d35_8 : decode jdk_65_method_133_code 8 = .ok (.istore_n 3, 1) := by decide +kernel
theorem d35_9 : decode jdk_65_method_133_code 9 = .ok (.iload_n 3, 1) := by decide +kernel
theorem d35_10 : decode jdk_65_method_133_code 10 = .ok (.newarray .byte, 2) := by decide +kernel
theorem d35_12 : decode jdk_65_method_133_code 12 = .ok (.astore 4, 2) := by decide +kernel
theorem d35_14 : decode jdk_65_method_133_code 14 = .ok (.aload_n 0, 1) := by decide +kernel
theorem d35_15 : decode jdk_65_method_133_code 15 = .ok (.iload_n 1, 1) := by decide +kernel
theorem d35_16 : decode jdk_65_method_133_code 16 = .ok (.aload 4, 2) := by decide +kernel
theorem d35_18 : decode jdk_65_method_133_code 18 = .ok (.iconst 0, 1) := by decide +kernel
theorem d35_19 : decode jdk_65_method_133_code 19 = .ok (.aload_n 0, 1) := by decide +kernel
theorem d35_20 : decode jdk_65_method_133_code 20 = .ok (.arraylength, 1) := by decide +kernel
theorem d35_21 : decode jdk_65_method_133_code 21 = .ok (.iload_n 1, 1) := by decide +kernel
theorem d35_22 : decode jdk_65_method_133_code 22 = .ok (.isub, 1) := by decide +kernel
theorem d35_23 : decode jdk_65_method_133_code 23 = .ok (.iload_n 3, 1) := by decide +kernel
theorem pd_247 : parseMethodDescriptor "(II)I" = some ⟨[.int, .int], some .int⟩ := by decide +kernel
theorem d35_24 : decode jdk_65_method_133_code 24 = .ok (.invokestatic 304, 3) := by decide +kernel
theorem d35_27 : decode jdk_65_method_133_code 27 = .ok (.invokestatic 150, 3) := by decide +kernel
theorem d35_30 : decode jdk_65_method_133_code 30 = .ok (.aload 4, 2) := by decide +kernel
theorem d35_32 : decode jdk_65_method_133_code 32 = .ok (.areturn, 1) := by decide +kernel
def Q_rmCorb (Z : State) (b : Addr) (kb : ClassId) (xs : List Value) (h0 : Heap) (n0 : Nat) (v : Option Value) (h : Heap) (L : List Loc) : Prop := ∃ sv : Addr, ∃ ksv : ClassId, v = some (.ref sv) ∧ Fr n0 L ∧ Keep h0 h [] ∧ Arv Z h sv ksv .byte (Int32.ofNat xs.length) xs (.int 0) ∧ h0.size ≤ sv
theorem rmCorb (l : Launch) (Z : State) (a0 : Array Value) (hw : ∀ d ∈ tables_1, d.before a0 Z = true) (ws : List Jvm.Cond) (b : Addr) (kb : ClassId) (xs : List Value) (h0 : Heap) (n0 : Nat) (Z0 : n0 ≤ h0.size) (V_b : Arv Z h0 b kb .byte (16 : Int32) xs (.int 0)) (h15 : (xs.length < 16)) :
    MetN l Z ws (⟨"java/util/Arrays", "copyOfRangeByte", "([BII)[B"⟩ : MethodName) jdk_65_method_133_code 5 (some (.array .byte)) ({ frames := 1, cells := 1, slots := 16, locals := 40 } : Room) #[(.ref b), (.int 0), (.int (Int32.ofNat xs.length))] h0 (Q_rmCorb Z b kb xs h0 n0) := by
  refine MetN.go (plainFor_of_name pn_216) n0 fun p e s m below meth c s₁ Bd hx hby hml hZ hh hown hnm X0 e0 N0 => ?_
  have hown : s.vm.findClass "java/util/Arrays" = some m.cls := hown
  refine Go.ent (ef_227 m b (0 : Int32) (Int32.ofNat xs.length)) ?_
  show Go _ _ _ _ s₁ (mkF m 0 #[rv b, iv 0, iv (Int32.ofNat xs.length), un, un] [])
  refine Go.iload1 1 X0 hx (hb hby d35_0) rfl rfl ?_
  refine Go.iload1 2 X0 hx (hb hby d35_1) rfl rfl ?_
  obtain ⟨_, _, ⟨T1, L1, k1, n1⟩, -, X1, ⟨Lc1, hQ1, l1, y1, z1⟩, st1⟩ := Jvm.LawKit.callS X0 hx (y := (⟨"java/util/Arrays", "checkLength", "(II)V"⟩ : MethodName)) hown (mvT hZ (ow hw 196 rfl)) (mvT hZ (ow hw 197 rfl)) (mvT hZ (ow hw 191 rfl)) (mvT hZ (ow hw 198 rfl)) (by decide) (backOf (W := 0) (rmChkL l Z a0 hw [] (Int32.ofNat xs.length) h0 n0 Z0 (own_ofnn (by omega))) hZ (ow hw 198 rfl) (ow hw 191 rfl) (by decide) (by decide)) (g := (mkF m 2 #[rv b, iv 0, iv (Int32.ofNat xs.length), un, un] [(.int (Int32.ofNat xs.length)), (.int 0)])) rfl (by rw [hml]; rfl) (argsL := [(.int 0), (.int (Int32.ofNat xs.length))]) (rest := []) (lenOf pd_57 rfl) rfl (by show 2 * 0 + _ ≤ _; exact Nat.le_of_eq rfl) (hb hby d35_2) (fun _ _ => ⟨rfl, e0, (by decide : 0 + 0 ≤ _), (by decide : 0 + 0 ≤ _)⟩)
  dsimp only [Pt.U, Pt.locs, Pt.cells, Pt.slots] at X1 l1 y1 z1 st1 hQ1
  subst l1 y1 z1
  obtain ⟨rfl, N1q, e1⟩ := hQ1
  have N1 := Fr.app N0 N1q
  refine Go.by st1 ?_
  show Go _ _ _ _ T1 (mkF m 5 #[rv b, iv 0, iv (Int32.ofNat xs.length), un, un] [])
  refine Go.iload1 6 X1 hx (hb hby d35_5) rfl rfl ?_
  refine Go.iload1 7 X1 hx (hb hby d35_6) rfl rfl ?_
  refine Go.isub 8 X1 hx (hb hby d35_7) rfl ?_
  refine Go.istore1 9 X1 hx (L' := #[rv b, iv 0, iv (Int32.ofNat xs.length), iv ((Int32.ofNat xs.length) - (0 : Int32)), un]) (hb hby d35_8) rfl rfl ?_
  refine Go.iload1 10 X1 hx (hb hby d35_9) rfl rfl ?_
  rw [own_sub0]
  show Go _ _ _ _ T1 (mkF m 10 #[rv b, iv 0, iv (Int32.ofNat xs.length), iv (Int32.ofNat xs.length), un] [(.int (Int32.ofNat xs.length))])
  obtain ⟨sv, g2⟩ : ∃ z, z = h0.size := ⟨_, rfl⟩
  have ge_sv : n0 ≤ sv := Nat.le_trans Z0 (Nat.le_of_eq g2.symm)
  have sz_sv : h0.size ≤ sv := Nat.le_trans (Keep.refl h0 []).1 (Nat.le_of_eq g2.symm)
  have ne_b_sv : b ≠ sv := Nat.ne_of_lt (Nat.lt_of_lt_of_le V_b.lt (Nat.le_of_eq g2.symm))
  obtain ⟨T2, h2, k2, X2, e2, E2, A2, Ea2, st2⟩ := newPE X1 hx hZ (ow hw 24 rfl) e1 (g := (mkF m 10 #[rv b, iv 0, iv (Int32.ofNat xs.length), iv (Int32.ofNat xs.length), un] [(.int (Int32.ofNat xs.length))])) rfl (hb hby d35_10) rfl (own_ofnn (by omega)) (cap := 16) (by rw [own_ofn (by omega)]; omega) (by decide) (by decide) (by decide) (ad := "[B") rfl
  rw [← g2] at A2 Ea2 st2
  have V_sv : Arv Z h2 sv k2 .byte (Int32.ofNat xs.length) [] (.int 0) := Arv.new A2 (own_ofnn (by omega))
  refine Go.by st2 ?_
  show Go _ _ _ _ T2 (mkF m 12 #[rv b, iv 0, iv (Int32.ofNat xs.length), iv (Int32.ofNat xs.length), un] [(.ref sv)])
  refine Go.astore2 14 X2 hx (L' := #[rv b, iv 0, iv (Int32.ofNat xs.length), iv (Int32.ofNat xs.length), rv sv]) (hb hby d35_12) rfl rfl rfl ?_
  refine Go.aload1 15 X2 hx (hb hby d35_14) rfl rfl rfl ?_
  refine Go.iload1 16 X2 hx (hb hby d35_15) rfl rfl ?_
  refine Go.aload2 18 X2 hx (hb hby d35_16) rfl rfl rfl ?_
  refine Go.iconst 19 X2 hx (0 : Int32) (hb hby d35_18) (by decide) rfl ?_
  refine Go.aload1 20 X2 hx (hb hby d35_19) rfl rfl rfl ?_
  have F3 : Arv Z h2 b kb .byte (16 : Int32) xs (.int 0) := V_b.ext E2
  obtain ⟨cl4, Ar4, -, S4, M4, -, -⟩ := id F3
  refine Go.by (fun _ gk => X2.arraylength hx (by rw [e2]; exact Ar4.1) (State.isArrayOf_alike hZ.alike Ar4.2.1) (g := (mkF m 20 #[rv b, iv 0, iv (Int32.ofNat xs.length), iv (Int32.ofNat xs.length), rv sv] [(.ref b), (.int 0), (.ref sv), (.int 0), (.ref b)])) rfl rfl (hb hby d35_20) _ gk) ?_
  rw [len_of S4 M4]
  show Go _ _ _ _ T2 (mkF m 21 #[rv b, iv 0, iv (Int32.ofNat xs.length), iv (Int32.ofNat xs.length), rv sv] [(.int 16), (.int 0), (.ref sv), (.int 0), (.ref b)])
  refine Go.iload1 22 X2 hx (hb hby d35_21) rfl rfl ?_
  refine Go.isub 23 X2 hx (hb hby d35_22) rfl ?_
  rw [(by decide : ((16 : Int32) - (0 : Int32)) = (16 : Int32))]
  refine Go.iload1 24 X2 hx (hb hby d35_23) rfl rfl ?_
  have F5 : n0 ≤ h2.size := Nat.le_trans Z0 E2.1
  obtain ⟨_, _, ⟨T6, L6, k6, n6⟩, -, X6, ⟨Lc6, hQ6, l6, y6, z6⟩, st6⟩ := Jvm.LawKit.callS X2 hx (y := (⟨"java/lang/Math", "min", "(II)I"⟩ : MethodName)) hown (mvT hZ (ow hw 199 rfl)) (mvT hZ (ow hw 200 rfl)) (mvT hZ (ow hw 201 rfl)) (mvT hZ (ow hw 202 rfl)) (by decide) (backOf (W := 4) (rmMin l Z a0 hw [] (16 : Int32) (Int32.ofNat xs.length) h2 n0 F5 (own_oflt (j := 16) h15 (by omega))) hZ (ow hw 202 rfl) (ow hw 201 rfl) (by decide) (by decide)) (g := (mkF m 24 #[rv b, iv 0, iv (Int32.ofNat xs.length), iv (Int32.ofNat xs.length), rv sv] [(.int (Int32.ofNat xs.length)), (.int 16), (.int 0), (.ref sv), (.int 0), (.ref b)])) rfl (by rw [hml]; rfl) (argsL := [(.int 16), (.int (Int32.ofNat xs.length))]) (rest := [(.int 0), (.ref sv), (.int 0), (.ref b)]) (lenOf pd_247 rfl) rfl (by show 2 * 0 + _ ≤ _; exact Nat.le_of_eq rfl) (hb hby d35_24) (fun _ _ => ⟨rfl, e2, (by decide : 1 + 0 ≤ _), (by decide : 16 + 0 ≤ _)⟩)
  dsimp only [Pt.U, Pt.locs, Pt.cells, Pt.slots] at X6 l6 y6 z6 st6 hQ6
  subst l6 y6 z6
  obtain ⟨rfl, N6q, e6⟩ := hQ6
  have N6 := Fr.app N1 N6q
  refine Go.by st6 ?_
  show Go _ _ _ _ T6 (mkF m 27 #[rv b, iv 0, iv (Int32.ofNat xs.length), iv (Int32.ofNat xs.length), rv sv] [(.int (Int32.ofNat xs.length)), (.int 0), (.ref sv), (.int 0), (.ref b)])
  obtain ⟨T7, h7, X7, e7, K7, V7, st7⟩ := own_acopy X6 hx hZ hown (ow hw 203 rfl) (ow hw 157 rfl) (ow hw 155 rfl) (ow hw 156 rfl) e6 F3 V_sv 0 0 xs.length rfl rfl rfl (by rw [own_16]; omega) (by rw [own_ofn (by omega)]; omega) (g := (mkF m 27 #[rv b, iv 0, iv (Int32.ofNat xs.length), iv (Int32.ofNat xs.length), rv sv] [(.int (Int32.ofNat xs.length)), (.int 0), (.ref sv), (.int 0), (.ref b)])) rfl (by rw [hml]; rfl) rfl (hb hby d35_27) (W := 0) (by show 2 * 0 + _ ≤ _; exact Nat.le_of_eq rfl) (by decide) (by decide)
  have N7 := own_copyFr (b := sv) (q := 0) (n := xs.length) N6 ge_sv
  refine Go.by st7 ?_
  show Go _ _ _ _ T7 (mkF m 30 #[rv b, iv 0, iv (Int32.ofNat xs.length), iv (Int32.ofNat xs.length), rv sv] [])
  have Vu : Arv Z h7 sv k2 .byte (Int32.ofNat xs.length) xs (.int 0) := own_arv_cp (by omega) V7
  refine Go.aload2 32 X7 hx (hb hby d35_30) rfl rfl rfl ?_
  have F8 : Keep h0 h2 [] := (Keep.refl h0 []).ext E2
  have F9 : Keep h0 h7 [] := F8.trans K7 (allS (Or.inr sz_sv) all0)
  exact Go.retA X7 hx Bd.notSynchronized Bd.returns rfl rfl (hb hby d35_32) (by rw [e7]; exact ⟨sv, k2, rfl, N7, F9, Vu, sz_sv⟩) (by decide) (by decide)
theorem ef_252 (m : MethodId) (x0 : Addr) (x1 : Int32) (x2 : Int32) : entryFrame m #[(.ref x0), (.int x1), (.int x2)] 3 = mkF m 0 #[rv x0, iv x1, iv x2] [] := by (first | (simp [entryFrame, mkF, argsToLocals, Value.category]; done) | rfl)
theorem d34_0 : decode jdk_65_method_132_code 0 = .ok (.iload_n 1, 1) := by decide +kernel
theorem d34_1 : decode jdk_65_method_132_code 1 = .ok (.ifCond .ne 9, 3) := by decide +kernel
theorem d34_4 : decode jdk_65_method_132_code 4 = .ok (.iload_n 2, 1) := by decide +kernel
theorem d34_5 : decode jdk_65_method_132_code 5 = .ok (.aload_n 0, 1) := by decide +kernel
theorem d34_6 : decode jdk_65_method_132_code 6 = .ok (.arraylength, 1) := by decide +kernel
theorem d34_7 : decode jdk_65_method_132_code 7 = .ok (.if_icmp .eq 10, 3) := by decide +kernel
theorem d34_10 : decode jdk_65_method_132_code 10 = .ok (.aload_n 0, 1) := by decide +kernel
theorem d34_11 : decode jdk_65_method_132_code 11 = .ok (.iload_n 1, 1) := by decide +kernel
theorem d34_12 : decode jdk_65_method_132_code 12 = .ok (.iload_n 2, 1) := by decide +kernel
theorem pd_262 : parseMethodDescriptor "([BII)[B" = some ⟨[(.array .byte), .int, .int], some (.array .byte)⟩ := by decide +kernel
theorem d34_13 : decode jdk_65_method_132_code 13 = .ok (.invokestatic 339, 3) := by decide +kernel
theorem d34_16 : decode jdk_65_method_132_code 16 = .ok (.areturn, 1) := by decide +kernel
def Q_rmCor (Z : State) (b : Addr) (kb : ClassId) (xs : List Value) (h0 : Heap) (n0 : Nat) (v : Option Value) (h : Heap) (L : List Loc) : Prop := ∃ sv : Addr, ∃ ksv : ClassId, v = some (.ref sv) ∧ Fr n0 L ∧ Keep h0 h [] ∧ Arv Z h sv ksv .byte (Int32.ofNat xs.length) xs (.int 0) ∧ h0.size ≤ sv
theorem rmCor (l : Launch) (Z : State) (a0 : Array Value) (hw : ∀ d ∈ tables_1, d.before a0 Z = true) (ws : List Jvm.Cond) (b : Addr) (kb : ClassId) (xs : List Value) (h0 : Heap) (n0 : Nat) (Z0 : n0 ≤ h0.size) (V_b : Arv Z h0 b kb .byte (16 : Int32) xs (.int 0)) (h15 : (xs.length < 16)) :
    MetN l Z ws (⟨"java/util/Arrays", "copyOfRange", "([BII)[B"⟩ : MethodName) jdk_65_method_132_code 3 (some (.array .byte)) ({ frames := 2, cells := 1, slots := 16, locals := 56 } : Room) #[(.ref b), (.int 0), (.int (Int32.ofNat xs.length))] h0 (Q_rmCor Z b kb xs h0 n0) := by
  refine MetN.go (plainFor_of_name pn_216) n0 fun p e s m below meth c s₁ Bd hx hby hml hZ hh hown hnm X0 e0 N0 => ?_
  have hown : s.vm.findClass "java/util/Arrays" = some m.cls := hown
  refine Go.ent (ef_252 m b (0 : Int32) (Int32.ofNat xs.length)) ?_
  show Go _ _ _ _ s₁ (mkF m 0 #[rv b, iv 0, iv (Int32.ofNat xs.length)] [])
  refine Go.iload1 1 X0 hx (hb hby d34_0) rfl rfl ?_
  refine Go.ifN 4 X0 hx (hb hby d34_1) (XT.i0_ne_f rfl) rfl ?_
  refine Go.iload1 5 X0 hx (hb hby d34_4) rfl rfl ?_
  refine Go.aload1 6 X0 hx (hb hby d34_5) rfl rfl rfl ?_
  obtain ⟨cl1, Ar1, -, S1, M1, -, -⟩ := id V_b
  refine Go.by (fun _ gk => X0.arraylength hx (by rw [e0]; exact Ar1.1) (State.isArrayOf_alike hZ.alike Ar1.2.1) (g := (mkF m 6 #[rv b, iv 0, iv (Int32.ofNat xs.length)] [(.ref b), (.int (Int32.ofNat xs.length))])) rfl rfl (hb hby d34_6) _ gk) ?_
  rw [len_of S1 M1]
  show Go _ _ _ _ s₁ (mkF m 7 #[rv b, iv 0, iv (Int32.ofNat xs.length)] [(.int 16), (.int (Int32.ofNat xs.length))])
  refine Go.icmpN 10 X0 hx (hb hby d34_7) (XT.ii_eq_f (own_ofne (j := 16) (by omega) (by omega) (by omega))) rfl ?_
  refine Go.aload1 11 X0 hx (hb hby d34_10) rfl rfl rfl ?_
  refine Go.iload1 12 X0 hx (hb hby d34_11) rfl rfl ?_
  refine Go.iload1 13 X0 hx (hb hby d34_12) rfl rfl ?_
  obtain ⟨_, _, ⟨T2, L2, k2, n2⟩, -, X2, ⟨Lc2, hQ2, l2, y2, z2⟩, st2⟩ := Jvm.LawKit.callS X0 hx (y := (⟨"java/util/Arrays", "copyOfRangeByte", "([BII)[B"⟩ : MethodName)) hown (mvT hZ (ow hw 193 rfl)) (mvT hZ (ow hw 194 rfl)) (mvT hZ (ow hw 191 rfl)) (mvT hZ (ow hw 195 rfl)) (by decide) (backOf (W := 0) (rmCorb l Z a0 hw [] b kb xs h0 n0 Z0 V_b h15) hZ (ow hw 195 rfl) (ow hw 191 rfl) (by decide) (by decide)) (g := (mkF m 13 #[rv b, iv 0, iv (Int32.ofNat xs.length)] [(.int (Int32.ofNat xs.length)), (.int 0), (.ref b)])) rfl (by rw [hml]; rfl) (argsL := [(.ref b), (.int 0), (.int (Int32.ofNat xs.length))]) (rest := []) (lenOf pd_262 rfl) rfl (by show 2 * 0 + _ ≤ _; exact Nat.le_of_eq rfl) (hb hby d34_13) (fun _ _ => ⟨rfl, e0, (by decide : 0 + 1 ≤ _), (by decide : 0 + 16 ≤ _)⟩)
  dsimp only [Pt.U, Pt.locs, Pt.cells, Pt.slots] at X2 l2 y2 z2 st2 hQ2
  subst l2 y2 z2
  obtain ⟨sv, ksv, rfl, N2q, K2, Q2_0, Q2_1⟩ := hQ2
  have N2 := Fr.app N0 N2q
  refine Go.by st2 ?_
  show Go _ _ _ _ T2 (mkF m 16 #[rv b, iv 0, iv (Int32.ofNat xs.length)] [(.ref sv)])
  have ge_sv : n0 ≤ sv := Nat.le_trans Z0 Q2_1
  have sz_sv : h0.size ≤ sv := Nat.le_trans (Keep.refl h0 []).1 Q2_1
  have ne_b_sv : b ≠ sv := Nat.ne_of_lt (Nat.lt_of_lt_of_le V_b.lt Q2_1)
  have F3 : Keep h0 T2.heap [] := (Keep.refl h0 []).trans K2 all0
  exact Go.retA X2 hx Bd.notSynchronized Bd.returns rfl rfl (hb hby d34_16) ⟨sv, ksv, rfl, N2, F3, Q2_0, sz_sv⟩ (by decide) (by decide)
theorem ef_265 (m : MethodId) (x0 : Addr) (x1 : Addr) : entryFrame m #[(.ref x0), (.ref x1), .null] 5 = mkF m 0 #[rv x0, rv x1, .val .null, un, un] [] := by (first | (simp [entryFrame, mkF, argsToLocals, Value.category]; done) | rfl)
theorem d29_0 : decode jdk_42_method_150_code 0 = .ok (.aload_n 0, 1) := by decide +kernel
theorem d29_1 : decode jdk_42_method_150_code 1 = .ok (.invokespecial 1, 3) := by decide +kernel
theorem d29_4 : decode jdk_42_method_150_code 4 = .ok (.aload_n 1, 1) := by decide +kernel
theorem pd_269 : parseMethodDescriptor "()[B" = some ⟨[], some (.array .byte)⟩ := by decide +kernel
theorem d29_5 : decode jdk_42_method_150_code 5 = .ok (.invokevirtual 552, 3) := by decide +kernel
theorem d29_8 : decode jdk_42_method_150_code 8 = .ok (.astore_n 3, 1) := by decide +kernel
theorem d29_9 : decode jdk_42_method_150_code 9 = .ok (.aload_n 1, 1) := by decide +kernel
theorem d29_10 : decode jdk_42_method_150_code 10 = .ok (.invokevirtual 549, 3) := by decide +kernel
theorem d29_13 : decode jdk_42_method_150_code 13 = .ok (.istore 4, 2) := by decide +kernel
theorem d29_15 : decode jdk_42_method_150_code 15 = .ok (.aload_n 1, 1) := by decide +kernel
theorem d29_16 : decode jdk_42_method_150_code 16 = .ok (.invokevirtual 1047, 3) := by decide +kernel
theorem d29_19 : decode jdk_42_method_150_code 19 = .ok (.ifCond .eq 22, 3) := by decide +kernel
theorem d29_22 : decode jdk_42_method_150_code 22 = .ok (.aload_n 0, 1) := by decide +kernel
theorem d29_23 : decode jdk_42_method_150_code 23 = .ok (.iconst 0, 1) := by decide +kernel
theorem d29_24 : decode jdk_42_method_150_code 24 = .ok (.putfield 15, 3) := by decide +kernel
theorem d29_27 : decode jdk_42_method_150_code 27 = .ok (.aload_n 0, 1) := by decide +kernel
theorem d29_28 : decode jdk_42_method_150_code 28 = .ok (.aload_n 3, 1) := by decide +kernel
theorem d29_29 : decode jdk_42_method_150_code 29 = .ok (.iconst 0, 1) := by decide +kernel
theorem d29_30 : decode jdk_42_method_150_code 30 = .ok (.iload 4, 2) := by decide +kernel
theorem d29_32 : decode jdk_42_method_150_code 32 = .ok (.invokestatic 54, 3) := by decide +kernel
theorem d29_35 : decode jdk_42_method_150_code 35 = .ok (.putfield 9, 3) := by decide +kernel
theorem d29_38 : decode jdk_42_method_150_code 38 = .ok (.goto 59, 3) := by decide +kernel
theorem d29_97 : decode jdk_42_method_150_code 97 = .ok (.return_, 1) := by decide +kernel
def Q_rmSInitA (Z : State) (a : Addr) (sb : Addr) (b : Addr) (kb : ClassId) (xs : List Value) (cs : Int32) (h0 : Heap) (n0 : Nat) (v : Option Value) (h : Heap) (L : List Loc) : Prop := ∃ sv : Addr, ∃ ksv : ClassId, v = none ∧ Fr n0 L ∧ Keep h0 h [a] ∧ Exa Z h a "java/lang/String" ∧ Fld Z h a "java/lang/String" "coder" "B" (.int 0) ∧ Fld Z h a "java/lang/String" "value" "[B" (.ref sv) ∧ Arv Z h sv ksv .byte (Int32.ofNat xs.length) xs (.int 0) ∧ h0.size ≤ sv
theorem rmSInitA (l : Launch) (Z : State) (a0 : Array Value) (hw : ∀ d ∈ tables_1, d.before a0 Z = true) (ws : List Jvm.Cond) (a : Addr) (sb : Addr) (b : Addr) (kb : ClassId) (xs : List Value) (cs : Int32) (h0 : Heap) (n0 : Nat) (Z0 : n0 ≤ h0.size) (O0 : Old Z n0 h0) (E_a : Exa Z h0 a "java/lang/String") (F_a_value : Fld Z h0 a "java/lang/String" "value" "[B" .null) (F_a_coder : Fld Z h0 a "java/lang/String" "coder" "B" (.int 0)) (g_a : n0 ≤ a) (E_sb : Exa Z h0 sb "java/lang/StringBuilder") (F_sb_coder : Fld Z h0 sb "java/lang/AbstractStringBuilder" "coder" "B" (.int 0)) (F_sb_value : Fld Z h0 sb "java/lang/AbstractStringBuilder" "value" "[B" (.ref b)) (F_sb_count : Fld Z h0 sb "java/lang/AbstractStringBuilder" "count" "I" (.int (Int32.ofNat xs.length))) (V_b : Arv Z h0 b kb .byte (16 : Int32) xs (.int 0)) (ne_b_a : b ≠ a) (ne_sb_a : sb ≠ a) (h15 : (xs.length < 16)) (S_cs : Sta Z Z.heap "java/lang/String" "COMPACT_STRINGS" "Z" (.int cs)) (n_cs : ¬ cs = 0) :
    MetN l Z ws (⟨"java/lang/String", "<init>", "(Ljava/lang/AbstractStringBuilder;Ljava/lang/Void;)V"⟩ : MethodName) jdk_42_method_150_code 5 none ({ frames := 3, cells := 1, slots := 16, locals := 71 } : Room) #[(.ref a), (.ref sb), .null] h0 (Q_rmSInitA Z a sb b kb xs cs h0 n0) := by
  refine MetN.go (plainFor_of_name pn_3) n0 fun p e s m below meth c s₁ Bd hx hby hml hZ hh hown hnm X0 e0 N0 => ?_
  have hown : s.vm.findClass "java/lang/String" = some m.cls := hown
  refine Go.ent (ef_265 m a sb) ?_
  show Go _ _ _ _ s₁ (mkF m 0 #[rv a, rv sb, .val .null, un, un] [])
  refine Go.aload1 1 X0 hx (hb hby d29_0) rfl rfl rfl ?_
  obtain ⟨T1, X1, e1, st1⟩ := initO X0 hx hZ hown (ow hw 16 rfl) (ow hw 17 rfl) (ow hw 18 rfl) e0 (g := (mkF m 1 #[rv a, rv sb, .val .null, un, un] [(.ref a)])) rfl (by rw [hml]; rfl) rfl (hb hby d29_1) (by decide) (W := 0) (by show 2 * 0 + _ ≤ _; exact Nat.le_of_eq rfl) (by decide)
  refine Go.by st1 ?_
  show Go _ _ _ _ T1 (mkF m 4 #[rv a, rv sb, .val .null, un, un] [])
  refine Go.aload1 5 X1 hx (hb hby d29_4) rfl rfl rfl ?_
  obtain ⟨cq2, kq2, q2a, q2b, q2c⟩ := isOf hZ e1 E_sb
  obtain ⟨_, _, ⟨T2, L2, k2, n2⟩, -, X2, ⟨Lc2, hQ2, l2, y2, z2⟩, st2⟩ := X1.virtualBack hx (y := (⟨"java/lang/AbstractStringBuilder", "getValue", "()[B"⟩ : MethodName)) (z := (⟨"java/lang/AbstractStringBuilder", "getValue", "()[B"⟩ : MethodName)) hown (mvT hZ (ow hw 171 rfl)) (mvT hZ (ow hw 172 rfl)) (notFace_of_selects (args := #[]) (mvT hZ (ow hw 174 rfl))) (mvT hZ (ow hw 174 rfl)) (mvT hZ (ow hw 173 rfl)) (by decide) (backOf (W := 0) (rmGetV l Z a0 hw [] sb b h0 n0 Z0 F_sb_value) hZ (ow hw 175 rfl) (ow hw 68 rfl) (by decide) (by decide)) q2a q2c (g := (mkF m 5 #[rv a, rv sb, .val .null, un, un] [(.ref sb)])) rfl (by rw [hml]; rfl) (Steps.refl _) (argsL := []) (rest := []) (lenOf pd_269 rfl) rfl (by show 2 * 0 + _ ≤ _; exact Nat.le_of_eq rfl) (hb hby d29_5) (fun _ _ => ⟨rfl, e1, (by decide : 0 + 0 ≤ _), (by decide : 0 + 0 ≤ _)⟩)
  dsimp only [Pt.U, Pt.locs, Pt.cells, Pt.slots] at X2 l2 y2 z2 st2 hQ2
  subst l2 y2 z2
  obtain ⟨rfl, N2q, e2⟩ := hQ2
  have N2 := Fr.app N0 N2q
  refine Go.to st2 ?_
  show Go _ _ _ _ T2 (mkF m 8 #[rv a, rv sb, .val .null, un, un] [(.ref b)])
  refine Go.astore1 9 X2 hx (L' := #[rv a, rv sb, .val .null, rv b, un]) (hb hby d29_8) rfl rfl rfl ?_
  refine Go.aload1 10 X2 hx (hb hby d29_9) rfl rfl rfl ?_
  obtain ⟨cq3, kq3, q3a, q3b, q3c⟩ := isOf hZ e2 E_sb
  obtain ⟨_, _, ⟨T3, L3, k3, n3⟩, -, X3, ⟨Lc3, hQ3, l3, y3, z3⟩, st3⟩ := X2.virtualBack hx (y := (⟨"java/lang/AbstractStringBuilder", "length", "()I"⟩ : MethodName)) (z := (⟨"java/lang/StringBuilder", "length", "()I"⟩ : MethodName)) hown (mvT hZ (ow hw 176 rfl)) (mvT hZ (ow hw 177 rfl)) (own_nf (args := #[]) (C := "java/lang/StringBuilder") (z := (⟨"java/lang/AbstractStringBuilder", "ensureCapacityInternal", "(I)V"⟩ : MethodName)) rfl (mvT hZ (ow hw 136 rfl))) (mvT hZ (ow hw 179 rfl)) (mvT hZ (ow hw 180 rfl)) (by decide) (backOf (W := 0) (rmSbLen l Z a0 hw [] sb (Int32.ofNat xs.length) h0 n0 Z0 E_sb F_sb_count) hZ (ow hw 181 rfl) (ow hw 60 rfl) (by decide) (by decide)) q3a q3c (g := (mkF m 10 #[rv a, rv sb, .val .null, rv b, un] [(.ref sb)])) rfl (by rw [hml]; rfl) (Steps.refl _) (argsL := []) (rest := []) (lenOf pd_169 rfl) rfl (by show 2 * 0 + _ ≤ _; exact Nat.le_of_eq rfl) (hb hby d29_10) (fun _ _ => ⟨rfl, e2, (by decide : 0 + 0 ≤ _), (by decide : 0 + 0 ≤ _)⟩)
  dsimp only [Pt.U, Pt.locs, Pt.cells, Pt.slots] at X3 l3 y3 z3 st3 hQ3
  subst l3 y3 z3
  obtain ⟨rfl, N3q, e3⟩ := hQ3
  have N3 := Fr.app N2 N3q
  refine Go.to st3 ?_
  show Go _ _ _ _ T3 (mkF m 13 #[rv a, rv sb, .val .null, rv b, un] [(.int (Int32.ofNat xs.length))])
  refine Go.istore2 15 X3 hx (L' := #[rv a, rv sb, .val .null, rv b, iv (Int32.ofNat xs.length)]) (hb hby d29_13) rfl rfl ?_
  refine Go.aload1 16 X3 hx (hb hby d29_15) rfl rfl rfl ?_
  obtain ⟨cq4, kq4, q4a, q4b, q4c⟩ := isOf hZ e3 E_sb
  obtain ⟨_, _, ⟨T4, L4, k4, n4⟩, -, X4, ⟨Lc4, hQ4, l4, y4, z4⟩, st4⟩ := X3.virtualBack hx (y := (⟨"java/lang/AbstractStringBuilder", "isLatin1", "()Z"⟩ : MethodName)) (z := (⟨"java/lang/AbstractStringBuilder", "isLatin1", "()Z"⟩ : MethodName)) hown (mvT hZ (ow hw 184 rfl)) (mvT hZ (ow hw 185 rfl)) (notFace_of_selects (args := #[]) (mvT hZ (ow hw 187 rfl))) (mvT hZ (ow hw 187 rfl)) (mvT hZ (ow hw 186 rfl)) (by decide) (backOf (W := 0) (rmAL1 l Z a0 hw [] sb cs h0 n0 Z0 O0 F_sb_coder S_cs n_cs) hZ (ow hw 188 rfl) (ow hw 68 rfl) (by decide) (by decide)) q4a q4c (g := (mkF m 16 #[rv a, rv sb, .val .null, rv b, iv (Int32.ofNat xs.length)] [(.ref sb)])) rfl (by rw [hml]; rfl) (Steps.refl _) (argsL := []) (rest := []) (lenOf pd_67 rfl) rfl (by show 2 * 0 + _ ≤ _; exact Nat.le_of_eq rfl) (hb hby d29_16) (fun _ _ => ⟨rfl, e3, (by decide : 0 + 0 ≤ _), (by decide : 0 + 0 ≤ _)⟩)
  dsimp only [Pt.U, Pt.locs, Pt.cells, Pt.slots] at X4 l4 y4 z4 st4 hQ4
  subst l4 y4 z4
  obtain ⟨rfl, N4q, e4⟩ := hQ4
  have N4 := Fr.app N3 N4q
  refine Go.to st4 ?_
  show Go _ _ _ _ T4 (mkF m 19 #[rv a, rv sb, .val .null, rv b, iv (Int32.ofNat xs.length)] [(.int 1)])
  refine Go.ifN 22 X4 hx (hb hby d29_19) (XT.i0_eq_f (by decide)) rfl ?_
  refine Go.aload1 23 X4 hx (hb hby d29_22) rfl rfl rfl ?_
  refine Go.iconst 24 X4 hx (0 : Int32) (hb hby d29_23) (by decide) rfl ?_
  obtain ⟨T5, h5, X5, e5, W5, st5⟩ := putFN X4 hx hZ hown (ow hw 31 rfl) Via.refl e4 F_a_coder E_a (Or.inr ⟨(ow hw 32 rfl), rfl, hnm⟩) (ow hw 7 rfl) (ty := .byte) (v' := (.int 0)) (by decide) rfl rfl (g := (mkF m 24 #[rv a, rv sb, .val .null, rv b, iv (Int32.ofNat xs.length)] [(.int 0), (.ref a)])) rfl rfl (hb hby d29_24)
  have N5 := Fr.snoc X5 N4 g_a
  have Fw5 : Fld Z h5 a "java/lang/String" "coder" "B" (.int 0) := F_a_coder.same W5
  refine Go.by st5 ?_
  show Go _ _ _ _ T5 (mkF m 27 #[rv a, rv sb, .val .null, rv b, iv (Int32.ofNat xs.length)] [])
  refine Go.aload1 28 X5 hx (hb hby d29_27) rfl rfl rfl ?_
  refine Go.aload1 29 X5 hx (hb hby d29_28) rfl rfl rfl ?_
  refine Go.iconst 30 X5 hx (0 : Int32) (hb hby d29_29) (by decide) rfl ?_
  refine Go.iload2 32 X5 hx (hb hby d29_30) rfl rfl ?_
  have F6 : Arv Z h5 b kb .byte (16 : Int32) xs (.int 0) := V_b.other W5 ne_b_a
  have F7 : n0 ≤ h5.size := Nat.le_trans Z0 (Nat.le_of_eq (Wr.size W5).symm)
  have F8 : Keep h0 h5 [a] := (Keep.refl h0 [a]).wr W5 (Or.inl (List.mem_of_getElem? (i := 0) rfl))
  have F9 : Exa Z h5 a "java/lang/String" := E_a.wr W5
  have F10 : Exa Z h5 sb "java/lang/StringBuilder" := E_sb.wr W5
  obtain ⟨_, _, ⟨T11, L11, k11, n11⟩, -, X11, ⟨Lc11, hQ11, l11, y11, z11⟩, st11⟩ := Jvm.LawKit.callS X5 hx (y := (⟨"java/util/Arrays", "copyOfRange", "([BII)[B"⟩ : MethodName)) hown (mvT hZ (ow hw 189 rfl)) (mvT hZ (ow hw 190 rfl)) (mvT hZ (ow hw 191 rfl)) (mvT hZ (ow hw 192 rfl)) (by decide) (backOf (W := 1) (rmCor l Z a0 hw [] b kb xs h5 n0 F7 F6 h15) hZ (ow hw 192 rfl) (ow hw 191 rfl) (by decide) (by decide)) (g := (mkF m 32 #[rv a, rv sb, .val .null, rv b, iv (Int32.ofNat xs.length)] [(.int (Int32.ofNat xs.length)), (.int 0), (.ref b), (.ref a)])) rfl (by rw [hml]; rfl) (argsL := [(.ref b), (.int 0), (.int (Int32.ofNat xs.length))]) (rest := [(.ref a)]) (lenOf pd_262 rfl) rfl (by show 2 * 0 + _ ≤ _; exact Nat.le_of_eq rfl) (hb hby d29_32) (fun _ _ => ⟨rfl, e5, (by decide : 0 + 1 ≤ _), (by decide : 0 + 16 ≤ _)⟩)
  dsimp only [Pt.U, Pt.locs, Pt.cells, Pt.slots] at X11 l11 y11 z11 st11 hQ11
  subst l11 y11 z11
  obtain ⟨sv, ksv, rfl, N11q, K11, Q11_0, Q11_1⟩ := hQ11
  have N11 := Fr.app N5 N11q
  refine Go.by st11 ?_
  show Go _ _ _ _ T11 (mkF m 35 #[rv a, rv sb, .val .null, rv b, iv (Int32.ofNat xs.length)] [(.ref sv), (.ref a)])
  have ge_sv : n0 ≤ sv := Nat.le_trans F7 Q11_1
  have sz_sv : h0.size ≤ sv := Nat.le_trans F8.1 Q11_1
  have ne_a_sv : a ≠ sv := Nat.ne_of_lt (Nat.lt_of_lt_of_le F9.lt Q11_1)
  have ne_b_sv : b ≠ sv := Nat.ne_of_lt (Nat.lt_of_lt_of_le F6.lt Q11_1)
  have ne_sb_sv : sb ≠ sv := Nat.ne_of_lt (Nat.lt_of_lt_of_le F10.lt Q11_1)
  have F12 : Fld Z h5 a "java/lang/String" "value" "[B" .null := F_a_value.other W5 (Or.inr (slot_ne (Or.inr (ow hw 34 rfl)) (Or.inr (ow hw 32 rfl)) (by decide) (t := (.array .byte)) (t' := .byte) (by decide) (by decide)))
  have F13 : Fld Z T11.heap a "java/lang/String" "value" "[B" .null := F12.keep K11 nin0
  have F14 : Exa Z T11.heap a "java/lang/String" := F9.keep K11
  obtain ⟨T15, h15, X15, e15, W15, st15⟩ := putF X11 hx hZ hown (host := "") (Or.inl (ow hw 33 rfl)) Via.refl rfl F13 F14 (Or.inr ⟨(ow hw 34 rfl), rfl, hnm⟩) (ow hw 7 rfl) (ty := (.array .byte)) (by decide) rfl rfl (g := (mkF m 35 #[rv a, rv sb, .val .null, rv b, iv (Int32.ofNat xs.length)] [(.ref sv), (.ref a)])) rfl rfl (hb hby d29_35)
  have N15 := Fr.snoc X15 N11 g_a
  have Fw15 : Fld Z h15 a "java/lang/String" "value" "[B" (.ref sv) := F13.same W15
  refine Go.by st15 ?_
  show Go _ _ _ _ T15 (mkF m 38 #[rv a, rv sb, .val .null, rv b, iv (Int32.ofNat xs.length)] [])
  refine Go.goto 97 X15 hx (hb hby d29_38) (by decide) (by decide) ?_
  have F16 : Keep h0 T11.heap [a] := F8.trans K11 all0
  have F17 : Keep h0 h15 [a] := F16.wr W15 (Or.inl (List.mem_of_getElem? (i := 0) rfl))
  have F18 : Exa Z h15 a "java/lang/String" := F14.wr W15
  have F19 : Fld Z T11.heap a "java/lang/String" "coder" "B" (.int 0) := Fw5.keep K11 nin0
  have F20 : Fld Z h15 a "java/lang/String" "coder" "B" (.int 0) := F19.other W15 (Or.inr (slot_ne (Or.inr (ow hw 32 rfl)) (Or.inr (ow hw 34 rfl)) (by decide) (t := .byte) (t' := (.array .byte)) (by decide) (by decide)))
  have F21 : Arv Z h15 sv ksv .byte (Int32.ofNat xs.length) xs (.int 0) := Q11_0.other W15 (Ne.symm ne_a_sv)
  exact Go.retV X15 hx Bd.notSynchronized Bd.returns (hb hby d29_97) (by rw [e15]; exact ⟨sv, ksv, rfl, N15, F17, F18, F20, Fw15, F21, sz_sv⟩) (by decide) (by decide)
theorem d28_0 : decode jdk_42_method_53_code 0 = .ok (.aload_n 0, 1) := by decide +kernel
theorem d28_1 : decode jdk_42_method_53_code 1 = .ok (.aload_n 1, 1) := by decide +kernel
theorem d28_2 : decode jdk_42_method_53_code 2 = .ok (.aconst_null, 1) := by decide +kernel
theorem pd_292 : parseMethodDescriptor "(Ljava/lang/AbstractStringBuilder;Ljava/lang/Void;)V" = some ⟨[(.object "java/lang/AbstractStringBuilder"), (.object "java/lang/Void")], none⟩ := by decide +kernel
theorem d28_3 : decode jdk_42_method_53_code 3 = .ok (.invokespecial 489, 3) := by decide +kernel
theorem d28_6 : decode jdk_42_method_53_code 6 = .ok (.return_, 1) := by decide +kernel
def Q_rmSInitS (Z : State) (a : Addr) (sb : Addr) (b : Addr) (kb : ClassId) (xs : List Value) (cs : Int32) (h0 : Heap) (n0 : Nat) (v : Option Value) (h : Heap) (L : List Loc) : Prop := ∃ sv : Addr, ∃ ksv : ClassId, v = none ∧ Fr n0 L ∧ Keep h0 h [a] ∧ Exa Z h a "java/lang/String" ∧ Fld Z h a "java/lang/String" "coder" "B" (.int 0) ∧ Fld Z h a "java/lang/String" "value" "[B" (.ref sv) ∧ Arv Z h sv ksv .byte (Int32.ofNat xs.length) xs (.int 0) ∧ h0.size ≤ sv
theorem rmSInitS (l : Launch) (Z : State) (a0 : Array Value) (hw : ∀ d ∈ tables_1, d.before a0 Z = true) (ws : List Jvm.Cond) (a : Addr) (sb : Addr) (b : Addr) (kb : ClassId) (xs : List Value) (cs : Int32) (h0 : Heap) (n0 : Nat) (Z0 : n0 ≤ h0.size) (O0 : Old Z n0 h0) (E_a : Exa Z h0 a "java/lang/String") (F_a_value : Fld Z h0 a "java/lang/String" "value" "[B" .null) (F_a_coder : Fld Z h0 a "java/lang/String" "coder" "B" (.int 0)) (g_a : n0 ≤ a) (E_sb : Exa Z h0 sb "java/lang/StringBuilder") (F_sb_coder : Fld Z h0 sb "java/lang/AbstractStringBuilder" "coder" "B" (.int 0)) (F_sb_value : Fld Z h0 sb "java/lang/AbstractStringBuilder" "value" "[B" (.ref b)) (F_sb_count : Fld Z h0 sb "java/lang/AbstractStringBuilder" "count" "I" (.int (Int32.ofNat xs.length))) (V_b : Arv Z h0 b kb .byte (16 : Int32) xs (.int 0)) (ne_b_a : b ≠ a) (ne_sb_a : sb ≠ a) (h15 : (xs.length < 16)) (S_cs : Sta Z Z.heap "java/lang/String" "COMPACT_STRINGS" "Z" (.int cs)) (n_cs : ¬ cs = 0) :
    MetN l Z ws (⟨"java/lang/String", "<init>", "(Ljava/lang/StringBuilder;)V"⟩ : MethodName) jdk_42_method_53_code 2 none ({ frames := 4, cells := 1, slots := 16, locals := 87 } : Room) #[(.ref a), (.ref sb)] h0 (Q_rmSInitS Z a sb b kb xs cs h0 n0) := by
  refine MetN.go (plainFor_of_name pn_3) n0 fun p e s m below meth c s₁ Bd hx hby hml hZ hh hown hnm X0 e0 N0 => ?_
  have hown : s.vm.findClass "java/lang/String" = some m.cls := hown
  refine Go.ent (ef_125 m a sb) ?_
  show Go _ _ _ _ s₁ (mkF m 0 #[rv a, rv sb] [])
  refine Go.aload1 1 X0 hx (hb hby d28_0) rfl rfl rfl ?_
  refine Go.aload1 2 X0 hx (hb hby d28_1) rfl rfl rfl ?_
  refine Go.aconst_null 3 X0 hx (hb hby d28_2) rfl ?_
  obtain ⟨_, _, ⟨T1, L1, k1, n1⟩, -, X1, ⟨Lc1, hQ1, l1, y1, z1⟩, st1⟩ := X0.specialBack hx (y := (⟨"java/lang/String", "<init>", "(Ljava/lang/AbstractStringBuilder;Ljava/lang/Void;)V"⟩ : MethodName)) rfl hown (mvT hZ (ow hw 168 rfl)) (mvT hZ (ow hw 169 rfl)) (mvT hZ (ow hw 170 rfl)) (by decide) (backOf (W := 0) (rmSInitA l Z a0 hw [] a sb b kb xs cs h0 n0 Z0 O0 E_a F_a_value F_a_coder g_a E_sb F_sb_coder F_sb_value F_sb_count V_b ne_b_a ne_sb_a h15 S_cs n_cs) hZ (ow hw 170 rfl) (ow hw 8 rfl) (by decide) (by decide)) (g := (mkF m 3 #[rv a, rv sb] [.null, (.ref sb), (.ref a)])) rfl (by rw [hml]; rfl) (Steps.refl _) (a := a) (argsL := [(.ref sb), .null]) (rest := []) (lenOf pd_292 rfl) rfl (by show 2 * 0 + _ ≤ _; exact Nat.le_of_eq rfl) (hb hby d28_3) (fun _ _ => ⟨rfl, e0, (by decide : 0 + 1 ≤ _), (by decide : 0 + 16 ≤ _)⟩)
  dsimp only [Pt.U, Pt.locs, Pt.cells, Pt.slots] at X1 l1 y1 z1 st1 hQ1
  subst l1 y1 z1
  obtain ⟨sv, ksv, rfl, N1q, K1, Q1_0, Q1_1, Q1_2, Q1_3, Q1_4⟩ := hQ1
  have N1 := Fr.app N0 N1q
  refine Go.to st1 ?_
  show Go _ _ _ _ T1 (mkF m 6 #[rv a, rv sb] [])
  have ge_sv : n0 ≤ sv := Nat.le_trans Z0 Q1_4
  have sz_sv : h0.size ≤ sv := Nat.le_trans (Keep.refl h0 [a]).1 Q1_4
  have ne_a_sv : a ≠ sv := Nat.ne_of_lt (Nat.lt_of_lt_of_le E_a.lt Q1_4)
  have ne_b_sv : b ≠ sv := Nat.ne_of_lt (Nat.lt_of_lt_of_le V_b.lt Q1_4)
  have ne_sb_sv : sb ≠ sv := Nat.ne_of_lt (Nat.lt_of_lt_of_le E_sb.lt Q1_4)
  have F2 : Keep h0 T1.heap [a] := (Keep.refl h0 [a]).trans K1 (allS (Or.inl (List.mem_of_getElem? (i := 0) rfl)) all0)
  exact Go.retV X1 hx Bd.notSynchronized Bd.returns (hb hby d28_6) ⟨sv, ksv, rfl, N1, F2, Q1_0, Q1_1, Q1_2, Q1_3, sz_sv⟩ (by decide) (by decide)
theorem d27_0 : decode jdk_67_method_42_code 0 = .ok (.new 18, 3) := by decide +kernel
theorem d27_3 : decode jdk_67_method_42_code 3 = .ok (.dup, 1) := by decide +kernel
theorem d27_4 : decode jdk_67_method_42_code 4 = .ok (.aload_n 0, 1) := by decide +kernel
theorem pd_298 : parseMethodDescriptor "(Ljava/lang/StringBuilder;)V" = some ⟨[(.object "java/lang/StringBuilder")], none⟩ := by decide +kernel
theorem d27_5 : decode jdk_67_method_42_code 5 = .ok (.invokespecial 137, 3) := by decide +kernel
theorem d27_8 : decode jdk_67_method_42_code 8 = .ok (.areturn, 1) := by decide +kernel
def Q_rmSbTs (Z : State) (a : Addr) (b : Addr) (kb : ClassId) (xs : List Value) (cs : Int32) (h0 : Heap) (n0 : Nat) (v : Option Value) (h : Heap) (L : List Loc) : Prop := ∃ st : Addr, ∃ sv : Addr, ∃ ksv : ClassId, v = some (.ref st) ∧ Fr n0 L ∧ Keep h0 h [] ∧ Exa Z h st "java/lang/String" ∧ Fld Z h st "java/lang/String" "coder" "B" (.int 0) ∧ Fld Z h st "java/lang/String" "value" "[B" (.ref sv) ∧ Arv Z h sv ksv .byte (Int32.ofNat xs.length) xs (.int 0) ∧ h0.size ≤ st ∧ h0.size ≤ sv
theorem rmSbTs (l : Launch) (Z : State) (a0 : Array Value) (hw : ∀ d ∈ tables_1, d.before a0 Z = true) (ws : List Jvm.Cond) (a : Addr) (b : Addr) (kb : ClassId) (xs : List Value) (cs : Int32) (h0 : Heap) (n0 : Nat) (Z0 : n0 ≤ h0.size) (O0 : Old Z n0 h0) (E_a : Exa Z h0 a "java/lang/StringBuilder") (F_a_coder : Fld Z h0 a "java/lang/AbstractStringBuilder" "coder" "B" (.int 0)) (F_a_value : Fld Z h0 a "java/lang/AbstractStringBuilder" "value" "[B" (.ref b)) (F_a_count : Fld Z h0 a "java/lang/AbstractStringBuilder" "count" "I" (.int (Int32.ofNat xs.length))) (V_b : Arv Z h0 b kb .byte (16 : Int32) xs (.int 0)) (h15 : (xs.length < 16)) (S_cs : Sta Z Z.heap "java/lang/String" "COMPACT_STRINGS" "Z" (.int cs)) (n_cs : ¬ cs = 0) :
    MetN l Z ws (⟨"java/lang/StringBuilder", "toString", "()Ljava/lang/String;"⟩ : MethodName) jdk_67_method_42_code 1 (some (.object "java/lang/String")) ({ frames := 5, cells := 2, slots := 20, locals := 101 } : Room) #[(.ref a)] h0 (Q_rmSbTs Z a b kb xs cs h0 n0) := by
  refine MetN.go (plainFor_of_name pn_106) n0 fun p e s m below meth c s₁ Bd hx hby hml hZ hh hown hnm X0 e0 N0 => ?_
  have hown : s.vm.findClass "java/lang/StringBuilder" = some m.cls := hown
  refine Go.ent (ef_4 m a) ?_
  show Go _ _ _ _ s₁ (mkF m 0 #[rv a] [])
  obtain ⟨st, g1⟩ : ∃ z, z = h0.size := ⟨_, rfl⟩
  have ge_st : n0 ≤ st := Nat.le_trans Z0 (Nat.le_of_eq g1.symm)
  have sz_st : h0.size ≤ st := Nat.le_trans (Keep.refl h0 []).1 (Nat.le_of_eq g1.symm)
  have ne_a_st : a ≠ st := Nat.ne_of_lt (Nat.lt_of_lt_of_le E_a.lt (Nat.le_of_eq g1.symm))
  have ne_b_st : b ≠ st := Nat.ne_of_lt (Nat.lt_of_lt_of_le V_b.lt (Nat.le_of_eq g1.symm))
  obtain ⟨T1, h1, X1, e1, E1, A1, D1, -, st1⟩ := newO X0 hx hZ hown (ow hw 164 rfl) (ow hw 7 rfl) (ow hw 8 rfl) e0 (g := (mkF m 0 #[rv a] [])) rfl (hb hby d27_0) (by decide) (by decide)
  rw [← g1] at A1 D1 st1
  have F_coder_st : Fld Z h1 st "java/lang/String" "coder" "B" (.int 0) := D1 (Or.inr (ow hw 32 rfl)) (ty := .byte) (by decide)
  have F_value_st : Fld Z h1 st "java/lang/String" "value" "[B" .null := D1 (Or.inr (ow hw 34 rfl)) (ty := (.array .byte)) (by decide)
  refine Go.by st1 ?_
  show Go _ _ _ _ T1 (mkF m 3 #[rv a] [(.ref st)])
  refine Go.dup 4 X1 hx (hb hby d27_3) rfl rfl ?_
  refine Go.aload1 5 X1 hx (hb hby d27_4) rfl rfl rfl ?_
  have F2 : Old Z n0 h1 := O0.ext E1
  have F3 : Exa Z h1 a "java/lang/StringBuilder" := E_a.ext E1
  have F4 : Fld Z h1 a "java/lang/AbstractStringBuilder" "coder" "B" (.int 0) := F_a_coder.ext E1
  have F5 : Fld Z h1 a "java/lang/AbstractStringBuilder" "value" "[B" (.ref b) := F_a_value.ext E1
  have F6 : Fld Z h1 a "java/lang/AbstractStringBuilder" "count" "I" (.int (Int32.ofNat xs.length)) := F_a_count.ext E1
  have F7 : Arv Z h1 b kb .byte (16 : Int32) xs (.int 0) := V_b.ext E1
  have F8 : n0 ≤ h1.size := Nat.le_trans Z0 E1.1
  have F9 : Keep h0 h1 [] := (Keep.refl h0 []).ext E1
  obtain ⟨_, _, ⟨T10, L10, k10, n10⟩, -, X10, ⟨Lc10, hQ10, l10, y10, z10⟩, st10⟩ := X1.specialBack hx (y := (⟨"java/lang/String", "<init>", "(Ljava/lang/StringBuilder;)V"⟩ : MethodName)) rfl hown (mvT hZ (ow hw 165 rfl)) (mvT hZ (ow hw 166 rfl)) (mvT hZ (ow hw 167 rfl)) (by decide) (backOf (W := 1) (rmSInitS l Z a0 hw [] st a b kb xs cs h1 n0 F8 F2 A1 F_value_st F_coder_st ge_st F3 F4 F5 F6 F7 ne_b_st ne_a_st h15 S_cs n_cs) hZ (ow hw 167 rfl) (ow hw 8 rfl) (by decide) (by decide)) (g := (mkF m 5 #[rv a] [(.ref a), (.ref st), (.ref st)])) rfl (by rw [hml]; rfl) (Steps.refl _) (a := st) (argsL := [(.ref a)]) (rest := [(.ref st)]) (lenOf pd_298 rfl) rfl (by show 2 * 0 + _ ≤ _; exact Nat.le_of_eq rfl) (hb hby d27_5) (fun _ _ => ⟨rfl, e1, (by decide : 1 + 1 ≤ _), (by decide : 4 + 16 ≤ _)⟩)
  dsimp only [Pt.U, Pt.locs, Pt.cells, Pt.slots] at X10 l10 y10 z10 st10 hQ10
  subst l10 y10 z10
  obtain ⟨sv, ksv, rfl, N10q, K10, Q10_0, Q10_1, Q10_2, Q10_3, Q10_4⟩ := hQ10
  have N10 := Fr.app N0 N10q
  refine Go.to st10 ?_
  show Go _ _ _ _ T10 (mkF m 8 #[rv a] [(.ref st)])
  have ge_sv : n0 ≤ sv := Nat.le_trans F8 Q10_4
  have sz_sv : h0.size ≤ sv := Nat.le_trans F9.1 Q10_4
  have ne_a_sv : a ≠ sv := Nat.ne_of_lt (Nat.lt_of_lt_of_le F3.lt Q10_4)
  have ne_b_sv : b ≠ sv := Nat.ne_of_lt (Nat.lt_of_lt_of_le F7.lt Q10_4)
  have ne_st_sv : st ≠ sv := Nat.ne_of_lt (Nat.lt_of_lt_of_le A1.lt Q10_4)
  have F11 : Keep h0 T10.heap [] := F9.trans K10 (allS (Or.inr sz_st) all0)
  exact Go.retA X10 hx Bd.notSynchronized Bd.returns rfl rfl (hb hby d27_8) ⟨st, sv, ksv, rfl, N10, F11, Q10_0, Q10_1, Q10_2, Q10_3, sz_st, sz_sv⟩ (by decide) (by decide)
theorem pn_301 : plainName "java/lang/Integer" = true := by first | (simp [plainName, overriddenIn]; done) | decide +kernel
theorem ef_302 (m : MethodId) (x0 : Int32) : entryFrame m #[(.int x0)] 4 = mkF m 0 #[iv x0, un, un, un] [] := by (first | (simp [entryFrame, mkF, argsToLocals, Value.category]; done) | rfl)
theorem d40_0 : decode jdk_33_method_13_code 0 = .ok (.iconst 1, 1) := by decide +kernel
theorem d40_1 : decode jdk_33_method_13_code 1 = .ok (.istore_n 1, 1) := by decide +kernel
theorem d40_2 : decode jdk_33_method_13_code 2 = .ok (.iload_n 0, 1) := by decide +kernel
theorem d40_3 : decode jdk_33_method_13_code 3 = .ok (.ifCond .lt 8, 3) := by decide +kernel
theorem d40_6 : decode jdk_33_method_13_code 6 = .ok (.iconst 0, 1) := by decide +kernel
theorem d40_7 : decode jdk_33_method_13_code 7 = .ok (.istore_n 1, 1) := by decide +kernel
theorem d40_8 : decode jdk_33_method_13_code 8 = .ok (.iload_n 0, 1) := by decide +kernel
theorem d40_9 : decode jdk_33_method_13_code 9 = .ok (.ineg, 1) := by decide +kernel
theorem d40_10 : decode jdk_33_method_13_code 10 = .ok (.istore_n 0, 1) := by decide +kernel
theorem d40_11 : decode jdk_33_method_13_code 11 = .ok (.bipush (-10), 2) := by decide +kernel
theorem d40_13 : decode jdk_33_method_13_code 13 = .ok (.istore_n 2, 1) := by decide +kernel
theorem d40_14 : decode jdk_33_method_13_code 14 = .ok (.iconst 1, 1) := by decide +kernel
theorem d40_15 : decode jdk_33_method_13_code 15 = .ok (.istore_n 3, 1) := by decide +kernel
theorem d40_16 : decode jdk_33_method_13_code 16 = .ok (.iload_n 3, 1) := by decide +kernel
theorem d40_17 : decode jdk_33_method_13_code 17 = .ok (.bipush 10, 2) := by decide +kernel
theorem d40_19 : decode jdk_33_method_13_code 19 = .ok (.if_icmp .ge 23, 3) := by decide +kernel
theorem d40_22 : decode jdk_33_method_13_code 22 = .ok (.iload_n 0, 1) := by decide +kernel
theorem d40_23 : decode jdk_33_method_13_code 23 = .ok (.iload_n 2, 1) := by decide +kernel
theorem d40_24 : decode jdk_33_method_13_code 24 = .ok (.if_icmp .le 7, 3) := by decide +kernel
theorem d40_27 : decode jdk_33_method_13_code 27 = .ok (.iload_n 3, 1) := by decide +kernel
theorem d40_28 : decode jdk_33_method_13_code 28 = .ok (.iload_n 1, 1) := by decide +kernel
theorem d40_29 : decode jdk_33_method_13_code 29 = .ok (.iadd, 1) := by decide +kernel
theorem d40_30 : decode jdk_33_method_13_code 30 = .ok (.ireturn, 1) := by decide +kernel
theorem d40_31 : decode jdk_33_method_13_code 31 = .ok (.bipush 10, 2) := by decide +kernel
theorem d40_33 : decode jdk_33_method_13_code 33 = .ok (.iload_n 2, 1) := by decide +kernel
theorem d40_34 : decode jdk_33_method_13_code 34 = .ok (.imul, 1) := by decide +kernel
theorem d40_35 : decode jdk_33_method_13_code 35 = .ok (.istore_n 2, 1) := by decide +kernel
theorem d40_36 : decode jdk_33_method_13_code 36 = .ok (.iinc 3 1, 3) := by decide +kernel
theorem d40_39 : decode jdk_33_method_13_code 39 = .ok (.goto (-23), 3) := by decide +kernel
def Q_rmSSize (Z : State) (pv : Int32) (h0 : Heap) (n0 : Nat) (v : Option Value) (h : Heap) (L : List Loc) : Prop := v = some (.int (Int32.ofNat (own_dg pv).length)) ∧ Fr n0 L ∧ h = h0
theorem rmSSize (l : Launch) (Z : State) (a0 : Array Value) (hw : ∀ d ∈ tables_1, d.before a0 Z = true) (ws : List Jvm.Cond) (pv : Int32) (h0 : Heap) (n0 : Nat) (Z0 : n0 ≤ h0.size) (hp : (0 < pv.toInt ∧ pv.toInt ≤ 65535)) :
    MetN l Z ws (⟨"java/lang/Integer", "stringSize", "(I)I"⟩ : MethodName) jdk_33_method_13_code 4 (some .int) ({ frames := 0, cells := 0, slots := 0, locals := 0 } : Room) #[(.int pv)] h0 (Q_rmSSize Z pv h0 n0) := by
  refine MetN.go (plainFor_of_name pn_301) n0 fun p e s m below meth c s₁ Bd hx hby hml hZ hh hown hnm X0 e0 N0 => ?_
  have hown : s.vm.findClass "java/lang/Integer" = some m.cls := hown
  refine Go.ent (ef_302 m pv) ?_
  show Go _ _ _ _ s₁ (mkF m 0 #[iv pv, un, un, un] [])
  refine Go.iconst 1 X0 hx (1 : Int32) (hb hby d40_0) (by decide) rfl ?_
  refine Go.istore1 2 X0 hx (L' := #[iv pv, iv 1, un, un]) (hb hby d40_1) rfl rfl ?_
  refine Go.iload1 3 X0 hx (hb hby d40_2) rfl rfl ?_
  have li1 : (0 : Int32).toInt = 0 := by decide
  refine Go.ifN 6 X0 hx (hb hby d40_3) (XT.i0_lt_f (u_nlt32 (by omega))) rfl ?_
  refine Go.iconst 7 X0 hx (0 : Int32) (hb hby d40_6) (by decide) rfl ?_
  refine Go.istore1 8 X0 hx (L' := #[iv pv, iv 0, un, un]) (hb hby d40_7) rfl rfl ?_
  refine Go.iload1 9 X0 hx (hb hby d40_8) rfl rfl ?_
  refine Go.ineg 10 X0 hx (hb hby d40_9) rfl ?_
  obtain ⟨n2, h_n2⟩ : ∃ z, z = (-pv) := ⟨_, rfl⟩
  rw [← h_n2]
  show Go _ _ _ _ s₁ (mkF m 10 #[iv pv, iv 0, un, un] [(.int n2)])
  have e_n2 : n2.toInt = -pv.toInt := by rw [h_n2]; exact x_ineg (by omega)
  refine Go.istore1 11 X0 hx (L' := #[iv n2, iv 0, un, un]) (hb hby d40_10) rfl rfl ?_
  refine Go.bipush 13 X0 hx (-10 : Int32) (hb hby d40_11) (by decide) rfl ?_
  refine Go.istore1 14 X0 hx (L' := #[iv n2, iv 0, iv (-10 : Int32), un]) (hb hby d40_13) rfl rfl ?_
  refine Go.iconst 15 X0 hx (1 : Int32) (hb hby d40_14) (by decide) rfl ?_
  refine Go.istore1 16 X0 hx (L' := #[iv n2, iv 0, iv (-10 : Int32), iv 1]) (hb hby d40_15) rfl rfl ?_
  rcases own_sz hp with hs | hs | hs | hs | hs
  · refine Go.iload1 17 X0 hx (hb hby d40_16) rfl rfl ?_
    refine Go.bipush 19 X0 hx (10 : Int32) (hb hby d40_17) (by decide) rfl ?_
    refine Go.icmpN 22 X0 hx (hb hby d40_19) (XT.ii_ge_f (by decide)) rfl ?_
    refine Go.iload1 23 X0 hx (hb hby d40_22) rfl rfl ?_
    refine Go.iload1 24 X0 hx (hb hby d40_23) rfl rfl ?_
    have li3 : (-10 : Int32).toInt = -10 := by decide
    refine Go.icmpN 27 X0 hx (hb hby d40_24) (XT.ii_le_f (u_lt32 (by omega))) rfl ?_
    refine Go.iload1 28 X0 hx (hb hby d40_27) rfl rfl ?_
    refine Go.iload1 29 X0 hx (hb hby d40_28) rfl rfl ?_
    refine Go.iadd 30 X0 hx (hb hby d40_29) rfl ?_
    rw [(by decide : ((1 : Int32) + (0 : Int32)) = (1 : Int32))]
    exact Go.retI X0 hx Bd.notSynchronized Bd.returns rfl (by simp) (hb hby d40_30) (by rw [e0]; exact ⟨(by rw [own_dg_1 hs]; rfl), N0, rfl⟩) (by decide) (by decide)
  · refine Go.iload1 17 X0 hx (hb hby d40_16) rfl rfl ?_
    refine Go.bipush 19 X0 hx (10 : Int32) (hb hby d40_17) (by decide) rfl ?_
    refine Go.icmpN 22 X0 hx (hb hby d40_19) (XT.ii_ge_f (by decide)) rfl ?_
    refine Go.iload1 23 X0 hx (hb hby d40_22) rfl rfl ?_
    refine Go.iload1 24 X0 hx (hb hby d40_23) rfl rfl ?_
    have li4 : (-10 : Int32).toInt = -10 := by decide
    refine Go.icmpY 31 X0 hx (hb hby d40_24) (XT.ii_le_t (u_nlt32 (by omega))) (by decide) (by decide) ?_
    refine Go.bipush 33 X0 hx (10 : Int32) (hb hby d40_31) (by decide) rfl ?_
    refine Go.iload1 34 X0 hx (hb hby d40_33) rfl rfl ?_
    refine Go.imul 35 X0 hx (hb hby d40_34) rfl ?_
    rw [(by decide : ((10 : Int32) * (-10 : Int32)) = (-100 : Int32))]
    refine Go.istore1 36 X0 hx (L' := #[iv n2, iv 0, iv (-100 : Int32), iv 1]) (hb hby d40_35) rfl rfl ?_
    refine Go.iinc 39 X0 hx (1 : Int32) (L' := #[iv n2, iv 0, iv (-100 : Int32), iv 2]) (hb hby d40_36) (by decide) rfl rfl rfl ?_
    refine Go.goto 16 X0 hx (hb hby d40_39) (by decide) (by decide) ?_
    refine Go.iload1 17 X0 hx (hb hby d40_16) rfl rfl ?_
    refine Go.bipush 19 X0 hx (10 : Int32) (hb hby d40_17) (by decide) rfl ?_
    refine Go.icmpN 22 X0 hx (hb hby d40_19) (XT.ii_ge_f (by decide)) rfl ?_
    refine Go.iload1 23 X0 hx (hb hby d40_22) rfl rfl ?_
    refine Go.iload1 24 X0 hx (hb hby d40_23) rfl rfl ?_
    have li5 : (-100 : Int32).toInt = -100 := by decide
    refine Go.icmpN 27 X0 hx (hb hby d40_24) (XT.ii_le_f (u_lt32 (by omega))) rfl ?_
    refine Go.iload1 28 X0 hx (hb hby d40_27) rfl rfl ?_
    refine Go.iload1 29 X0 hx (hb hby d40_28) rfl rfl ?_
    refine Go.iadd 30 X0 hx (hb hby d40_29) rfl ?_
    rw [(by decide : ((2 : Int32) + (0 : Int32)) = (2 : Int32))]
    exact Go.retI X0 hx Bd.notSynchronized Bd.returns rfl (by simp) (hb hby d40_30) (by rw [e0]; exact ⟨(by rw [own_dg_2 hs]; rfl), N0, rfl⟩) (by decide) (by decide)
  · refine Go.iload1 17 X0 hx (hb hby d40_16) rfl rfl ?_
    refine Go.bipush 19 X0 hx (10 : Int32) (hb hby d40_17) (by decide) rfl ?_
    refine Go.icmpN 22 X0 hx (hb hby d40_19) (XT.ii_ge_f (by decide)) rfl ?_
    refine Go.iload1 23 X0 hx (hb hby d40_22) rfl rfl ?_
    refine Go.iload1 24 X0 hx (hb hby d40_23) rfl rfl ?_
    have li6 : (-10 : Int32).toInt = -10 := by decide
    refine Go.icmpY 31 X0 hx (hb hby d40_24) (XT.ii_le_t (u_nlt32 (by omega))) (by decide) (by decide) ?_
    refine Go.bipush 33 X0 hx (10 : Int32) (hb hby d40_31) (by decide) rfl ?_
    refine Go.iload1 34 X0 hx (hb hby d40_33) rfl rfl ?_
    refine Go.imul 35 X0 hx (hb hby d40_34) rfl ?_
    rw [(by decide : ((10 : Int32) * (-10 : Int32)) = (-100 : Int32))]
    refine Go.istore1 36 X0 hx (L' := #[iv n2, iv 0, iv (-100 : Int32), iv 1]) (hb hby d40_35) rfl rfl ?_
    refine Go.iinc 39 X0 hx (1 : Int32) (L' := #[iv n2, iv 0, iv (-100 : Int32), iv 2]) (hb hby d40_36) (by decide) rfl rfl rfl ?_
    refine Go.goto 16 X0 hx (hb hby d40_39) (by decide) (by decide) ?_
    refine Go.iload1 17 X0 hx (hb hby d40_16) rfl rfl ?_
    refine Go.bipush 19 X0 hx (10 : Int32) (hb hby d40_17) (by decide) rfl ?_
    refine Go.icmpN 22 X0 hx (hb hby d40_19) (XT.ii_ge_f (by decide)) rfl ?_
    refine Go.iload1 23 X0 hx (hb hby d40_22) rfl rfl ?_
    refine Go.iload1 24 X0 hx (hb hby d40_23) rfl rfl ?_
    have li7 : (-100 : Int32).toInt = -100 := by decide
    refine Go.icmpY 31 X0 hx (hb hby d40_24) (XT.ii_le_t (u_nlt32 (by omega))) (by decide) (by decide) ?_
    refine Go.bipush 33 X0 hx (10 : Int32) (hb hby d40_31) (by decide) rfl ?_
    refine Go.iload1 34 X0 hx (hb hby d40_33) rfl rfl ?_
    refine Go.imul 35 X0 hx (hb hby d40_34) rfl ?_
    rw [(by decide : ((10 : Int32) * (-100 : Int32)) = (-1000 : Int32))]
    refine Go.istore1 36 X0 hx (L' := #[iv n2, iv 0, iv (-1000 : Int32), iv 2]) (hb hby d40_35) rfl rfl ?_
    refine Go.iinc 39 X0 hx (1 : Int32) (L' := #[iv n2, iv 0, iv (-1000 : Int32), iv 3]) (hb hby d40_36) (by decide) rfl rfl rfl ?_
    refine Go.goto 16 X0 hx (hb hby d40_39) (by decide) (by decide) ?_
    refine Go.iload1 17 X0 hx (hb hby d40_16) rfl rfl ?_
    refine Go.bipush 19 X0 hx (10 : Int32) (hb hby d40_17) (by decide) rfl ?_
    refine Go.icmpN 22 X0 hx (hb hby d40_19) (XT.ii_ge_f (by decide)) rfl ?_
    refine Go.iload1 23 X0 hx (hb hby d40_22) rfl rfl ?_
    refine Go.iload1 24 X0 hx (hb hby d40_23) rfl rfl ?_
    have li8 : (-1000 : Int32).toInt = -1000 := by decide
    refine Go.icmpN 27 X0 hx (hb hby d40_24) (XT.ii_le_f (u_lt32 (by omega))) rfl ?_
    refine Go.iload1 28 X0 hx (hb hby d40_27) rfl rfl ?_
    refine Go.iload1 29 X0 hx (hb hby d40_28) rfl rfl ?_
    refine Go.iadd 30 X0 hx (hb hby d40_29) rfl ?_
    rw [(by decide : ((3 : Int32) + (0 : Int32)) = (3 : Int32))]
    exact Go.retI X0 hx Bd.notSynchronized Bd.returns rfl (by simp) (hb hby d40_30) (by rw [e0]; exact ⟨(by rw [own_dg_3 hs]; rfl), N0, rfl⟩) (by decide) (by decide)
  · refine Go.iload1 17 X0 hx (hb hby d40_16) rfl rfl ?_
    refine Go.bipush 19 X0 hx (10 : Int32) (hb hby d40_17) (by decide) rfl ?_
    refine Go.icmpN 22 X0 hx (hb hby d40_19) (XT.ii_ge_f (by decide)) rfl ?_
    refine Go.iload1 23 X0 hx (hb hby d40_22) rfl rfl ?_
    refine Go.iload1 24 X0 hx (hb hby d40_23) rfl rfl ?_
    have li9 : (-10 : Int32).toInt = -10 := by decide
    refine Go.icmpY 31 X0 hx (hb hby d40_24) (XT.ii_le_t (u_nlt32 (by omega))) (by decide) (by decide) ?_
    refine Go.bipush 33 X0 hx (10 : Int32) (hb hby d40_31) (by decide) rfl ?_
    refine Go.iload1 34 X0 hx (hb hby d40_33) rfl rfl ?_
    refine Go.imul 35 X0 hx (hb hby d40_34) rfl ?_
    rw [(by decide : ((10 : Int32) * (-10 : Int32)) = (-100 : Int32))]
    refine Go.istore1 36 X0 hx (L' := #[iv n2, iv 0, iv (-100 : Int32), iv 1]) (hb hby d40_35) rfl rfl ?_
    refine Go.iinc 39 X0 hx (1 : Int32) (L' := #[iv n2, iv 0, iv (-100 : Int32), iv 2]) (hb hby d40_36) (by decide) rfl rfl rfl ?_
    refine Go.goto 16 X0 hx (hb hby d40_39) (by decide) (by decide) ?_
    refine Go.iload1 17 X0 hx (hb hby d40_16) rfl rfl ?_
    refine Go.bipush 19 X0 hx (10 : Int32) (hb hby d40_17) (by decide) rfl ?_
    refine Go.icmpN 22 X0 hx (hb hby d40_19) (XT.ii_ge_f (by decide)) rfl ?_
    refine Go.iload1 23 X0 hx (hb hby d40_22) rfl rfl ?_
    refine Go.iload1 24 X0 hx (hb hby d40_23) rfl rfl ?_
    have li10 : (-100 : Int32).toInt = -100 := by decide
    refine Go.icmpY 31 X0 hx (hb hby d40_24) (XT.ii_le_t (u_nlt32 (by omega))) (by decide) (by decide) ?_
    refine Go.bipush 33 X0 hx (10 : Int32) (hb hby d40_31) (by decide) rfl ?_
    refine Go.iload1 34 X0 hx (hb hby d40_33) rfl rfl ?_
    refine Go.imul 35 X0 hx (hb hby d40_34) rfl ?_
    rw [(by decide : ((10 : Int32) * (-100 : Int32)) = (-1000 : Int32))]
    refine Go.istore1 36 X0 hx (L' := #[iv n2, iv 0, iv (-1000 : Int32), iv 2]) (hb hby d40_35) rfl rfl ?_
    refine Go.iinc 39 X0 hx (1 : Int32) (L' := #[iv n2, iv 0, iv (-1000 : Int32), iv 3]) (hb hby d40_36) (by decide) rfl rfl rfl ?_
    refine Go.goto 16 X0 hx (hb hby d40_39) (by decide) (by decide) ?_
    refine Go.iload1 17 X0 hx (hb hby d40_16) rfl rfl ?_
    refine Go.bipush 19 X0 hx (10 : Int32) (hb hby d40_17) (by decide) rfl ?_
    refine Go.icmpN 22 X0 hx (hb hby d40_19) (XT.ii_ge_f (by decide)) rfl ?_
    refine Go.iload1 23 X0 hx (hb hby d40_22) rfl rfl ?_
    refine Go.iload1 24 X0 hx (hb hby d40_23) rfl rfl ?_
    have li11 : (-1000 : Int32).toInt = -1000 := by decide
    refine Go.icmpY 31 X0 hx (hb hby d40_24) (XT.ii_le_t (u_nlt32 (by omega))) (by decide) (by decide) ?_
    refine Go.bipush 33 X0 hx (10 : Int32) (hb hby d40_31) (by decide) rfl ?_
    refine Go.iload1 34 X0 hx (hb hby d40_33) rfl rfl ?_
    refine Go.imul 35 X0 hx (hb hby d40_34) rfl ?_
    rw [(by decide : ((10 : Int32) * (-1000 : Int32)) = (-10000 : Int32))]
    refine Go.istore1 36 X0 hx (L' := #[iv n2, iv 0, iv (-10000 : Int32), iv 3]) (hb hby d40_35) rfl rfl ?_
    refine Go.iinc 39 X0 hx (1 : Int32) (L' := #[iv n2, iv 0, iv (-10000 : Int32), iv 4]) (hb hby d40_36) (by decide) rfl rfl rfl ?_
    refine Go.goto 16 X0 hx (hb hby d40_39) (by decide) (by decide) ?_
    refine Go.iload1 17 X0 hx (hb hby d40_16) rfl rfl ?_
    refine Go.bipush 19 X0 hx (10 : Int32) (hb hby d40_17) (by decide) rfl ?_
    refine Go.icmpN 22 X0 hx (hb hby d40_19) (XT.ii_ge_f (by decide)) rfl ?_
    refine Go.iload1 23 X0 hx (hb hby d40_22) rfl rfl ?_
    refine Go.iload1 24 X0 hx (hb hby d40_23) rfl rfl ?_
    have li12 : (-10000 : Int32).toInt = -10000 := by decide
    refine Go.icmpN 27 X0 hx (hb hby d40_24) (XT.ii_le_f (u_lt32 (by omega))) rfl ?_
    refine Go.iload1 28 X0 hx (hb hby d40_27) rfl rfl ?_
    refine Go.iload1 29 X0 hx (hb hby d40_28) rfl rfl ?_
    refine Go.iadd 30 X0 hx (hb hby d40_29) rfl ?_
    rw [(by decide : ((4 : Int32) + (0 : Int32)) = (4 : Int32))]
    exact Go.retI X0 hx Bd.notSynchronized Bd.returns rfl (by simp) (hb hby d40_30) (by rw [e0]; exact ⟨(by rw [own_dg_4 hs]; rfl), N0, rfl⟩) (by decide) (by decide)
  · refine Go.iload1 17 X0 hx (hb hby d40_16) rfl rfl ?_
    refine Go.bipush 19 X0 hx (10 : Int32) (hb hby d40_17) (by decide) rfl ?_
    refine Go.icmpN 22 X0 hx (hb hby d40_19) (XT.ii_ge_f (by decide)) rfl ?_
    refine Go.iload1 23 X0 hx (hb hby d40_22) rfl rfl ?_
    refine Go.iload1 24 X0 hx (hb hby d40_23) rfl rfl ?_
    have li13 : (-10 : Int32).toInt = -10 := by decide
    refine Go.icmpY 31 X0 hx (hb hby d40_24) (XT.ii_le_t (u_nlt32 (by omega))) (by decide) (by decide) ?_
    refine Go.bipush 33 X0 hx (10 : Int32) (hb hby d40_31) (by decide) rfl ?_
    refine Go.iload1 34 X0 hx (hb hby d40_33) rfl rfl ?_
    refine Go.imul 35 X0 hx (hb hby d40_34) rfl ?_
    rw [(by decide : ((10 : Int32) * (-10 : Int32)) = (-100 : Int32))]
    refine Go.istore1 36 X0 hx (L' := #[iv n2, iv 0, iv (-100 : Int32), iv 1]) (hb hby d40_35) rfl rfl ?_
    refine Go.iinc 39 X0 hx (1 : Int32) (L' := #[iv n2, iv 0, iv (-100 : Int32), iv 2]) (hb hby d40_36) (by decide) rfl rfl rfl ?_
    refine Go.goto 16 X0 hx (hb hby d40_39) (by decide) (by decide) ?_
    refine Go.iload1 17 X0 hx (hb hby d40_16) rfl rfl ?_
    refine Go.bipush 19 X0 hx (10 : Int32) (hb hby d40_17) (by decide) rfl ?_
    refine Go.icmpN 22 X0 hx (hb hby d40_19) (XT.ii_ge_f (by decide)) rfl ?_
    refine Go.iload1 23 X0 hx (hb hby d40_22) rfl rfl ?_
    refine Go.iload1 24 X0 hx (hb hby d40_23) rfl rfl ?_
    have li14 : (-100 : Int32).toInt = -100 := by decide
    refine Go.icmpY 31 X0 hx (hb hby d40_24) (XT.ii_le_t (u_nlt32 (by omega))) (by decide) (by decide) ?_
    refine Go.bipush 33 X0 hx (10 : Int32) (hb hby d40_31) (by decide) rfl ?_
    refine Go.iload1 34 X0 hx (hb hby d40_33) rfl rfl ?_
    refine Go.imul 35 X0 hx (hb hby d40_34) rfl ?_
    rw [(by decide : ((10 : Int32) * (-100 : Int32)) = (-1000 : Int32))]
    refine Go.istore1 36 X0 hx (L' := #[iv n2, iv 0, iv (-1000 : Int32), iv 2]) (hb hby d40_35) rfl rfl ?_
    refine Go.iinc 39 X0 hx (1 : Int32) (L' := #[iv n2, iv 0, iv (-1000 : Int32), iv 3]) (hb hby d40_36) (by decide) rfl rfl rfl ?_
    refine Go.goto 16 X0 hx (hb hby d40_39) (by decide) (by decide) ?_
    refine Go.iload1 17 X0 hx (hb hby d40_16) rfl rfl ?_
    refine Go.bipush 19 X0 hx (10 : Int32) (hb hby d40_17) (by decide) rfl ?_
    refine Go.icmpN 22 X0 hx (hb hby d40_19) (XT.ii_ge_f (by decide)) rfl ?_
    refine Go.iload1 23 X0 hx (hb hby d40_22) rfl rfl ?_
    refine Go.iload1 24 X0 hx (hb hby d40_23) rfl rfl ?_
    have li15 : (-1000 : Int32).toInt = -1000 := by decide
    refine Go.icmpY 31 X0 hx (hb hby d40_24) (XT.ii_le_t (u_nlt32 (by omega))) (by decide) (by decide) ?_
    refine Go.bipush 33 X0 hx (10 : Int32) (hb hby d40_31) (by decide) rfl ?_
    refine Go.iload1 34 X0 hx (hb hby d40_33) rfl rfl ?_
    refine Go.imul 35 X0 hx (hb hby d40_34) rfl ?_
    rw [(by decide : ((10 : Int32) * (-1000 : Int32)) = (-10000 : Int32))]
    refine Go.istore1 36 X0 hx (L' := #[iv n2, iv 0, iv (-10000 : Int32), iv 3]) (hb hby d40_35) rfl rfl ?_
    refine Go.iinc 39 X0 hx (1 : Int32) (L' := #[iv n2, iv 0, iv (-10000 : Int32), iv 4]) (hb hby d40_36) (by decide) rfl rfl rfl ?_
    refine Go.goto 16 X0 hx (hb hby d40_39) (by decide) (by decide) ?_
    refine Go.iload1 17 X0 hx (hb hby d40_16) rfl rfl ?_
    refine Go.bipush 19 X0 hx (10 : Int32) (hb hby d40_17) (by decide) rfl ?_
    refine Go.icmpN 22 X0 hx (hb hby d40_19) (XT.ii_ge_f (by decide)) rfl ?_
    refine Go.iload1 23 X0 hx (hb hby d40_22) rfl rfl ?_
    refine Go.iload1 24 X0 hx (hb hby d40_23) rfl rfl ?_
    have li16 : (-10000 : Int32).toInt = -10000 := by decide
    refine Go.icmpY 31 X0 hx (hb hby d40_24) (XT.ii_le_t (u_nlt32 (by omega))) (by decide) (by decide) ?_
    refine Go.bipush 33 X0 hx (10 : Int32) (hb hby d40_31) (by decide) rfl ?_
    refine Go.iload1 34 X0 hx (hb hby d40_33) rfl rfl ?_
    refine Go.imul 35 X0 hx (hb hby d40_34) rfl ?_
    rw [(by decide : ((10 : Int32) * (-10000 : Int32)) = (-100000 : Int32))]
    refine Go.istore1 36 X0 hx (L' := #[iv n2, iv 0, iv (-100000 : Int32), iv 4]) (hb hby d40_35) rfl rfl ?_
    refine Go.iinc 39 X0 hx (1 : Int32) (L' := #[iv n2, iv 0, iv (-100000 : Int32), iv 5]) (hb hby d40_36) (by decide) rfl rfl rfl ?_
    refine Go.goto 16 X0 hx (hb hby d40_39) (by decide) (by decide) ?_
    refine Go.iload1 17 X0 hx (hb hby d40_16) rfl rfl ?_
    refine Go.bipush 19 X0 hx (10 : Int32) (hb hby d40_17) (by decide) rfl ?_
    refine Go.icmpN 22 X0 hx (hb hby d40_19) (XT.ii_ge_f (by decide)) rfl ?_
    refine Go.iload1 23 X0 hx (hb hby d40_22) rfl rfl ?_
    refine Go.iload1 24 X0 hx (hb hby d40_23) rfl rfl ?_
    have li17 : (-100000 : Int32).toInt = -100000 := by decide
    refine Go.icmpN 27 X0 hx (hb hby d40_24) (XT.ii_le_f (u_lt32 (by omega))) rfl ?_
    refine Go.iload1 28 X0 hx (hb hby d40_27) rfl rfl ?_
    refine Go.iload1 29 X0 hx (hb hby d40_28) rfl rfl ?_
    refine Go.iadd 30 X0 hx (hb hby d40_29) rfl ?_
    rw [(by decide : ((5 : Int32) + (0 : Int32)) = (5 : Int32))]
    exact Go.retI X0 hx Bd.notSynchronized Bd.returns rfl (by simp) (hb hby d40_30) (by rw [e0]; exact ⟨(by rw [own_dg_5 hs]; rfl), N0, rfl⟩) (by decide) (by decide)
theorem ef_332 (m : MethodId) (x0 : Int32) (x1 : Int32) (x2 : Addr) : entryFrame m #[(.int x0), (.int x1), (.ref x2)] 7 = mkF m 0 #[iv x0, iv x1, rv x2, un, un, un, un] [] := by (first | (simp [entryFrame, mkF, argsToLocals, Value.category]; done) | rfl)
theorem d41_0 : decode jdk_33_method_12_code 0 = .ok (.iload_n 1, 1) := by decide +kernel
theorem d41_1 : decode jdk_33_method_12_code 1 = .ok (.istore 5, 2) := by decide +kernel
theorem d41_3 : decode jdk_33_method_12_code 3 = .ok (.iload_n 0, 1) := by decide +kernel
theorem d41_4 : decode jdk_33_method_12_code 4 = .ok (.ifCond .ge 7, 3) := by decide +kernel
theorem d41_11 : decode jdk_33_method_12_code 11 = .ok (.iconst 0, 1) := by decide +kernel
theorem d41_12 : decode jdk_33_method_12_code 12 = .ok (.istore 6, 2) := by decide +kernel
theorem d41_14 : decode jdk_33_method_12_code 14 = .ok (.iload 6, 2) := by decide +kernel
theorem d41_16 : decode jdk_33_method_12_code 16 = .ok (.ifCond .ne 6, 3) := by decide +kernel
theorem d41_19 : decode jdk_33_method_12_code 19 = .ok (.iload_n 0, 1) := by decide +kernel
theorem d41_20 : decode jdk_33_method_12_code 20 = .ok (.ineg, 1) := by decide +kernel
theorem d41_21 : decode jdk_33_method_12_code 21 = .ok (.istore_n 0, 1) := by decide +kernel
theorem d41_22 : decode jdk_33_method_12_code 22 = .ok (.iload_n 0, 1) := by decide +kernel
theorem d41_23 : decode jdk_33_method_12_code 23 = .ok (.bipush (-100), 2) := by decide +kernel
theorem d41_25 : decode jdk_33_method_12_code 25 = .ok (.if_icmp .gt 47, 3) := by decide +kernel
theorem d41_72 : decode jdk_33_method_12_code 72 = .ok (.aload_n 2, 1) := by decide +kernel
theorem d41_73 : decode jdk_33_method_12_code 73 = .ok (.iinc 5 (-1), 3) := by decide +kernel
theorem d41_76 : decode jdk_33_method_12_code 76 = .ok (.iload 5, 2) := by decide +kernel
theorem d41_78 : decode jdk_33_method_12_code 78 = .ok (.getstatic 83, 3) := by decide +kernel
theorem d41_81 : decode jdk_33_method_12_code 81 = .ok (.iload_n 0, 1) := by decide +kernel
theorem d41_82 : decode jdk_33_method_12_code 82 = .ok (.ineg, 1) := by decide +kernel
theorem d41_83 : decode jdk_33_method_12_code 83 = .ok (.baload, 1) := by decide +kernel
theorem d41_84 : decode jdk_33_method_12_code 84 = .ok (.bastore, 1) := by decide +kernel
theorem d41_85 : decode jdk_33_method_12_code 85 = .ok (.iload_n 0, 1) := by decide +kernel
theorem d41_86 : decode jdk_33_method_12_code 86 = .ok (.bipush (-9), 2) := by decide +kernel
theorem d41_88 : decode jdk_33_method_12_code 88 = .ok (.if_icmp .ge 16, 3) := by decide +kernel
theorem d41_104 : decode jdk_33_method_12_code 104 = .ok (.iload 6, 2) := by decide +kernel
theorem d41_106 : decode jdk_33_method_12_code 106 = .ok (.ifCond .eq 12, 3) := by decide +kernel
theorem d41_118 : decode jdk_33_method_12_code 118 = .ok (.iload 5, 2) := by decide +kernel
theorem d41_120 : decode jdk_33_method_12_code 120 = .ok (.ireturn, 1) := by decide +kernel
theorem d41_91 : decode jdk_33_method_12_code 91 = .ok (.aload_n 2, 1) := by decide +kernel
theorem d41_92 : decode jdk_33_method_12_code 92 = .ok (.iinc 5 (-1), 3) := by decide +kernel
theorem d41_95 : decode jdk_33_method_12_code 95 = .ok (.iload 5, 2) := by decide +kernel
theorem d41_97 : decode jdk_33_method_12_code 97 = .ok (.getstatic 87, 3) := by decide +kernel
theorem d41_100 : decode jdk_33_method_12_code 100 = .ok (.iload_n 0, 1) := by decide +kernel
theorem d41_101 : decode jdk_33_method_12_code 101 = .ok (.ineg, 1) := by decide +kernel
theorem d41_102 : decode jdk_33_method_12_code 102 = .ok (.baload, 1) := by decide +kernel
theorem d41_103 : decode jdk_33_method_12_code 103 = .ok (.bastore, 1) := by decide +kernel
theorem d41_28 : decode jdk_33_method_12_code 28 = .ok (.iload_n 0, 1) := by decide +kernel
theorem d41_29 : decode jdk_33_method_12_code 29 = .ok (.bipush 100, 2) := by decide +kernel
theorem d41_31 : decode jdk_33_method_12_code 31 = .ok (.idiv, 1) := by decide +kernel
theorem d41_32 : decode jdk_33_method_12_code 32 = .ok (.istore_n 3, 1) := by decide +kernel
theorem d41_33 : decode jdk_33_method_12_code 33 = .ok (.iload_n 3, 1) := by decide +kernel
theorem d41_34 : decode jdk_33_method_12_code 34 = .ok (.bipush 100, 2) := by decide +kernel
theorem d41_36 : decode jdk_33_method_12_code 36 = .ok (.imul, 1) := by decide +kernel
theorem d41_37 : decode jdk_33_method_12_code 37 = .ok (.iload_n 0, 1) := by decide +kernel
theorem d41_38 : decode jdk_33_method_12_code 38 = .ok (.isub, 1) := by decide +kernel
theorem d41_39 : decode jdk_33_method_12_code 39 = .ok (.istore 4, 2) := by decide +kernel
theorem d41_41 : decode jdk_33_method_12_code 41 = .ok (.iload_n 3, 1) := by decide +kernel
theorem d41_42 : decode jdk_33_method_12_code 42 = .ok (.istore_n 0, 1) := by decide +kernel
theorem d41_43 : decode jdk_33_method_12_code 43 = .ok (.aload_n 2, 1) := by decide +kernel
theorem d41_44 : decode jdk_33_method_12_code 44 = .ok (.iinc 5 (-1), 3) := by decide +kernel
theorem d41_47 : decode jdk_33_method_12_code 47 = .ok (.iload 5, 2) := by decide +kernel
theorem d41_49 : decode jdk_33_method_12_code 49 = .ok (.getstatic 83, 3) := by decide +kernel
theorem d41_52 : decode jdk_33_method_12_code 52 = .ok (.iload 4, 2) := by decide +kernel
theorem d41_54 : decode jdk_33_method_12_code 54 = .ok (.baload, 1) := by decide +kernel
theorem d41_55 : decode jdk_33_method_12_code 55 = .ok (.bastore, 1) := by decide +kernel
theorem d41_56 : decode jdk_33_method_12_code 56 = .ok (.aload_n 2, 1) := by decide +kernel
theorem d41_57 : decode jdk_33_method_12_code 57 = .ok (.iinc 5 (-1), 3) := by decide +kernel
theorem d41_60 : decode jdk_33_method_12_code 60 = .ok (.iload 5, 2) := by decide +kernel
theorem d41_62 : decode jdk_33_method_12_code 62 = .ok (.getstatic 87, 3) := by decide +kernel
theorem d41_65 : decode jdk_33_method_12_code 65 = .ok (.iload 4, 2) := by decide +kernel
theorem d41_67 : decode jdk_33_method_12_code 67 = .ok (.baload, 1) := by decide +kernel
theorem d41_68 : decode jdk_33_method_12_code 68 = .ok (.bastore, 1) := by decide +kernel
theorem d41_69 : decode jdk_33_method_12_code 69 = .ok (.goto (-47), 3) := by decide +kernel
def Q_rmGetChars (Z : State) (pv : Int32) (b : Addr) (kb : ClassId) (xs : List Value) (d1 : Addr) (d2 : Addr) (kd1 : ClassId) (kd2 : ClassId) (h0 : Heap) (n0 : Nat) (v : Option Value) (h : Heap) (L : List Loc) : Prop := v = some (.int (Int32.ofNat (xs.length + 0))) ∧ Fr n0 L ∧ Keep h0 h [b] ∧ Arv Z h b kb .byte (16 : Int32) (xs ++ own_dg pv) (.int 0)
theorem rmGetChars (l : Launch) (Z : State) (a0 : Array Value) (hw : ∀ d ∈ tables_1, d.before a0 Z = true) (ws : List Jvm.Cond) (pv : Int32) (b : Addr) (kb : ClassId) (xs : List Value) (d1 : Addr) (d2 : Addr) (kd1 : ClassId) (kd2 : ClassId) (h0 : Heap) (n0 : Nat) (Z0 : n0 ≤ h0.size) (O0 : Old Z n0 h0) (V_b : Arv Z h0 b kb .byte (16 : Int32) xs (.int 0)) (g_b : n0 ≤ b) (hp : (0 < pv.toInt ∧ pv.toInt ≤ 65535)) (h16 : ((xs ++ own_dg pv).length ≤ 16)) (S_d1 : Sta Z Z.heap "java/lang/Integer" "DigitOnes" "[B" (.ref d1)) (V_d1 : Arv Z Z.heap d1 kd1 .byte (100 : Int32) own_ones (.int 0)) (S_d2 : Sta Z Z.heap "java/lang/Integer" "DigitTens" "[B" (.ref d2)) (V_d2 : Arv Z Z.heap d2 kd2 .byte (100 : Int32) own_tens (.int 0)) :
    MetN l Z ws (⟨"java/lang/Integer", "getChars", "(II[B)I"⟩ : MethodName) jdk_33_method_12_code 7 (some .int) ({ frames := 0, cells := 0, slots := 0, locals := 0 } : Room) #[(.int pv), (.int (Int32.ofNat (xs ++ own_dg pv).length)), (.ref b)] h0 (Q_rmGetChars Z pv b kb xs d1 d2 kd1 kd2 h0 n0) := by
  refine MetN.go (plainFor_of_name pn_301) n0 fun p e s m below meth c s₁ Bd hx hby hml hZ hh hown hnm X0 e0 N0 => ?_
  have hown : s.vm.findClass "java/lang/Integer" = some m.cls := hown
  refine Go.ent (ef_332 m pv (Int32.ofNat (xs ++ own_dg pv).length) b) ?_
  show Go _ _ _ _ s₁ (mkF m 0 #[iv pv, iv (Int32.ofNat (xs ++ own_dg pv).length), rv b, un, un, un, un] [])
  rcases own_sz hp with hs | hs | hs | hs | hs
  · have hd := own_dg_1 hs
    have hL : (xs ++ own_dg pv).length = xs.length + 1 := by rw [hd, List.length_append]; rfl
    rw [hL] at h16
    rw [hL]
    show Go _ _ _ _ s₁ (mkF m 0 #[iv pv, iv (Int32.ofNat (xs.length + 1)), rv b, un, un, un, un] [])
    have Vr : Arv Z h0 b kb .byte (16 : Int32) (own_row xs 1 []) (.int 0) := own_row_in 1 V_b
    have li1 : (0 : Int32).toInt = 0 := by decide
    have li2 : (100 : Int32).toInt = 100 := by decide
    refine Go.iload1 1 X0 hx (hb hby d41_0) rfl rfl ?_
    refine Go.istore2 3 X0 hx (L' := #[iv pv, iv (Int32.ofNat (xs.length + 1)), rv b, un, un, iv (Int32.ofNat (xs.length + 1)), un]) (hb hby d41_1) rfl rfl ?_
    refine Go.iload1 4 X0 hx (hb hby d41_3) rfl rfl ?_
    refine Go.ifY 11 X0 hx (hb hby d41_4) (XT.i0_ge_t (u_nlt32 (by omega))) (by decide) (by decide) ?_
    refine Go.iconst 12 X0 hx (0 : Int32) (hb hby d41_11) (by decide) rfl ?_
    refine Go.istore2 14 X0 hx (L' := #[iv pv, iv (Int32.ofNat (xs.length + 1)), rv b, un, un, iv (Int32.ofNat (xs.length + 1)), iv 0]) (hb hby d41_12) rfl rfl ?_
    refine Go.iload2 16 X0 hx (hb hby d41_14) rfl rfl ?_
    refine Go.ifN 19 X0 hx (hb hby d41_16) (XT.i0_ne_f rfl) rfl ?_
    refine Go.iload1 20 X0 hx (hb hby d41_19) rfl rfl ?_
    refine Go.ineg 21 X0 hx (hb hby d41_20) rfl ?_
    obtain ⟨n3, h_n3⟩ : ∃ z, z = (-pv) := ⟨_, rfl⟩
    rw [← h_n3]
    show Go _ _ _ _ s₁ (mkF m 21 #[iv pv, iv (Int32.ofNat (xs.length + 1)), rv b, un, un, iv (Int32.ofNat (xs.length + 1)), iv 0] [(.int n3)])
    have e_n3 : n3.toInt = -pv.toInt := by rw [h_n3]; exact x_ineg (by omega)
    refine Go.istore1 22 X0 hx (L' := #[iv n3, iv (Int32.ofNat (xs.length + 1)), rv b, un, un, iv (Int32.ofNat (xs.length + 1)), iv 0]) (hb hby d41_21) rfl rfl ?_
    refine Go.iload1 23 X0 hx (hb hby d41_22) rfl rfl ?_
    refine Go.bipush 25 X0 hx (-100 : Int32) (hb hby d41_23) (by decide) rfl ?_
    have li4 : (-100 : Int32).toInt = -100 := by decide
    refine Go.icmpY 72 X0 hx (hb hby d41_25) (XT.ii_gt_t (u_lt32 (by omega))) (by decide) (by decide) ?_
    refine Go.aload1 73 X0 hx (hb hby d41_72) rfl rfl rfl ?_
    refine Go.iinc 76 X0 hx (-1 : Int32) (L' := #[iv n3, iv (Int32.ofNat (xs.length + 1)), rv b, un, un, iv ((Int32.ofNat (xs.length + 1)) + (-1 : Int32)), iv 0]) (hb hby d41_73) (by decide) rfl rfl rfl ?_
    rw [show Int32.ofNat (xs.length + 1) + (-1 : Int32) = Int32.ofNat (xs.length + 0) from own_dec _]
    show Go _ _ _ _ s₁ (mkF m 76 #[iv n3, iv (Int32.ofNat (xs.length + 1)), rv b, un, un, iv (Int32.ofNat (xs.length + 0)), iv 0] [(.ref b)])
    refine Go.iload2 78 X0 hx (hb hby d41_76) rfl rfl ?_
    have F5 : Sta Z h0 "java/lang/Integer" "DigitOnes" "[B" (.ref d1) := S_d1.ext O0.2
    obtain ⟨T6, X6, e6, st6⟩ := getS2 X0 hx hZ hown (host := "") (Or.inl (ow hw 221 rfl)) Via.refl e0 F5 (g := (mkF m 78 #[iv n3, iv (Int32.ofNat (xs.length + 1)), rv b, un, un, iv (Int32.ofNat (xs.length + 0)), iv 0] [(.int (Int32.ofNat (xs.length + 0))), (.ref b)])) rfl (hb hby d41_78)
    refine Go.by st6 ?_
    show Go _ _ _ _ T6 (mkF m 81 #[iv n3, iv (Int32.ofNat (xs.length + 1)), rv b, un, un, iv (Int32.ofNat (xs.length + 0)), iv 0] [(.ref d1), (.int (Int32.ofNat (xs.length + 0))), (.ref b)])
    refine Go.iload1 82 X6 hx (hb hby d41_81) rfl rfl ?_
    refine Go.ineg 83 X6 hx (hb hby d41_82) rfl ?_
    obtain ⟨n7, h_n7⟩ : ∃ z, z = (-n3) := ⟨_, rfl⟩
    rw [← h_n7]
    show Go _ _ _ _ T6 (mkF m 83 #[iv n3, iv (Int32.ofNat (xs.length + 1)), rv b, un, un, iv (Int32.ofNat (xs.length + 0)), iv 0] [(.int n7), (.ref d1), (.int (Int32.ofNat (xs.length + 0))), (.ref b)])
    have e_n7 : n7.toInt = -n3.toInt := by rw [h_n7]; exact x_ineg (by omega)
    have F8 : Arv Z h0 d1 kd1 .byte (100 : Int32) own_ones (.int 0) := V_d1.ext O0.2
    obtain ⟨cl9, Ar9, -, S9, M9, H9, -⟩ := id F8
    have hin9 : ¬ (n7 < 0 ∨ cl9.slots.size ≤ n7.toNatClampNeg) := inb_of S9 ⟨u_nlt32 (by omega), u_lt32 (by omega)⟩
    refine Go.by (fun _ gk => X6.baloadBytes hx (j := n7) (v := (.int (Int32.ofNat (48 + n7.toNatClampNeg % 10)))) (by rw [e6]; exact Ar9.1) (State.isArrayOf_alike hZ.alike Ar9.2.1) Ar9.2.2 hin9 (Has.at H9 hin9 (own_onesD (show n7.toInt.toNat < 100 by omega))) (g := (mkF m 83 #[iv n3, iv (Int32.ofNat (xs.length + 1)), rv b, un, un, iv (Int32.ofNat (xs.length + 0)), iv 0] [(.int n7), (.ref d1), (.int (Int32.ofNat (xs.length + 0))), (.ref b)])) rfl rfl (hb hby d41_83) _ gk) ?_
    show Go _ _ _ _ T6 (mkF m 84 #[iv n3, iv (Int32.ofNat (xs.length + 1)), rv b, un, un, iv (Int32.ofNat (xs.length + 0)), iv 0] [(.int (Int32.ofNat (48 + n7.toNatClampNeg % 10))), (.int (Int32.ofNat (xs.length + 0))), (.ref b)])
    rw [(own_dgE (show n7.toInt.toNat % 10 = pv.toInt.toNat / 1 % 10 by omega) : (Int32.ofNat (48 + n7.toNatClampNeg % 10)) = own_dgt pv 1)]
    show Go _ _ _ _ T6 (mkF m 84 #[iv n3, iv (Int32.ofNat (xs.length + 1)), rv b, un, un, iv (Int32.ofNat (xs.length + 0)), iv 0] [(.int (own_dgt pv 1)), (.int (Int32.ofNat (xs.length + 0))), (.ref b)])
    obtain ⟨cl10, Ar10, q10, S10, M10, H10, G10⟩ := id Vr
    have hin10 : ¬ ((Int32.ofNat (xs.length + 0)) < 0 ∨ cl10.slots.size ≤ (Int32.ofNat (xs.length + 0)).toNatClampNeg) := inb_of S10 ⟨own_ofnn (by omega), own_oflt (j := 16) (by omega) (by omega)⟩
    obtain ⟨T10, h10, X10, e10, W10, st10⟩ := stB X6 hx hZ e6 Ar10 (j := (Int32.ofNat (xs.length + 0))) hin10 (g := (mkF m 84 #[iv n3, iv (Int32.ofNat (xs.length + 1)), rv b, un, un, iv (Int32.ofNat (xs.length + 0)), iv 0] [(.int (own_dgt pv 1)), (.int (Int32.ofNat (xs.length + 0))), (.ref b)])) rfl rfl (hb hby d41_84)
    have N10 := Fr.snoc X10 N0 g_b
    have V10 : Arv Z h10 b kb .byte (16 : Int32) ((own_row xs 1 []).set (xs.length + 0) (.int (nar .byte (own_dgt pv 1)))) (.int 0) := Arv.set Ar10 q10 S10 M10 H10 G10 (fits_nar_byte _) W10 (xs.length + 0) (own_ofn (by omega)) (by rw [own_row_len]; omega)
    refine Go.by st10 ?_
    show Go _ _ _ _ T10 (mkF m 85 #[iv n3, iv (Int32.ofNat (xs.length + 1)), rv b, un, un, iv (Int32.ofNat (xs.length + 0)), iv 0] [])
    rw [own_row_set, own_dgt_nb] at V10
    refine Go.iload1 86 X10 hx (hb hby d41_85) rfl rfl ?_
    refine Go.bipush 88 X10 hx (-9 : Int32) (hb hby d41_86) (by decide) rfl ?_
    have li11 : (-9 : Int32).toInt = -9 := by decide
    refine Go.icmpY 104 X10 hx (hb hby d41_88) (XT.ii_ge_t (u_nlt32 (by omega))) (by decide) (by decide) ?_
    refine Go.iload2 106 X10 hx (hb hby d41_104) rfl rfl ?_
    refine Go.ifY 118 X10 hx (hb hby d41_106) (XT.i0_eq_t rfl) (by decide) (by decide) ?_
    refine Go.iload2 120 X10 hx (hb hby d41_118) rfl rfl ?_
    have Vf : Arv Z h10 b kb .byte (16 : Int32) (xs ++ own_dg pv) (.int 0) := by rw [hd]; exact V10
    have F12 : Keep h0 h10 [b] := (Keep.refl h0 [b]).wr W10 (Or.inl (List.mem_of_getElem? (i := 0) rfl))
    exact Go.retI X10 hx Bd.notSynchronized Bd.returns rfl (by simp) (hb hby d41_120) (by rw [e10]; exact ⟨rfl, N10, F12, Vf⟩) (by decide) (by decide)
  · have hd := own_dg_2 hs
    have hL : (xs ++ own_dg pv).length = xs.length + 2 := by rw [hd, List.length_append]; rfl
    rw [hL] at h16
    rw [hL]
    show Go _ _ _ _ s₁ (mkF m 0 #[iv pv, iv (Int32.ofNat (xs.length + 2)), rv b, un, un, un, un] [])
    have Vr : Arv Z h0 b kb .byte (16 : Int32) (own_row xs 2 []) (.int 0) := own_row_in 2 V_b
    have li13 : (0 : Int32).toInt = 0 := by decide
    have li14 : (100 : Int32).toInt = 100 := by decide
    refine Go.iload1 1 X0 hx (hb hby d41_0) rfl rfl ?_
    refine Go.istore2 3 X0 hx (L' := #[iv pv, iv (Int32.ofNat (xs.length + 2)), rv b, un, un, iv (Int32.ofNat (xs.length + 2)), un]) (hb hby d41_1) rfl rfl ?_
    refine Go.iload1 4 X0 hx (hb hby d41_3) rfl rfl ?_
    refine Go.ifY 11 X0 hx (hb hby d41_4) (XT.i0_ge_t (u_nlt32 (by omega))) (by decide) (by decide) ?_
    refine Go.iconst 12 X0 hx (0 : Int32) (hb hby d41_11) (by decide) rfl ?_
    refine Go.istore2 14 X0 hx (L' := #[iv pv, iv (Int32.ofNat (xs.length + 2)), rv b, un, un, iv (Int32.ofNat (xs.length + 2)), iv 0]) (hb hby d41_12) rfl rfl ?_
    refine Go.iload2 16 X0 hx (hb hby d41_14) rfl rfl ?_
    refine Go.ifN 19 X0 hx (hb hby d41_16) (XT.i0_ne_f rfl) rfl ?_
    refine Go.iload1 20 X0 hx (hb hby d41_19) rfl rfl ?_
    refine Go.ineg 21 X0 hx (hb hby d41_20) rfl ?_
    obtain ⟨n15, h_n15⟩ : ∃ z, z = (-pv) := ⟨_, rfl⟩
    rw [← h_n15]
    show Go _ _ _ _ s₁ (mkF m 21 #[iv pv, iv (Int32.ofNat (xs.length + 2)), rv b, un, un, iv (Int32.ofNat (xs.length + 2)), iv 0] [(.int n15)])
    have e_n15 : n15.toInt = -pv.toInt := by rw [h_n15]; exact x_ineg (by omega)
    refine Go.istore1 22 X0 hx (L' := #[iv n15, iv (Int32.ofNat (xs.length + 2)), rv b, un, un, iv (Int32.ofNat (xs.length + 2)), iv 0]) (hb hby d41_21) rfl rfl ?_
    refine Go.iload1 23 X0 hx (hb hby d41_22) rfl rfl ?_
    refine Go.bipush 25 X0 hx (-100 : Int32) (hb hby d41_23) (by decide) rfl ?_
    have li16 : (-100 : Int32).toInt = -100 := by decide
    refine Go.icmpY 72 X0 hx (hb hby d41_25) (XT.ii_gt_t (u_lt32 (by omega))) (by decide) (by decide) ?_
    refine Go.aload1 73 X0 hx (hb hby d41_72) rfl rfl rfl ?_
    refine Go.iinc 76 X0 hx (-1 : Int32) (L' := #[iv n15, iv (Int32.ofNat (xs.length + 2)), rv b, un, un, iv ((Int32.ofNat (xs.length + 2)) + (-1 : Int32)), iv 0]) (hb hby d41_73) (by decide) rfl rfl rfl ?_
    rw [show Int32.ofNat (xs.length + 2) + (-1 : Int32) = Int32.ofNat (xs.length + 1) from own_dec _]
    show Go _ _ _ _ s₁ (mkF m 76 #[iv n15, iv (Int32.ofNat (xs.length + 2)), rv b, un, un, iv (Int32.ofNat (xs.length + 1)), iv 0] [(.ref b)])
    refine Go.iload2 78 X0 hx (hb hby d41_76) rfl rfl ?_
    have F17 : Sta Z h0 "java/lang/Integer" "DigitOnes" "[B" (.ref d1) := S_d1.ext O0.2
    obtain ⟨T18, X18, e18, st18⟩ := getS2 X0 hx hZ hown (host := "") (Or.inl (ow hw 221 rfl)) Via.refl e0 F17 (g := (mkF m 78 #[iv n15, iv (Int32.ofNat (xs.length + 2)), rv b, un, un, iv (Int32.ofNat (xs.length + 1)), iv 0] [(.int (Int32.ofNat (xs.length + 1))), (.ref b)])) rfl (hb hby d41_78)
    refine Go.by st18 ?_
    show Go _ _ _ _ T18 (mkF m 81 #[iv n15, iv (Int32.ofNat (xs.length + 2)), rv b, un, un, iv (Int32.ofNat (xs.length + 1)), iv 0] [(.ref d1), (.int (Int32.ofNat (xs.length + 1))), (.ref b)])
    refine Go.iload1 82 X18 hx (hb hby d41_81) rfl rfl ?_
    refine Go.ineg 83 X18 hx (hb hby d41_82) rfl ?_
    obtain ⟨n19, h_n19⟩ : ∃ z, z = (-n15) := ⟨_, rfl⟩
    rw [← h_n19]
    show Go _ _ _ _ T18 (mkF m 83 #[iv n15, iv (Int32.ofNat (xs.length + 2)), rv b, un, un, iv (Int32.ofNat (xs.length + 1)), iv 0] [(.int n19), (.ref d1), (.int (Int32.ofNat (xs.length + 1))), (.ref b)])
    have e_n19 : n19.toInt = -n15.toInt := by rw [h_n19]; exact x_ineg (by omega)
    have F20 : Arv Z h0 d1 kd1 .byte (100 : Int32) own_ones (.int 0) := V_d1.ext O0.2
    obtain ⟨cl21, Ar21, -, S21, M21, H21, -⟩ := id F20
    have hin21 : ¬ (n19 < 0 ∨ cl21.slots.size ≤ n19.toNatClampNeg) := inb_of S21 ⟨u_nlt32 (by omega), u_lt32 (by omega)⟩
    refine Go.by (fun _ gk => X18.baloadBytes hx (j := n19) (v := (.int (Int32.ofNat (48 + n19.toNatClampNeg % 10)))) (by rw [e18]; exact Ar21.1) (State.isArrayOf_alike hZ.alike Ar21.2.1) Ar21.2.2 hin21 (Has.at H21 hin21 (own_onesD (show n19.toInt.toNat < 100 by omega))) (g := (mkF m 83 #[iv n15, iv (Int32.ofNat (xs.length + 2)), rv b, un, un, iv (Int32.ofNat (xs.length + 1)), iv 0] [(.int n19), (.ref d1), (.int (Int32.ofNat (xs.length + 1))), (.ref b)])) rfl rfl (hb hby d41_83) _ gk) ?_
    show Go _ _ _ _ T18 (mkF m 84 #[iv n15, iv (Int32.ofNat (xs.length + 2)), rv b, un, un, iv (Int32.ofNat (xs.length + 1)), iv 0] [(.int (Int32.ofNat (48 + n19.toNatClampNeg % 10))), (.int (Int32.ofNat (xs.length + 1))), (.ref b)])
    rw [(own_dgE (show n19.toInt.toNat % 10 = pv.toInt.toNat / 1 % 10 by omega) : (Int32.ofNat (48 + n19.toNatClampNeg % 10)) = own_dgt pv 1)]
    show Go _ _ _ _ T18 (mkF m 84 #[iv n15, iv (Int32.ofNat (xs.length + 2)), rv b, un, un, iv (Int32.ofNat (xs.length + 1)), iv 0] [(.int (own_dgt pv 1)), (.int (Int32.ofNat (xs.length + 1))), (.ref b)])
    obtain ⟨cl22, Ar22, q22, S22, M22, H22, G22⟩ := id Vr
    have hin22 : ¬ ((Int32.ofNat (xs.length + 1)) < 0 ∨ cl22.slots.size ≤ (Int32.ofNat (xs.length + 1)).toNatClampNeg) := inb_of S22 ⟨own_ofnn (by omega), own_oflt (j := 16) (by omega) (by omega)⟩
    obtain ⟨T22, h22, X22, e22, W22, st22⟩ := stB X18 hx hZ e18 Ar22 (j := (Int32.ofNat (xs.length + 1))) hin22 (g := (mkF m 84 #[iv n15, iv (Int32.ofNat (xs.length + 2)), rv b, un, un, iv (Int32.ofNat (xs.length + 1)), iv 0] [(.int (own_dgt pv 1)), (.int (Int32.ofNat (xs.length + 1))), (.ref b)])) rfl rfl (hb hby d41_84)
    have N22 := Fr.snoc X22 N0 g_b
    have V22 : Arv Z h22 b kb .byte (16 : Int32) ((own_row xs 2 []).set (xs.length + 1) (.int (nar .byte (own_dgt pv 1)))) (.int 0) := Arv.set Ar22 q22 S22 M22 H22 G22 (fits_nar_byte _) W22 (xs.length + 1) (own_ofn (by omega)) (by rw [own_row_len]; omega)
    refine Go.by st22 ?_
    show Go _ _ _ _ T22 (mkF m 85 #[iv n15, iv (Int32.ofNat (xs.length + 2)), rv b, un, un, iv (Int32.ofNat (xs.length + 1)), iv 0] [])
    rw [own_row_set, own_dgt_nb] at V22
    refine Go.iload1 86 X22 hx (hb hby d41_85) rfl rfl ?_
    refine Go.bipush 88 X22 hx (-9 : Int32) (hb hby d41_86) (by decide) rfl ?_
    have li23 : (-9 : Int32).toInt = -9 := by decide
    refine Go.icmpN 91 X22 hx (hb hby d41_88) (XT.ii_ge_f (u_lt32 (by omega))) rfl ?_
    refine Go.aload1 92 X22 hx (hb hby d41_91) rfl rfl rfl ?_
    refine Go.iinc 95 X22 hx (-1 : Int32) (L' := #[iv n15, iv (Int32.ofNat (xs.length + 2)), rv b, un, un, iv ((Int32.ofNat (xs.length + 1)) + (-1 : Int32)), iv 0]) (hb hby d41_92) (by decide) rfl rfl rfl ?_
    rw [show Int32.ofNat (xs.length + 1) + (-1 : Int32) = Int32.ofNat (xs.length + 0) from own_dec _]
    show Go _ _ _ _ T22 (mkF m 95 #[iv n15, iv (Int32.ofNat (xs.length + 2)), rv b, un, un, iv (Int32.ofNat (xs.length + 0)), iv 0] [(.ref b)])
    refine Go.iload2 97 X22 hx (hb hby d41_95) rfl rfl ?_
    have F24 : Old Z n0 h22 := O0.wr W22 g_b
    have F25 : Sta Z h22 "java/lang/Integer" "DigitTens" "[B" (.ref d2) := S_d2.ext F24.2
    obtain ⟨T26, X26, e26, st26⟩ := getS2 X22 hx hZ hown (host := "") (Or.inl (ow hw 242 rfl)) Via.refl e22 F25 (g := (mkF m 97 #[iv n15, iv (Int32.ofNat (xs.length + 2)), rv b, un, un, iv (Int32.ofNat (xs.length + 0)), iv 0] [(.int (Int32.ofNat (xs.length + 0))), (.ref b)])) rfl (hb hby d41_97)
    refine Go.by st26 ?_
    show Go _ _ _ _ T26 (mkF m 100 #[iv n15, iv (Int32.ofNat (xs.length + 2)), rv b, un, un, iv (Int32.ofNat (xs.length + 0)), iv 0] [(.ref d2), (.int (Int32.ofNat (xs.length + 0))), (.ref b)])
    refine Go.iload1 101 X26 hx (hb hby d41_100) rfl rfl ?_
    refine Go.ineg 102 X26 hx (hb hby d41_101) rfl ?_
    obtain ⟨n27, h_n27⟩ : ∃ z, z = (-n15) := ⟨_, rfl⟩
    rw [← h_n27]
    show Go _ _ _ _ T26 (mkF m 102 #[iv n15, iv (Int32.ofNat (xs.length + 2)), rv b, un, un, iv (Int32.ofNat (xs.length + 0)), iv 0] [(.int n27), (.ref d2), (.int (Int32.ofNat (xs.length + 0))), (.ref b)])
    have e_n27 : n27.toInt = -n15.toInt := by rw [h_n27]; exact x_ineg (by omega)
    have F28 : Arv Z h22 d2 kd2 .byte (100 : Int32) own_tens (.int 0) := V_d2.ext F24.2
    obtain ⟨cl29, Ar29, -, S29, M29, H29, -⟩ := id F28
    have hin29 : ¬ (n27 < 0 ∨ cl29.slots.size ≤ n27.toNatClampNeg) := inb_of S29 ⟨u_nlt32 (by omega), u_lt32 (by omega)⟩
    refine Go.by (fun _ gk => X26.baloadBytes hx (j := n27) (v := (.int (Int32.ofNat (48 + n27.toNatClampNeg / 10)))) (by rw [e26]; exact Ar29.1) (State.isArrayOf_alike hZ.alike Ar29.2.1) Ar29.2.2 hin29 (Has.at H29 hin29 (own_tensD (show n27.toInt.toNat < 100 by omega))) (g := (mkF m 102 #[iv n15, iv (Int32.ofNat (xs.length + 2)), rv b, un, un, iv (Int32.ofNat (xs.length + 0)), iv 0] [(.int n27), (.ref d2), (.int (Int32.ofNat (xs.length + 0))), (.ref b)])) rfl rfl (hb hby d41_102) _ gk) ?_
    show Go _ _ _ _ T26 (mkF m 103 #[iv n15, iv (Int32.ofNat (xs.length + 2)), rv b, un, un, iv (Int32.ofNat (xs.length + 0)), iv 0] [(.int (Int32.ofNat (48 + n27.toNatClampNeg / 10))), (.int (Int32.ofNat (xs.length + 0))), (.ref b)])
    rw [(own_dgE (show n27.toInt.toNat / 10 = pv.toInt.toNat / 10 % 10 by omega) : (Int32.ofNat (48 + n27.toNatClampNeg / 10)) = own_dgt pv 10)]
    show Go _ _ _ _ T26 (mkF m 103 #[iv n15, iv (Int32.ofNat (xs.length + 2)), rv b, un, un, iv (Int32.ofNat (xs.length + 0)), iv 0] [(.int (own_dgt pv 10)), (.int (Int32.ofNat (xs.length + 0))), (.ref b)])
    obtain ⟨cl30, Ar30, q30, S30, M30, H30, G30⟩ := id V22
    have hin30 : ¬ ((Int32.ofNat (xs.length + 0)) < 0 ∨ cl30.slots.size ≤ (Int32.ofNat (xs.length + 0)).toNatClampNeg) := inb_of S30 ⟨own_ofnn (by omega), own_oflt (j := 16) (by omega) (by omega)⟩
    obtain ⟨T30, h30, X30, e30, W30, st30⟩ := stB X26 hx hZ e26 Ar30 (j := (Int32.ofNat (xs.length + 0))) hin30 (g := (mkF m 103 #[iv n15, iv (Int32.ofNat (xs.length + 2)), rv b, un, un, iv (Int32.ofNat (xs.length + 0)), iv 0] [(.int (own_dgt pv 10)), (.int (Int32.ofNat (xs.length + 0))), (.ref b)])) rfl rfl (hb hby d41_103)
    have N30 := Fr.snoc X30 N22 g_b
    have V30 : Arv Z h30 b kb .byte (16 : Int32) ((own_row xs 1 [(.int (own_dgt pv 1))]).set (xs.length + 0) (.int (nar .byte (own_dgt pv 10)))) (.int 0) := Arv.set Ar30 q30 S30 M30 H30 G30 (fits_nar_byte _) W30 (xs.length + 0) (own_ofn (by omega)) (by rw [own_row_len]; omega)
    refine Go.by st30 ?_
    show Go _ _ _ _ T30 (mkF m 104 #[iv n15, iv (Int32.ofNat (xs.length + 2)), rv b, un, un, iv (Int32.ofNat (xs.length + 0)), iv 0] [])
    rw [own_row_set, own_dgt_nb] at V30
    refine Go.iload2 106 X30 hx (hb hby d41_104) rfl rfl ?_
    refine Go.ifY 118 X30 hx (hb hby d41_106) (XT.i0_eq_t rfl) (by decide) (by decide) ?_
    refine Go.iload2 120 X30 hx (hb hby d41_118) rfl rfl ?_
    have Vf : Arv Z h30 b kb .byte (16 : Int32) (xs ++ own_dg pv) (.int 0) := by rw [hd]; exact V30
    have F31 : Keep h0 h22 [b] := (Keep.refl h0 [b]).wr W22 (Or.inl (List.mem_of_getElem? (i := 0) rfl))
    have F32 : Keep h0 h30 [b] := F31.wr W30 (Or.inl (List.mem_of_getElem? (i := 0) rfl))
    exact Go.retI X30 hx Bd.notSynchronized Bd.returns rfl (by simp) (hb hby d41_120) (by rw [e30]; exact ⟨rfl, N30, F32, Vf⟩) (by decide) (by decide)
  · have hd := own_dg_3 hs
    have hL : (xs ++ own_dg pv).length = xs.length + 3 := by rw [hd, List.length_append]; rfl
    rw [hL] at h16
    rw [hL]
    show Go _ _ _ _ s₁ (mkF m 0 #[iv pv, iv (Int32.ofNat (xs.length + 3)), rv b, un, un, un, un] [])
    have Vr : Arv Z h0 b kb .byte (16 : Int32) (own_row xs 3 []) (.int 0) := own_row_in 3 V_b
    have li33 : (0 : Int32).toInt = 0 := by decide
    have li34 : (100 : Int32).toInt = 100 := by decide
    refine Go.iload1 1 X0 hx (hb hby d41_0) rfl rfl ?_
    refine Go.istore2 3 X0 hx (L' := #[iv pv, iv (Int32.ofNat (xs.length + 3)), rv b, un, un, iv (Int32.ofNat (xs.length + 3)), un]) (hb hby d41_1) rfl rfl ?_
    refine Go.iload1 4 X0 hx (hb hby d41_3) rfl rfl ?_
    refine Go.ifY 11 X0 hx (hb hby d41_4) (XT.i0_ge_t (u_nlt32 (by omega))) (by decide) (by decide) ?_
    refine Go.iconst 12 X0 hx (0 : Int32) (hb hby d41_11) (by decide) rfl ?_
    refine Go.istore2 14 X0 hx (L' := #[iv pv, iv (Int32.ofNat (xs.length + 3)), rv b, un, un, iv (Int32.ofNat (xs.length + 3)), iv 0]) (hb hby d41_12) rfl rfl ?_
    refine Go.iload2 16 X0 hx (hb hby d41_14) rfl rfl ?_
    refine Go.ifN 19 X0 hx (hb hby d41_16) (XT.i0_ne_f rfl) rfl ?_
    refine Go.iload1 20 X0 hx (hb hby d41_19) rfl rfl ?_
    refine Go.ineg 21 X0 hx (hb hby d41_20) rfl ?_
    obtain ⟨n35, h_n35⟩ : ∃ z, z = (-pv) := ⟨_, rfl⟩
    rw [← h_n35]
    show Go _ _ _ _ s₁ (mkF m 21 #[iv pv, iv (Int32.ofNat (xs.length + 3)), rv b, un, un, iv (Int32.ofNat (xs.length + 3)), iv 0] [(.int n35)])
    have e_n35 : n35.toInt = -pv.toInt := by rw [h_n35]; exact x_ineg (by omega)
    refine Go.istore1 22 X0 hx (L' := #[iv n35, iv (Int32.ofNat (xs.length + 3)), rv b, un, un, iv (Int32.ofNat (xs.length + 3)), iv 0]) (hb hby d41_21) rfl rfl ?_
    refine Go.iload1 23 X0 hx (hb hby d41_22) rfl rfl ?_
    refine Go.bipush 25 X0 hx (-100 : Int32) (hb hby d41_23) (by decide) rfl ?_
    have li36 : (-100 : Int32).toInt = -100 := by decide
    refine Go.icmpN 28 X0 hx (hb hby d41_25) (XT.ii_gt_f (u_nlt32 (by omega))) rfl ?_
    refine Go.iload1 29 X0 hx (hb hby d41_28) rfl rfl ?_
    refine Go.bipush 31 X0 hx (100 : Int32) (hb hby d41_29) (by decide) rfl ?_
    refine Go.idiv 32 X0 hx (hb hby d41_31) (by decide) rfl ?_
    obtain ⟨n37, h_n37⟩ : ∃ z, z = (n35 / (100 : Int32)) := ⟨_, rfl⟩
    rw [← h_n37]
    show Go _ _ _ _ s₁ (mkF m 32 #[iv n35, iv (Int32.ofNat (xs.length + 3)), rv b, un, un, iv (Int32.ofNat (xs.length + 3)), iv 0] [(.int n37)])
    have e_n37 : (0 ≤ n35.toInt → n37.toInt = n35.toInt / 100) ∧ (n35.toInt < 0 → n37.toInt = -((-n35.toInt) / 100)) := by rw [h_n37]; exact x_idiv 100 (by decide) (by decide)
    refine Go.istore1 33 X0 hx (L' := #[iv n35, iv (Int32.ofNat (xs.length + 3)), rv b, iv n37, un, iv (Int32.ofNat (xs.length + 3)), iv 0]) (hb hby d41_32) rfl rfl ?_
    refine Go.iload1 34 X0 hx (hb hby d41_33) rfl rfl ?_
    refine Go.bipush 36 X0 hx (100 : Int32) (hb hby d41_34) (by decide) rfl ?_
    refine Go.imul 37 X0 hx (hb hby d41_36) rfl ?_
    obtain ⟨n38, h_n38⟩ : ∃ z, z = (n37 * (100 : Int32)) := ⟨_, rfl⟩
    rw [← h_n38]
    show Go _ _ _ _ s₁ (mkF m 37 #[iv n35, iv (Int32.ofNat (xs.length + 3)), rv b, iv n37, un, iv (Int32.ofNat (xs.length + 3)), iv 0] [(.int n38)])
    have e_n38 : n38.toInt = n37.toInt * 100 := by rw [h_n38]; exact x_imulR 100 (by decide) (by omega) (by omega)
    refine Go.iload1 38 X0 hx (hb hby d41_37) rfl rfl ?_
    refine Go.isub 39 X0 hx (hb hby d41_38) rfl ?_
    obtain ⟨n39, h_n39⟩ : ∃ z, z = (n38 - n35) := ⟨_, rfl⟩
    rw [← h_n39]
    show Go _ _ _ _ s₁ (mkF m 39 #[iv n35, iv (Int32.ofNat (xs.length + 3)), rv b, iv n37, un, iv (Int32.ofNat (xs.length + 3)), iv 0] [(.int n39)])
    have e_n39 : n39.toInt = n38.toInt - n35.toInt := by rw [h_n39]; exact x_isub (by omega) (by omega)
    refine Go.istore2 41 X0 hx (L' := #[iv n35, iv (Int32.ofNat (xs.length + 3)), rv b, iv n37, iv n39, iv (Int32.ofNat (xs.length + 3)), iv 0]) (hb hby d41_39) rfl rfl ?_
    refine Go.iload1 42 X0 hx (hb hby d41_41) rfl rfl ?_
    refine Go.istore1 43 X0 hx (L' := #[iv n37, iv (Int32.ofNat (xs.length + 3)), rv b, iv n37, iv n39, iv (Int32.ofNat (xs.length + 3)), iv 0]) (hb hby d41_42) rfl rfl ?_
    refine Go.aload1 44 X0 hx (hb hby d41_43) rfl rfl rfl ?_
    refine Go.iinc 47 X0 hx (-1 : Int32) (L' := #[iv n37, iv (Int32.ofNat (xs.length + 3)), rv b, iv n37, iv n39, iv ((Int32.ofNat (xs.length + 3)) + (-1 : Int32)), iv 0]) (hb hby d41_44) (by decide) rfl rfl rfl ?_
    rw [show Int32.ofNat (xs.length + 3) + (-1 : Int32) = Int32.ofNat (xs.length + 2) from own_dec _]
    show Go _ _ _ _ s₁ (mkF m 47 #[iv n37, iv (Int32.ofNat (xs.length + 3)), rv b, iv n37, iv n39, iv (Int32.ofNat (xs.length + 2)), iv 0] [(.ref b)])
    refine Go.iload2 49 X0 hx (hb hby d41_47) rfl rfl ?_
    have F40 : Sta Z h0 "java/lang/Integer" "DigitOnes" "[B" (.ref d1) := S_d1.ext O0.2
    obtain ⟨T41, X41, e41, st41⟩ := getS2 X0 hx hZ hown (host := "") (Or.inl (ow hw 221 rfl)) Via.refl e0 F40 (g := (mkF m 49 #[iv n37, iv (Int32.ofNat (xs.length + 3)), rv b, iv n37, iv n39, iv (Int32.ofNat (xs.length + 2)), iv 0] [(.int (Int32.ofNat (xs.length + 2))), (.ref b)])) rfl (hb hby d41_49)
    refine Go.by st41 ?_
    show Go _ _ _ _ T41 (mkF m 52 #[iv n37, iv (Int32.ofNat (xs.length + 3)), rv b, iv n37, iv n39, iv (Int32.ofNat (xs.length + 2)), iv 0] [(.ref d1), (.int (Int32.ofNat (xs.length + 2))), (.ref b)])
    refine Go.iload2 54 X41 hx (hb hby d41_52) rfl rfl ?_
    have F42 : Arv Z h0 d1 kd1 .byte (100 : Int32) own_ones (.int 0) := V_d1.ext O0.2
    obtain ⟨cl43, Ar43, -, S43, M43, H43, -⟩ := id F42
    have hin43 : ¬ (n39 < 0 ∨ cl43.slots.size ≤ n39.toNatClampNeg) := inb_of S43 ⟨u_nlt32 (by omega), u_lt32 (by omega)⟩
    refine Go.by (fun _ gk => X41.baloadBytes hx (j := n39) (v := (.int (Int32.ofNat (48 + n39.toNatClampNeg % 10)))) (by rw [e41]; exact Ar43.1) (State.isArrayOf_alike hZ.alike Ar43.2.1) Ar43.2.2 hin43 (Has.at H43 hin43 (own_onesD (show n39.toInt.toNat < 100 by omega))) (g := (mkF m 54 #[iv n37, iv (Int32.ofNat (xs.length + 3)), rv b, iv n37, iv n39, iv (Int32.ofNat (xs.length + 2)), iv 0] [(.int n39), (.ref d1), (.int (Int32.ofNat (xs.length + 2))), (.ref b)])) rfl rfl (hb hby d41_54) _ gk) ?_
    show Go _ _ _ _ T41 (mkF m 55 #[iv n37, iv (Int32.ofNat (xs.length + 3)), rv b, iv n37, iv n39, iv (Int32.ofNat (xs.length + 2)), iv 0] [(.int (Int32.ofNat (48 + n39.toNatClampNeg % 10))), (.int (Int32.ofNat (xs.length + 2))), (.ref b)])
    rw [(own_dgE (show n39.toInt.toNat % 10 = pv.toInt.toNat / 1 % 10 by omega) : (Int32.ofNat (48 + n39.toNatClampNeg % 10)) = own_dgt pv 1)]
    show Go _ _ _ _ T41 (mkF m 55 #[iv n37, iv (Int32.ofNat (xs.length + 3)), rv b, iv n37, iv n39, iv (Int32.ofNat (xs.length + 2)), iv 0] [(.int (own_dgt pv 1)), (.int (Int32.ofNat (xs.length + 2))), (.ref b)])
    obtain ⟨cl44, Ar44, q44, S44, M44, H44, G44⟩ := id Vr
    have hin44 : ¬ ((Int32.ofNat (xs.length + 2)) < 0 ∨ cl44.slots.size ≤ (Int32.ofNat (xs.length + 2)).toNatClampNeg) := inb_of S44 ⟨own_ofnn (by omega), own_oflt (j := 16) (by omega) (by omega)⟩
    obtain ⟨T44, h44, X44, e44, W44, st44⟩ := stB X41 hx hZ e41 Ar44 (j := (Int32.ofNat (xs.length + 2))) hin44 (g := (mkF m 55 #[iv n37, iv (Int32.ofNat (xs.length + 3)), rv b, iv n37, iv n39, iv (Int32.ofNat (xs.length + 2)), iv 0] [(.int (own_dgt pv 1)), (.int (Int32.ofNat (xs.length + 2))), (.ref b)])) rfl rfl (hb hby d41_55)
    have N44 := Fr.snoc X44 N0 g_b
    have V44 : Arv Z h44 b kb .byte (16 : Int32) ((own_row xs 3 []).set (xs.length + 2) (.int (nar .byte (own_dgt pv 1)))) (.int 0) := Arv.set Ar44 q44 S44 M44 H44 G44 (fits_nar_byte _) W44 (xs.length + 2) (own_ofn (by omega)) (by rw [own_row_len]; omega)
    refine Go.by st44 ?_
    show Go _ _ _ _ T44 (mkF m 56 #[iv n37, iv (Int32.ofNat (xs.length + 3)), rv b, iv n37, iv n39, iv (Int32.ofNat (xs.length + 2)), iv 0] [])
    rw [own_row_set, own_dgt_nb] at V44
    refine Go.aload1 57 X44 hx (hb hby d41_56) rfl rfl rfl ?_
    refine Go.iinc 60 X44 hx (-1 : Int32) (L' := #[iv n37, iv (Int32.ofNat (xs.length + 3)), rv b, iv n37, iv n39, iv ((Int32.ofNat (xs.length + 2)) + (-1 : Int32)), iv 0]) (hb hby d41_57) (by decide) rfl rfl rfl ?_
    rw [show Int32.ofNat (xs.length + 2) + (-1 : Int32) = Int32.ofNat (xs.length + 1) from own_dec _]
    show Go _ _ _ _ T44 (mkF m 60 #[iv n37, iv (Int32.ofNat (xs.length + 3)), rv b, iv n37, iv n39, iv (Int32.ofNat (xs.length + 1)), iv 0] [(.ref b)])
    refine Go.iload2 62 X44 hx (hb hby d41_60) rfl rfl ?_
    have F45 : Old Z n0 h44 := O0.wr W44 g_b
    have F46 : Sta Z h44 "java/lang/Integer" "DigitTens" "[B" (.ref d2) := S_d2.ext F45.2
    obtain ⟨T47, X47, e47, st47⟩ := getS2 X44 hx hZ hown (host := "") (Or.inl (ow hw 242 rfl)) Via.refl e44 F46 (g := (mkF m 62 #[iv n37, iv (Int32.ofNat (xs.length + 3)), rv b, iv n37, iv n39, iv (Int32.ofNat (xs.length + 1)), iv 0] [(.int (Int32.ofNat (xs.length + 1))), (.ref b)])) rfl (hb hby d41_62)
    refine Go.by st47 ?_
    show Go _ _ _ _ T47 (mkF m 65 #[iv n37, iv (Int32.ofNat (xs.length + 3)), rv b, iv n37, iv n39, iv (Int32.ofNat (xs.length + 1)), iv 0] [(.ref d2), (.int (Int32.ofNat (xs.length + 1))), (.ref b)])
    refine Go.iload2 67 X47 hx (hb hby d41_65) rfl rfl ?_
    have F48 : Arv Z h44 d2 kd2 .byte (100 : Int32) own_tens (.int 0) := V_d2.ext F45.2
    obtain ⟨cl49, Ar49, -, S49, M49, H49, -⟩ := id F48
    have hin49 : ¬ (n39 < 0 ∨ cl49.slots.size ≤ n39.toNatClampNeg) := inb_of S49 ⟨u_nlt32 (by omega), u_lt32 (by omega)⟩
    refine Go.by (fun _ gk => X47.baloadBytes hx (j := n39) (v := (.int (Int32.ofNat (48 + n39.toNatClampNeg / 10)))) (by rw [e47]; exact Ar49.1) (State.isArrayOf_alike hZ.alike Ar49.2.1) Ar49.2.2 hin49 (Has.at H49 hin49 (own_tensD (show n39.toInt.toNat < 100 by omega))) (g := (mkF m 67 #[iv n37, iv (Int32.ofNat (xs.length + 3)), rv b, iv n37, iv n39, iv (Int32.ofNat (xs.length + 1)), iv 0] [(.int n39), (.ref d2), (.int (Int32.ofNat (xs.length + 1))), (.ref b)])) rfl rfl (hb hby d41_67) _ gk) ?_
    show Go _ _ _ _ T47 (mkF m 68 #[iv n37, iv (Int32.ofNat (xs.length + 3)), rv b, iv n37, iv n39, iv (Int32.ofNat (xs.length + 1)), iv 0] [(.int (Int32.ofNat (48 + n39.toNatClampNeg / 10))), (.int (Int32.ofNat (xs.length + 1))), (.ref b)])
    rw [(own_dgE (show n39.toInt.toNat / 10 = pv.toInt.toNat / 10 % 10 by omega) : (Int32.ofNat (48 + n39.toNatClampNeg / 10)) = own_dgt pv 10)]
    show Go _ _ _ _ T47 (mkF m 68 #[iv n37, iv (Int32.ofNat (xs.length + 3)), rv b, iv n37, iv n39, iv (Int32.ofNat (xs.length + 1)), iv 0] [(.int (own_dgt pv 10)), (.int (Int32.ofNat (xs.length + 1))), (.ref b)])
    obtain ⟨cl50, Ar50, q50, S50, M50, H50, G50⟩ := id V44
    have hin50 : ¬ ((Int32.ofNat (xs.length + 1)) < 0 ∨ cl50.slots.size ≤ (Int32.ofNat (xs.length + 1)).toNatClampNeg) := inb_of S50 ⟨own_ofnn (by omega), own_oflt (j := 16) (by omega) (by omega)⟩
    obtain ⟨T50, h50, X50, e50, W50, st50⟩ := stB X47 hx hZ e47 Ar50 (j := (Int32.ofNat (xs.length + 1))) hin50 (g := (mkF m 68 #[iv n37, iv (Int32.ofNat (xs.length + 3)), rv b, iv n37, iv n39, iv (Int32.ofNat (xs.length + 1)), iv 0] [(.int (own_dgt pv 10)), (.int (Int32.ofNat (xs.length + 1))), (.ref b)])) rfl rfl (hb hby d41_68)
    have N50 := Fr.snoc X50 N44 g_b
    have V50 : Arv Z h50 b kb .byte (16 : Int32) ((own_row xs 2 [(.int (own_dgt pv 1))]).set (xs.length + 1) (.int (nar .byte (own_dgt pv 10)))) (.int 0) := Arv.set Ar50 q50 S50 M50 H50 G50 (fits_nar_byte _) W50 (xs.length + 1) (own_ofn (by omega)) (by rw [own_row_len]; omega)
    refine Go.by st50 ?_
    show Go _ _ _ _ T50 (mkF m 69 #[iv n37, iv (Int32.ofNat (xs.length + 3)), rv b, iv n37, iv n39, iv (Int32.ofNat (xs.length + 1)), iv 0] [])
    rw [own_row_set, own_dgt_nb] at V50
    refine Go.goto 22 X50 hx (hb hby d41_69) (by decide) (by decide) ?_
    refine Go.iload1 23 X50 hx (hb hby d41_22) rfl rfl ?_
    refine Go.bipush 25 X50 hx (-100 : Int32) (hb hby d41_23) (by decide) rfl ?_
    refine Go.icmpY 72 X50 hx (hb hby d41_25) (XT.ii_gt_t (u_lt32 (by omega))) (by decide) (by decide) ?_
    refine Go.aload1 73 X50 hx (hb hby d41_72) rfl rfl rfl ?_
    refine Go.iinc 76 X50 hx (-1 : Int32) (L' := #[iv n37, iv (Int32.ofNat (xs.length + 3)), rv b, iv n37, iv n39, iv ((Int32.ofNat (xs.length + 1)) + (-1 : Int32)), iv 0]) (hb hby d41_73) (by decide) rfl rfl rfl ?_
    rw [show Int32.ofNat (xs.length + 1) + (-1 : Int32) = Int32.ofNat (xs.length + 0) from own_dec _]
    show Go _ _ _ _ T50 (mkF m 76 #[iv n37, iv (Int32.ofNat (xs.length + 3)), rv b, iv n37, iv n39, iv (Int32.ofNat (xs.length + 0)), iv 0] [(.ref b)])
    refine Go.iload2 78 X50 hx (hb hby d41_76) rfl rfl ?_
    have F51 : Old Z n0 h50 := F45.wr W50 g_b
    have F52 : Sta Z h50 "java/lang/Integer" "DigitOnes" "[B" (.ref d1) := S_d1.ext F51.2
    obtain ⟨T53, X53, e53, st53⟩ := getS2 X50 hx hZ hown (host := "") (Or.inl (ow hw 221 rfl)) Via.refl e50 F52 (g := (mkF m 78 #[iv n37, iv (Int32.ofNat (xs.length + 3)), rv b, iv n37, iv n39, iv (Int32.ofNat (xs.length + 0)), iv 0] [(.int (Int32.ofNat (xs.length + 0))), (.ref b)])) rfl (hb hby d41_78)
    refine Go.by st53 ?_
    show Go _ _ _ _ T53 (mkF m 81 #[iv n37, iv (Int32.ofNat (xs.length + 3)), rv b, iv n37, iv n39, iv (Int32.ofNat (xs.length + 0)), iv 0] [(.ref d1), (.int (Int32.ofNat (xs.length + 0))), (.ref b)])
    refine Go.iload1 82 X53 hx (hb hby d41_81) rfl rfl ?_
    refine Go.ineg 83 X53 hx (hb hby d41_82) rfl ?_
    obtain ⟨n54, h_n54⟩ : ∃ z, z = (-n37) := ⟨_, rfl⟩
    rw [← h_n54]
    show Go _ _ _ _ T53 (mkF m 83 #[iv n37, iv (Int32.ofNat (xs.length + 3)), rv b, iv n37, iv n39, iv (Int32.ofNat (xs.length + 0)), iv 0] [(.int n54), (.ref d1), (.int (Int32.ofNat (xs.length + 0))), (.ref b)])
    have e_n54 : n54.toInt = -n37.toInt := by rw [h_n54]; exact x_ineg (by omega)
    have F55 : Arv Z h50 d1 kd1 .byte (100 : Int32) own_ones (.int 0) := V_d1.ext F51.2
    obtain ⟨cl56, Ar56, -, S56, M56, H56, -⟩ := id F55
    have hin56 : ¬ (n54 < 0 ∨ cl56.slots.size ≤ n54.toNatClampNeg) := inb_of S56 ⟨u_nlt32 (by omega), u_lt32 (by omega)⟩
    refine Go.by (fun _ gk => X53.baloadBytes hx (j := n54) (v := (.int (Int32.ofNat (48 + n54.toNatClampNeg % 10)))) (by rw [e53]; exact Ar56.1) (State.isArrayOf_alike hZ.alike Ar56.2.1) Ar56.2.2 hin56 (Has.at H56 hin56 (own_onesD (show n54.toInt.toNat < 100 by omega))) (g := (mkF m 83 #[iv n37, iv (Int32.ofNat (xs.length + 3)), rv b, iv n37, iv n39, iv (Int32.ofNat (xs.length + 0)), iv 0] [(.int n54), (.ref d1), (.int (Int32.ofNat (xs.length + 0))), (.ref b)])) rfl rfl (hb hby d41_83) _ gk) ?_
    show Go _ _ _ _ T53 (mkF m 84 #[iv n37, iv (Int32.ofNat (xs.length + 3)), rv b, iv n37, iv n39, iv (Int32.ofNat (xs.length + 0)), iv 0] [(.int (Int32.ofNat (48 + n54.toNatClampNeg % 10))), (.int (Int32.ofNat (xs.length + 0))), (.ref b)])
    rw [(own_dgE (show n54.toInt.toNat % 10 = pv.toInt.toNat / 100 % 10 by omega) : (Int32.ofNat (48 + n54.toNatClampNeg % 10)) = own_dgt pv 100)]
    show Go _ _ _ _ T53 (mkF m 84 #[iv n37, iv (Int32.ofNat (xs.length + 3)), rv b, iv n37, iv n39, iv (Int32.ofNat (xs.length + 0)), iv 0] [(.int (own_dgt pv 100)), (.int (Int32.ofNat (xs.length + 0))), (.ref b)])
    obtain ⟨cl57, Ar57, q57, S57, M57, H57, G57⟩ := id V50
    have hin57 : ¬ ((Int32.ofNat (xs.length + 0)) < 0 ∨ cl57.slots.size ≤ (Int32.ofNat (xs.length + 0)).toNatClampNeg) := inb_of S57 ⟨own_ofnn (by omega), own_oflt (j := 16) (by omega) (by omega)⟩
    obtain ⟨T57, h57, X57, e57, W57, st57⟩ := stB X53 hx hZ e53 Ar57 (j := (Int32.ofNat (xs.length + 0))) hin57 (g := (mkF m 84 #[iv n37, iv (Int32.ofNat (xs.length + 3)), rv b, iv n37, iv n39, iv (Int32.ofNat (xs.length + 0)), iv 0] [(.int (own_dgt pv 100)), (.int (Int32.ofNat (xs.length + 0))), (.ref b)])) rfl rfl (hb hby d41_84)
    have N57 := Fr.snoc X57 N50 g_b
    have V57 : Arv Z h57 b kb .byte (16 : Int32) ((own_row xs 1 [(.int (own_dgt pv 10)), (.int (own_dgt pv 1))]).set (xs.length + 0) (.int (nar .byte (own_dgt pv 100)))) (.int 0) := Arv.set Ar57 q57 S57 M57 H57 G57 (fits_nar_byte _) W57 (xs.length + 0) (own_ofn (by omega)) (by rw [own_row_len]; omega)
    refine Go.by st57 ?_
    show Go _ _ _ _ T57 (mkF m 85 #[iv n37, iv (Int32.ofNat (xs.length + 3)), rv b, iv n37, iv n39, iv (Int32.ofNat (xs.length + 0)), iv 0] [])
    rw [own_row_set, own_dgt_nb] at V57
    refine Go.iload1 86 X57 hx (hb hby d41_85) rfl rfl ?_
    refine Go.bipush 88 X57 hx (-9 : Int32) (hb hby d41_86) (by decide) rfl ?_
    have li58 : (-9 : Int32).toInt = -9 := by decide
    refine Go.icmpY 104 X57 hx (hb hby d41_88) (XT.ii_ge_t (u_nlt32 (by omega))) (by decide) (by decide) ?_
    refine Go.iload2 106 X57 hx (hb hby d41_104) rfl rfl ?_
    refine Go.ifY 118 X57 hx (hb hby d41_106) (XT.i0_eq_t rfl) (by decide) (by decide) ?_
    refine Go.iload2 120 X57 hx (hb hby d41_118) rfl rfl ?_
    have Vf : Arv Z h57 b kb .byte (16 : Int32) (xs ++ own_dg pv) (.int 0) := by rw [hd]; exact V57
    have F59 : Keep h0 h44 [b] := (Keep.refl h0 [b]).wr W44 (Or.inl (List.mem_of_getElem? (i := 0) rfl))
    have F60 : Keep h0 h50 [b] := F59.wr W50 (Or.inl (List.mem_of_getElem? (i := 0) rfl))
    have F61 : Keep h0 h57 [b] := F60.wr W57 (Or.inl (List.mem_of_getElem? (i := 0) rfl))
    exact Go.retI X57 hx Bd.notSynchronized Bd.returns rfl (by simp) (hb hby d41_120) (by rw [e57]; exact ⟨rfl, N57, F61, Vf⟩) (by decide) (by decide)
  · have hd := own_dg_4 hs
    have hL : (xs ++ own_dg pv).length = xs.length + 4 := by rw [hd, List.length_append]; rfl
    rw [hL] at h16
    rw [hL]
    show Go _ _ _ _ s₁ (mkF m 0 #[iv pv, iv (Int32.ofNat (xs.length + 4)), rv b, un, un, un, un] [])
    have Vr : Arv Z h0 b kb .byte (16 : Int32) (own_row xs 4 []) (.int 0) := own_row_in 4 V_b
    have li62 : (0 : Int32).toInt = 0 := by decide
    have li63 : (100 : Int32).toInt = 100 := by decide
    refine Go.iload1 1 X0 hx (hb hby d41_0) rfl rfl ?_
    refine Go.istore2 3 X0 hx (L' := #[iv pv, iv (Int32.ofNat (xs.length + 4)), rv b, un, un, iv (Int32.ofNat (xs.length + 4)), un]) (hb hby d41_1) rfl rfl ?_
    refine Go.iload1 4 X0 hx (hb hby d41_3) rfl rfl ?_
    refine Go.ifY 11 X0 hx (hb hby d41_4) (XT.i0_ge_t (u_nlt32 (by omega))) (by decide) (by decide) ?_
    refine Go.iconst 12 X0 hx (0 : Int32) (hb hby d41_11) (by decide) rfl ?_
    refine Go.istore2 14 X0 hx (L' := #[iv pv, iv (Int32.ofNat (xs.length + 4)), rv b, un, un, iv (Int32.ofNat (xs.length + 4)), iv 0]) (hb hby d41_12) rfl rfl ?_
    refine Go.iload2 16 X0 hx (hb hby d41_14) rfl rfl ?_
    refine Go.ifN 19 X0 hx (hb hby d41_16) (XT.i0_ne_f rfl) rfl ?_
    refine Go.iload1 20 X0 hx (hb hby d41_19) rfl rfl ?_
    refine Go.ineg 21 X0 hx (hb hby d41_20) rfl ?_
    obtain ⟨n64, h_n64⟩ : ∃ z, z = (-pv) := ⟨_, rfl⟩
    rw [← h_n64]
    show Go _ _ _ _ s₁ (mkF m 21 #[iv pv, iv (Int32.ofNat (xs.length + 4)), rv b, un, un, iv (Int32.ofNat (xs.length + 4)), iv 0] [(.int n64)])
    have e_n64 : n64.toInt = -pv.toInt := by rw [h_n64]; exact x_ineg (by omega)
    refine Go.istore1 22 X0 hx (L' := #[iv n64, iv (Int32.ofNat (xs.length + 4)), rv b, un, un, iv (Int32.ofNat (xs.length + 4)), iv 0]) (hb hby d41_21) rfl rfl ?_
    refine Go.iload1 23 X0 hx (hb hby d41_22) rfl rfl ?_
    refine Go.bipush 25 X0 hx (-100 : Int32) (hb hby d41_23) (by decide) rfl ?_
    have li65 : (-100 : Int32).toInt = -100 := by decide
    refine Go.icmpN 28 X0 hx (hb hby d41_25) (XT.ii_gt_f (u_nlt32 (by omega))) rfl ?_
    refine Go.iload1 29 X0 hx (hb hby d41_28) rfl rfl ?_
    refine Go.bipush 31 X0 hx (100 : Int32) (hb hby d41_29) (by decide) rfl ?_
    refine Go.idiv 32 X0 hx (hb hby d41_31) (by decide) rfl ?_
    obtain ⟨n66, h_n66⟩ : ∃ z, z = (n64 / (100 : Int32)) := ⟨_, rfl⟩
    rw [← h_n66]
    show Go _ _ _ _ s₁ (mkF m 32 #[iv n64, iv (Int32.ofNat (xs.length + 4)), rv b, un, un, iv (Int32.ofNat (xs.length + 4)), iv 0] [(.int n66)])
    have e_n66 : (0 ≤ n64.toInt → n66.toInt = n64.toInt / 100) ∧ (n64.toInt < 0 → n66.toInt = -((-n64.toInt) / 100)) := by rw [h_n66]; exact x_idiv 100 (by decide) (by decide)
    refine Go.istore1 33 X0 hx (L' := #[iv n64, iv (Int32.ofNat (xs.length + 4)), rv b, iv n66, un, iv (Int32.ofNat (xs.length + 4)), iv 0]) (hb hby d41_32) rfl rfl ?_
    refine Go.iload1 34 X0 hx (hb hby d41_33) rfl rfl ?_
    refine Go.bipush 36 X0 hx (100 : Int32) (hb hby d41_34) (by decide) rfl ?_
    refine Go.imul 37 X0 hx (hb hby d41_36) rfl ?_
    obtain ⟨n67, h_n67⟩ : ∃ z, z = (n66 * (100 : Int32)) := ⟨_, rfl⟩
    rw [← h_n67]
    show Go _ _ _ _ s₁ (mkF m 37 #[iv n64, iv (Int32.ofNat (xs.length + 4)), rv b, iv n66, un, iv (Int32.ofNat (xs.length + 4)), iv 0] [(.int n67)])
    have e_n67 : n67.toInt = n66.toInt * 100 := by rw [h_n67]; exact x_imulR 100 (by decide) (by omega) (by omega)
    refine Go.iload1 38 X0 hx (hb hby d41_37) rfl rfl ?_
    refine Go.isub 39 X0 hx (hb hby d41_38) rfl ?_
    obtain ⟨n68, h_n68⟩ : ∃ z, z = (n67 - n64) := ⟨_, rfl⟩
    rw [← h_n68]
    show Go _ _ _ _ s₁ (mkF m 39 #[iv n64, iv (Int32.ofNat (xs.length + 4)), rv b, iv n66, un, iv (Int32.ofNat (xs.length + 4)), iv 0] [(.int n68)])
    have e_n68 : n68.toInt = n67.toInt - n64.toInt := by rw [h_n68]; exact x_isub (by omega) (by omega)
    refine Go.istore2 41 X0 hx (L' := #[iv n64, iv (Int32.ofNat (xs.length + 4)), rv b, iv n66, iv n68, iv (Int32.ofNat (xs.length + 4)), iv 0]) (hb hby d41_39) rfl rfl ?_
    refine Go.iload1 42 X0 hx (hb hby d41_41) rfl rfl ?_
    refine Go.istore1 43 X0 hx (L' := #[iv n66, iv (Int32.ofNat (xs.length + 4)), rv b, iv n66, iv n68, iv (Int32.ofNat (xs.length + 4)), iv 0]) (hb hby d41_42) rfl rfl ?_
    refine Go.aload1 44 X0 hx (hb hby d41_43) rfl rfl rfl ?_
    refine Go.iinc 47 X0 hx (-1 : Int32) (L' := #[iv n66, iv (Int32.ofNat (xs.length + 4)), rv b, iv n66, iv n68, iv ((Int32.ofNat (xs.length + 4)) + (-1 : Int32)), iv 0]) (hb hby d41_44) (by decide) rfl rfl rfl ?_
    rw [show Int32.ofNat (xs.length + 4) + (-1 : Int32) = Int32.ofNat (xs.length + 3) from own_dec _]
    show Go _ _ _ _ s₁ (mkF m 47 #[iv n66, iv (Int32.ofNat (xs.length + 4)), rv b, iv n66, iv n68, iv (Int32.ofNat (xs.length + 3)), iv 0] [(.ref b)])
    refine Go.iload2 49 X0 hx (hb hby d41_47) rfl rfl ?_
    have F69 : Sta Z h0 "java/lang/Integer" "DigitOnes" "[B" (.ref d1) := S_d1.ext O0.2
    obtain ⟨T70, X70, e70, st70⟩ := getS2 X0 hx hZ hown (host := "") (Or.inl (ow hw 221 rfl)) Via.refl e0 F69 (g := (mkF m 49 #[iv n66, iv (Int32.ofNat (xs.length + 4)), rv b, iv n66, iv n68, iv (Int32.ofNat (xs.length + 3)), iv 0] [(.int (Int32.ofNat (xs.length + 3))), (.ref b)])) rfl (hb hby d41_49)
    refine Go.by st70 ?_
    show Go _ _ _ _ T70 (mkF m 52 #[iv n66, iv (Int32.ofNat (xs.length + 4)), rv b, iv n66, iv n68, iv (Int32.ofNat (xs.length + 3)), iv 0] [(.ref d1), (.int (Int32.ofNat (xs.length + 3))), (.ref b)])
    refine Go.iload2 54 X70 hx (hb hby d41_52) rfl rfl ?_
    have F71 : Arv Z h0 d1 kd1 .byte (100 : Int32) own_ones (.int 0) := V_d1.ext O0.2
    obtain ⟨cl72, Ar72, -, S72, M72, H72, -⟩ := id F71
    have hin72 : ¬ (n68 < 0 ∨ cl72.slots.size ≤ n68.toNatClampNeg) := inb_of S72 ⟨u_nlt32 (by omega), u_lt32 (by omega)⟩
    refine Go.by (fun _ gk => X70.baloadBytes hx (j := n68) (v := (.int (Int32.ofNat (48 + n68.toNatClampNeg % 10)))) (by rw [e70]; exact Ar72.1) (State.isArrayOf_alike hZ.alike Ar72.2.1) Ar72.2.2 hin72 (Has.at H72 hin72 (own_onesD (show n68.toInt.toNat < 100 by omega))) (g := (mkF m 54 #[iv n66, iv (Int32.ofNat (xs.length + 4)), rv b, iv n66, iv n68, iv (Int32.ofNat (xs.length + 3)), iv 0] [(.int n68), (.ref d1), (.int (Int32.ofNat (xs.length + 3))), (.ref b)])) rfl rfl (hb hby d41_54) _ gk) ?_
    show Go _ _ _ _ T70 (mkF m 55 #[iv n66, iv (Int32.ofNat (xs.length + 4)), rv b, iv n66, iv n68, iv (Int32.ofNat (xs.length + 3)), iv 0] [(.int (Int32.ofNat (48 + n68.toNatClampNeg % 10))), (.int (Int32.ofNat (xs.length + 3))), (.ref b)])
    rw [(own_dgE (show n68.toInt.toNat % 10 = pv.toInt.toNat / 1 % 10 by omega) : (Int32.ofNat (48 + n68.toNatClampNeg % 10)) = own_dgt pv 1)]
    show Go _ _ _ _ T70 (mkF m 55 #[iv n66, iv (Int32.ofNat (xs.length + 4)), rv b, iv n66, iv n68, iv (Int32.ofNat (xs.length + 3)), iv 0] [(.int (own_dgt pv 1)), (.int (Int32.ofNat (xs.length + 3))), (.ref b)])
    obtain ⟨cl73, Ar73, q73, S73, M73, H73, G73⟩ := id Vr
    have hin73 : ¬ ((Int32.ofNat (xs.length + 3)) < 0 ∨ cl73.slots.size ≤ (Int32.ofNat (xs.length + 3)).toNatClampNeg) := inb_of S73 ⟨own_ofnn (by omega), own_oflt (j := 16) (by omega) (by omega)⟩
    obtain ⟨T73, h73, X73, e73, W73, st73⟩ := stB X70 hx hZ e70 Ar73 (j := (Int32.ofNat (xs.length + 3))) hin73 (g := (mkF m 55 #[iv n66, iv (Int32.ofNat (xs.length + 4)), rv b, iv n66, iv n68, iv (Int32.ofNat (xs.length + 3)), iv 0] [(.int (own_dgt pv 1)), (.int (Int32.ofNat (xs.length + 3))), (.ref b)])) rfl rfl (hb hby d41_55)
    have N73 := Fr.snoc X73 N0 g_b
    have V73 : Arv Z h73 b kb .byte (16 : Int32) ((own_row xs 4 []).set (xs.length + 3) (.int (nar .byte (own_dgt pv 1)))) (.int 0) := Arv.set Ar73 q73 S73 M73 H73 G73 (fits_nar_byte _) W73 (xs.length + 3) (own_ofn (by omega)) (by rw [own_row_len]; omega)
    refine Go.by st73 ?_
    show Go _ _ _ _ T73 (mkF m 56 #[iv n66, iv (Int32.ofNat (xs.length + 4)), rv b, iv n66, iv n68, iv (Int32.ofNat (xs.length + 3)), iv 0] [])
    rw [own_row_set, own_dgt_nb] at V73
    refine Go.aload1 57 X73 hx (hb hby d41_56) rfl rfl rfl ?_
    refine Go.iinc 60 X73 hx (-1 : Int32) (L' := #[iv n66, iv (Int32.ofNat (xs.length + 4)), rv b, iv n66, iv n68, iv ((Int32.ofNat (xs.length + 3)) + (-1 : Int32)), iv 0]) (hb hby d41_57) (by decide) rfl rfl rfl ?_
    rw [show Int32.ofNat (xs.length + 3) + (-1 : Int32) = Int32.ofNat (xs.length + 2) from own_dec _]
    show Go _ _ _ _ T73 (mkF m 60 #[iv n66, iv (Int32.ofNat (xs.length + 4)), rv b, iv n66, iv n68, iv (Int32.ofNat (xs.length + 2)), iv 0] [(.ref b)])
    refine Go.iload2 62 X73 hx (hb hby d41_60) rfl rfl ?_
    have F74 : Old Z n0 h73 := O0.wr W73 g_b
    have F75 : Sta Z h73 "java/lang/Integer" "DigitTens" "[B" (.ref d2) := S_d2.ext F74.2
    obtain ⟨T76, X76, e76, st76⟩ := getS2 X73 hx hZ hown (host := "") (Or.inl (ow hw 242 rfl)) Via.refl e73 F75 (g := (mkF m 62 #[iv n66, iv (Int32.ofNat (xs.length + 4)), rv b, iv n66, iv n68, iv (Int32.ofNat (xs.length + 2)), iv 0] [(.int (Int32.ofNat (xs.length + 2))), (.ref b)])) rfl (hb hby d41_62)
    refine Go.by st76 ?_
    show Go _ _ _ _ T76 (mkF m 65 #[iv n66, iv (Int32.ofNat (xs.length + 4)), rv b, iv n66, iv n68, iv (Int32.ofNat (xs.length + 2)), iv 0] [(.ref d2), (.int (Int32.ofNat (xs.length + 2))), (.ref b)])
    refine Go.iload2 67 X76 hx (hb hby d41_65) rfl rfl ?_
    have F77 : Arv Z h73 d2 kd2 .byte (100 : Int32) own_tens (.int 0) := V_d2.ext F74.2
    obtain ⟨cl78, Ar78, -, S78, M78, H78, -⟩ := id F77
    have hin78 : ¬ (n68 < 0 ∨ cl78.slots.size ≤ n68.toNatClampNeg) := inb_of S78 ⟨u_nlt32 (by omega), u_lt32 (by omega)⟩
    refine Go.by (fun _ gk => X76.baloadBytes hx (j := n68) (v := (.int (Int32.ofNat (48 + n68.toNatClampNeg / 10)))) (by rw [e76]; exact Ar78.1) (State.isArrayOf_alike hZ.alike Ar78.2.1) Ar78.2.2 hin78 (Has.at H78 hin78 (own_tensD (show n68.toInt.toNat < 100 by omega))) (g := (mkF m 67 #[iv n66, iv (Int32.ofNat (xs.length + 4)), rv b, iv n66, iv n68, iv (Int32.ofNat (xs.length + 2)), iv 0] [(.int n68), (.ref d2), (.int (Int32.ofNat (xs.length + 2))), (.ref b)])) rfl rfl (hb hby d41_67) _ gk) ?_
    show Go _ _ _ _ T76 (mkF m 68 #[iv n66, iv (Int32.ofNat (xs.length + 4)), rv b, iv n66, iv n68, iv (Int32.ofNat (xs.length + 2)), iv 0] [(.int (Int32.ofNat (48 + n68.toNatClampNeg / 10))), (.int (Int32.ofNat (xs.length + 2))), (.ref b)])
    rw [(own_dgE (show n68.toInt.toNat / 10 = pv.toInt.toNat / 10 % 10 by omega) : (Int32.ofNat (48 + n68.toNatClampNeg / 10)) = own_dgt pv 10)]
    show Go _ _ _ _ T76 (mkF m 68 #[iv n66, iv (Int32.ofNat (xs.length + 4)), rv b, iv n66, iv n68, iv (Int32.ofNat (xs.length + 2)), iv 0] [(.int (own_dgt pv 10)), (.int (Int32.ofNat (xs.length + 2))), (.ref b)])
    obtain ⟨cl79, Ar79, q79, S79, M79, H79, G79⟩ := id V73
    have hin79 : ¬ ((Int32.ofNat (xs.length + 2)) < 0 ∨ cl79.slots.size ≤ (Int32.ofNat (xs.length + 2)).toNatClampNeg) := inb_of S79 ⟨own_ofnn (by omega), own_oflt (j := 16) (by omega) (by omega)⟩
    obtain ⟨T79, h79, X79, e79, W79, st79⟩ := stB X76 hx hZ e76 Ar79 (j := (Int32.ofNat (xs.length + 2))) hin79 (g := (mkF m 68 #[iv n66, iv (Int32.ofNat (xs.length + 4)), rv b, iv n66, iv n68, iv (Int32.ofNat (xs.length + 2)), iv 0] [(.int (own_dgt pv 10)), (.int (Int32.ofNat (xs.length + 2))), (.ref b)])) rfl rfl (hb hby d41_68)
    have N79 := Fr.snoc X79 N73 g_b
    have V79 : Arv Z h79 b kb .byte (16 : Int32) ((own_row xs 3 [(.int (own_dgt pv 1))]).set (xs.length + 2) (.int (nar .byte (own_dgt pv 10)))) (.int 0) := Arv.set Ar79 q79 S79 M79 H79 G79 (fits_nar_byte _) W79 (xs.length + 2) (own_ofn (by omega)) (by rw [own_row_len]; omega)
    refine Go.by st79 ?_
    show Go _ _ _ _ T79 (mkF m 69 #[iv n66, iv (Int32.ofNat (xs.length + 4)), rv b, iv n66, iv n68, iv (Int32.ofNat (xs.length + 2)), iv 0] [])
    rw [own_row_set, own_dgt_nb] at V79
    refine Go.goto 22 X79 hx (hb hby d41_69) (by decide) (by decide) ?_
    refine Go.iload1 23 X79 hx (hb hby d41_22) rfl rfl ?_
    refine Go.bipush 25 X79 hx (-100 : Int32) (hb hby d41_23) (by decide) rfl ?_
    refine Go.icmpY 72 X79 hx (hb hby d41_25) (XT.ii_gt_t (u_lt32 (by omega))) (by decide) (by decide) ?_
    refine Go.aload1 73 X79 hx (hb hby d41_72) rfl rfl rfl ?_
    refine Go.iinc 76 X79 hx (-1 : Int32) (L' := #[iv n66, iv (Int32.ofNat (xs.length + 4)), rv b, iv n66, iv n68, iv ((Int32.ofNat (xs.length + 2)) + (-1 : Int32)), iv 0]) (hb hby d41_73) (by decide) rfl rfl rfl ?_
    rw [show Int32.ofNat (xs.length + 2) + (-1 : Int32) = Int32.ofNat (xs.length + 1) from own_dec _]
    show Go _ _ _ _ T79 (mkF m 76 #[iv n66, iv (Int32.ofNat (xs.length + 4)), rv b, iv n66, iv n68, iv (Int32.ofNat (xs.length + 1)), iv 0] [(.ref b)])
    refine Go.iload2 78 X79 hx (hb hby d41_76) rfl rfl ?_
    have F80 : Old Z n0 h79 := F74.wr W79 g_b
    have F81 : Sta Z h79 "java/lang/Integer" "DigitOnes" "[B" (.ref d1) := S_d1.ext F80.2
    obtain ⟨T82, X82, e82, st82⟩ := getS2 X79 hx hZ hown (host := "") (Or.inl (ow hw 221 rfl)) Via.refl e79 F81 (g := (mkF m 78 #[iv n66, iv (Int32.ofNat (xs.length + 4)), rv b, iv n66, iv n68, iv (Int32.ofNat (xs.length + 1)), iv 0] [(.int (Int32.ofNat (xs.length + 1))), (.ref b)])) rfl (hb hby d41_78)
    refine Go.by st82 ?_
    show Go _ _ _ _ T82 (mkF m 81 #[iv n66, iv (Int32.ofNat (xs.length + 4)), rv b, iv n66, iv n68, iv (Int32.ofNat (xs.length + 1)), iv 0] [(.ref d1), (.int (Int32.ofNat (xs.length + 1))), (.ref b)])
    refine Go.iload1 82 X82 hx (hb hby d41_81) rfl rfl ?_
    refine Go.ineg 83 X82 hx (hb hby d41_82) rfl ?_
    obtain ⟨n83, h_n83⟩ : ∃ z, z = (-n66) := ⟨_, rfl⟩
    rw [← h_n83]
    show Go _ _ _ _ T82 (mkF m 83 #[iv n66, iv (Int32.ofNat (xs.length + 4)), rv b, iv n66, iv n68, iv (Int32.ofNat (xs.length + 1)), iv 0] [(.int n83), (.ref d1), (.int (Int32.ofNat (xs.length + 1))), (.ref b)])
    have e_n83 : n83.toInt = -n66.toInt := by rw [h_n83]; exact x_ineg (by omega)
    have F84 : Arv Z h79 d1 kd1 .byte (100 : Int32) own_ones (.int 0) := V_d1.ext F80.2
    obtain ⟨cl85, Ar85, -, S85, M85, H85, -⟩ := id F84
    have hin85 : ¬ (n83 < 0 ∨ cl85.slots.size ≤ n83.toNatClampNeg) := inb_of S85 ⟨u_nlt32 (by omega), u_lt32 (by omega)⟩
    refine Go.by (fun _ gk => X82.baloadBytes hx (j := n83) (v := (.int (Int32.ofNat (48 + n83.toNatClampNeg % 10)))) (by rw [e82]; exact Ar85.1) (State.isArrayOf_alike hZ.alike Ar85.2.1) Ar85.2.2 hin85 (Has.at H85 hin85 (own_onesD (show n83.toInt.toNat < 100 by omega))) (g := (mkF m 83 #[iv n66, iv (Int32.ofNat (xs.length + 4)), rv b, iv n66, iv n68, iv (Int32.ofNat (xs.length + 1)), iv 0] [(.int n83), (.ref d1), (.int (Int32.ofNat (xs.length + 1))), (.ref b)])) rfl rfl (hb hby d41_83) _ gk) ?_
    show Go _ _ _ _ T82 (mkF m 84 #[iv n66, iv (Int32.ofNat (xs.length + 4)), rv b, iv n66, iv n68, iv (Int32.ofNat (xs.length + 1)), iv 0] [(.int (Int32.ofNat (48 + n83.toNatClampNeg % 10))), (.int (Int32.ofNat (xs.length + 1))), (.ref b)])
    rw [(own_dgE (show n83.toInt.toNat % 10 = pv.toInt.toNat / 100 % 10 by omega) : (Int32.ofNat (48 + n83.toNatClampNeg % 10)) = own_dgt pv 100)]
    show Go _ _ _ _ T82 (mkF m 84 #[iv n66, iv (Int32.ofNat (xs.length + 4)), rv b, iv n66, iv n68, iv (Int32.ofNat (xs.length + 1)), iv 0] [(.int (own_dgt pv 100)), (.int (Int32.ofNat (xs.length + 1))), (.ref b)])
    obtain ⟨cl86, Ar86, q86, S86, M86, H86, G86⟩ := id V79
    have hin86 : ¬ ((Int32.ofNat (xs.length + 1)) < 0 ∨ cl86.slots.size ≤ (Int32.ofNat (xs.length + 1)).toNatClampNeg) := inb_of S86 ⟨own_ofnn (by omega), own_oflt (j := 16) (by omega) (by omega)⟩
    obtain ⟨T86, h86, X86, e86, W86, st86⟩ := stB X82 hx hZ e82 Ar86 (j := (Int32.ofNat (xs.length + 1))) hin86 (g := (mkF m 84 #[iv n66, iv (Int32.ofNat (xs.length + 4)), rv b, iv n66, iv n68, iv (Int32.ofNat (xs.length + 1)), iv 0] [(.int (own_dgt pv 100)), (.int (Int32.ofNat (xs.length + 1))), (.ref b)])) rfl rfl (hb hby d41_84)
    have N86 := Fr.snoc X86 N79 g_b
    have V86 : Arv Z h86 b kb .byte (16 : Int32) ((own_row xs 2 [(.int (own_dgt pv 10)), (.int (own_dgt pv 1))]).set (xs.length + 1) (.int (nar .byte (own_dgt pv 100)))) (.int 0) := Arv.set Ar86 q86 S86 M86 H86 G86 (fits_nar_byte _) W86 (xs.length + 1) (own_ofn (by omega)) (by rw [own_row_len]; omega)
    refine Go.by st86 ?_
    show Go _ _ _ _ T86 (mkF m 85 #[iv n66, iv (Int32.ofNat (xs.length + 4)), rv b, iv n66, iv n68, iv (Int32.ofNat (xs.length + 1)), iv 0] [])
    rw [own_row_set, own_dgt_nb] at V86
    refine Go.iload1 86 X86 hx (hb hby d41_85) rfl rfl ?_
    refine Go.bipush 88 X86 hx (-9 : Int32) (hb hby d41_86) (by decide) rfl ?_
    have li87 : (-9 : Int32).toInt = -9 := by decide
    refine Go.icmpN 91 X86 hx (hb hby d41_88) (XT.ii_ge_f (u_lt32 (by omega))) rfl ?_
    refine Go.aload1 92 X86 hx (hb hby d41_91) rfl rfl rfl ?_
    refine Go.iinc 95 X86 hx (-1 : Int32) (L' := #[iv n66, iv (Int32.ofNat (xs.length + 4)), rv b, iv n66, iv n68, iv ((Int32.ofNat (xs.length + 1)) + (-1 : Int32)), iv 0]) (hb hby d41_92) (by decide) rfl rfl rfl ?_
    rw [show Int32.ofNat (xs.length + 1) + (-1 : Int32) = Int32.ofNat (xs.length + 0) from own_dec _]
    show Go _ _ _ _ T86 (mkF m 95 #[iv n66, iv (Int32.ofNat (xs.length + 4)), rv b, iv n66, iv n68, iv (Int32.ofNat (xs.length + 0)), iv 0] [(.ref b)])
    refine Go.iload2 97 X86 hx (hb hby d41_95) rfl rfl ?_
    have F88 : Old Z n0 h86 := F80.wr W86 g_b
    have F89 : Sta Z h86 "java/lang/Integer" "DigitTens" "[B" (.ref d2) := S_d2.ext F88.2
    obtain ⟨T90, X90, e90, st90⟩ := getS2 X86 hx hZ hown (host := "") (Or.inl (ow hw 242 rfl)) Via.refl e86 F89 (g := (mkF m 97 #[iv n66, iv (Int32.ofNat (xs.length + 4)), rv b, iv n66, iv n68, iv (Int32.ofNat (xs.length + 0)), iv 0] [(.int (Int32.ofNat (xs.length + 0))), (.ref b)])) rfl (hb hby d41_97)
    refine Go.by st90 ?_
    show Go _ _ _ _ T90 (mkF m 100 #[iv n66, iv (Int32.ofNat (xs.length + 4)), rv b, iv n66, iv n68, iv (Int32.ofNat (xs.length + 0)), iv 0] [(.ref d2), (.int (Int32.ofNat (xs.length + 0))), (.ref b)])
    refine Go.iload1 101 X90 hx (hb hby d41_100) rfl rfl ?_
    refine Go.ineg 102 X90 hx (hb hby d41_101) rfl ?_
    obtain ⟨n91, h_n91⟩ : ∃ z, z = (-n66) := ⟨_, rfl⟩
    rw [← h_n91]
    show Go _ _ _ _ T90 (mkF m 102 #[iv n66, iv (Int32.ofNat (xs.length + 4)), rv b, iv n66, iv n68, iv (Int32.ofNat (xs.length + 0)), iv 0] [(.int n91), (.ref d2), (.int (Int32.ofNat (xs.length + 0))), (.ref b)])
    have e_n91 : n91.toInt = -n66.toInt := by rw [h_n91]; exact x_ineg (by omega)
    have F92 : Arv Z h86 d2 kd2 .byte (100 : Int32) own_tens (.int 0) := V_d2.ext F88.2
    obtain ⟨cl93, Ar93, -, S93, M93, H93, -⟩ := id F92
    have hin93 : ¬ (n91 < 0 ∨ cl93.slots.size ≤ n91.toNatClampNeg) := inb_of S93 ⟨u_nlt32 (by omega), u_lt32 (by omega)⟩
    refine Go.by (fun _ gk => X90.baloadBytes hx (j := n91) (v := (.int (Int32.ofNat (48 + n91.toNatClampNeg / 10)))) (by rw [e90]; exact Ar93.1) (State.isArrayOf_alike hZ.alike Ar93.2.1) Ar93.2.2 hin93 (Has.at H93 hin93 (own_tensD (show n91.toInt.toNat < 100 by omega))) (g := (mkF m 102 #[iv n66, iv (Int32.ofNat (xs.length + 4)), rv b, iv n66, iv n68, iv (Int32.ofNat (xs.length + 0)), iv 0] [(.int n91), (.ref d2), (.int (Int32.ofNat (xs.length + 0))), (.ref b)])) rfl rfl (hb hby d41_102) _ gk) ?_
    show Go _ _ _ _ T90 (mkF m 103 #[iv n66, iv (Int32.ofNat (xs.length + 4)), rv b, iv n66, iv n68, iv (Int32.ofNat (xs.length + 0)), iv 0] [(.int (Int32.ofNat (48 + n91.toNatClampNeg / 10))), (.int (Int32.ofNat (xs.length + 0))), (.ref b)])
    rw [(own_dgE (show n91.toInt.toNat / 10 = pv.toInt.toNat / 1000 % 10 by omega) : (Int32.ofNat (48 + n91.toNatClampNeg / 10)) = own_dgt pv 1000)]
    show Go _ _ _ _ T90 (mkF m 103 #[iv n66, iv (Int32.ofNat (xs.length + 4)), rv b, iv n66, iv n68, iv (Int32.ofNat (xs.length + 0)), iv 0] [(.int (own_dgt pv 1000)), (.int (Int32.ofNat (xs.length + 0))), (.ref b)])
    obtain ⟨cl94, Ar94, q94, S94, M94, H94, G94⟩ := id V86
    have hin94 : ¬ ((Int32.ofNat (xs.length + 0)) < 0 ∨ cl94.slots.size ≤ (Int32.ofNat (xs.length + 0)).toNatClampNeg) := inb_of S94 ⟨own_ofnn (by omega), own_oflt (j := 16) (by omega) (by omega)⟩
    obtain ⟨T94, h94, X94, e94, W94, st94⟩ := stB X90 hx hZ e90 Ar94 (j := (Int32.ofNat (xs.length + 0))) hin94 (g := (mkF m 103 #[iv n66, iv (Int32.ofNat (xs.length + 4)), rv b, iv n66, iv n68, iv (Int32.ofNat (xs.length + 0)), iv 0] [(.int (own_dgt pv 1000)), (.int (Int32.ofNat (xs.length + 0))), (.ref b)])) rfl rfl (hb hby d41_103)
    have N94 := Fr.snoc X94 N86 g_b
    have V94 : Arv Z h94 b kb .byte (16 : Int32) ((own_row xs 1 [(.int (own_dgt pv 100)), (.int (own_dgt pv 10)), (.int (own_dgt pv 1))]).set (xs.length + 0) (.int (nar .byte (own_dgt pv 1000)))) (.int 0) := Arv.set Ar94 q94 S94 M94 H94 G94 (fits_nar_byte _) W94 (xs.length + 0) (own_ofn (by omega)) (by rw [own_row_len]; omega)
    refine Go.by st94 ?_
    show Go _ _ _ _ T94 (mkF m 104 #[iv n66, iv (Int32.ofNat (xs.length + 4)), rv b, iv n66, iv n68, iv (Int32.ofNat (xs.length + 0)), iv 0] [])
    rw [own_row_set, own_dgt_nb] at V94
    refine Go.iload2 106 X94 hx (hb hby d41_104) rfl rfl ?_
    refine Go.ifY 118 X94 hx (hb hby d41_106) (XT.i0_eq_t rfl) (by decide) (by decide) ?_
    refine Go.iload2 120 X94 hx (hb hby d41_118) rfl rfl ?_
    have Vf : Arv Z h94 b kb .byte (16 : Int32) (xs ++ own_dg pv) (.int 0) := by rw [hd]; exact V94
    have F95 : Keep h0 h73 [b] := (Keep.refl h0 [b]).wr W73 (Or.inl (List.mem_of_getElem? (i := 0) rfl))
    have F96 : Keep h0 h79 [b] := F95.wr W79 (Or.inl (List.mem_of_getElem? (i := 0) rfl))
    have F97 : Keep h0 h86 [b] := F96.wr W86 (Or.inl (List.mem_of_getElem? (i := 0) rfl))
    have F98 : Keep h0 h94 [b] := F97.wr W94 (Or.inl (List.mem_of_getElem? (i := 0) rfl))
    exact Go.retI X94 hx Bd.notSynchronized Bd.returns rfl (by simp) (hb hby d41_120) (by rw [e94]; exact ⟨rfl, N94, F98, Vf⟩) (by decide) (by decide)
  · have hd := own_dg_5 hs
    have hL : (xs ++ own_dg pv).length = xs.length + 5 := by rw [hd, List.length_append]; rfl
    rw [hL] at h16
    rw [hL]
    show Go _ _ _ _ s₁ (mkF m 0 #[iv pv, iv (Int32.ofNat (xs.length + 5)), rv b, un, un, un, un] [])
    have Vr : Arv Z h0 b kb .byte (16 : Int32) (own_row xs 5 []) (.int 0) := own_row_in 5 V_b
    have li99 : (0 : Int32).toInt = 0 := by decide
    have li100 : (100 : Int32).toInt = 100 := by decide
    refine Go.iload1 1 X0 hx (hb hby d41_0) rfl rfl ?_
    refine Go.istore2 3 X0 hx (L' := #[iv pv, iv (Int32.ofNat (xs.length + 5)), rv b, un, un, iv (Int32.ofNat (xs.length + 5)), un]) (hb hby d41_1) rfl rfl ?_
    refine Go.iload1 4 X0 hx (hb hby d41_3) rfl rfl ?_
    refine Go.ifY 11 X0 hx (hb hby d41_4) (XT.i0_ge_t (u_nlt32 (by omega))) (by decide) (by decide) ?_
    refine Go.iconst 12 X0 hx (0 : Int32) (hb hby d41_11) (by decide) rfl ?_
    refine Go.istore2 14 X0 hx (L' := #[iv pv, iv (Int32.ofNat (xs.length + 5)), rv b, un, un, iv (Int32.ofNat (xs.length + 5)), iv 0]) (hb hby d41_12) rfl rfl ?_
    refine Go.iload2 16 X0 hx (hb hby d41_14) rfl rfl ?_
    refine Go.ifN 19 X0 hx (hb hby d41_16) (XT.i0_ne_f rfl) rfl ?_
    refine Go.iload1 20 X0 hx (hb hby d41_19) rfl rfl ?_
    refine Go.ineg 21 X0 hx (hb hby d41_20) rfl ?_
    obtain ⟨n101, h_n101⟩ : ∃ z, z = (-pv) := ⟨_, rfl⟩
    rw [← h_n101]
    show Go _ _ _ _ s₁ (mkF m 21 #[iv pv, iv (Int32.ofNat (xs.length + 5)), rv b, un, un, iv (Int32.ofNat (xs.length + 5)), iv 0] [(.int n101)])
    have e_n101 : n101.toInt = -pv.toInt := by rw [h_n101]; exact x_ineg (by omega)
    refine Go.istore1 22 X0 hx (L' := #[iv n101, iv (Int32.ofNat (xs.length + 5)), rv b, un, un, iv (Int32.ofNat (xs.length + 5)), iv 0]) (hb hby d41_21) rfl rfl ?_
    refine Go.iload1 23 X0 hx (hb hby d41_22) rfl rfl ?_
    refine Go.bipush 25 X0 hx (-100 : Int32) (hb hby d41_23) (by decide) rfl ?_
    have li102 : (-100 : Int32).toInt = -100 := by decide
    refine Go.icmpN 28 X0 hx (hb hby d41_25) (XT.ii_gt_f (u_nlt32 (by omega))) rfl ?_
    refine Go.iload1 29 X0 hx (hb hby d41_28) rfl rfl ?_
    refine Go.bipush 31 X0 hx (100 : Int32) (hb hby d41_29) (by decide) rfl ?_
    refine Go.idiv 32 X0 hx (hb hby d41_31) (by decide) rfl ?_
    obtain ⟨n103, h_n103⟩ : ∃ z, z = (n101 / (100 : Int32)) := ⟨_, rfl⟩
    rw [← h_n103]
    show Go _ _ _ _ s₁ (mkF m 32 #[iv n101, iv (Int32.ofNat (xs.length + 5)), rv b, un, un, iv (Int32.ofNat (xs.length + 5)), iv 0] [(.int n103)])
    have e_n103 : (0 ≤ n101.toInt → n103.toInt = n101.toInt / 100) ∧ (n101.toInt < 0 → n103.toInt = -((-n101.toInt) / 100)) := by rw [h_n103]; exact x_idiv 100 (by decide) (by decide)
    refine Go.istore1 33 X0 hx (L' := #[iv n101, iv (Int32.ofNat (xs.length + 5)), rv b, iv n103, un, iv (Int32.ofNat (xs.length + 5)), iv 0]) (hb hby d41_32) rfl rfl ?_
    refine Go.iload1 34 X0 hx (hb hby d41_33) rfl rfl ?_
    refine Go.bipush 36 X0 hx (100 : Int32) (hb hby d41_34) (by decide) rfl ?_
    refine Go.imul 37 X0 hx (hb hby d41_36) rfl ?_
    obtain ⟨n104, h_n104⟩ : ∃ z, z = (n103 * (100 : Int32)) := ⟨_, rfl⟩
    rw [← h_n104]
    show Go _ _ _ _ s₁ (mkF m 37 #[iv n101, iv (Int32.ofNat (xs.length + 5)), rv b, iv n103, un, iv (Int32.ofNat (xs.length + 5)), iv 0] [(.int n104)])
    have e_n104 : n104.toInt = n103.toInt * 100 := by rw [h_n104]; exact x_imulR 100 (by decide) (by omega) (by omega)
    refine Go.iload1 38 X0 hx (hb hby d41_37) rfl rfl ?_
    refine Go.isub 39 X0 hx (hb hby d41_38) rfl ?_
    obtain ⟨n105, h_n105⟩ : ∃ z, z = (n104 - n101) := ⟨_, rfl⟩
    rw [← h_n105]
    show Go _ _ _ _ s₁ (mkF m 39 #[iv n101, iv (Int32.ofNat (xs.length + 5)), rv b, iv n103, un, iv (Int32.ofNat (xs.length + 5)), iv 0] [(.int n105)])
    have e_n105 : n105.toInt = n104.toInt - n101.toInt := by rw [h_n105]; exact x_isub (by omega) (by omega)
    refine Go.istore2 41 X0 hx (L' := #[iv n101, iv (Int32.ofNat (xs.length + 5)), rv b, iv n103, iv n105, iv (Int32.ofNat (xs.length + 5)), iv 0]) (hb hby d41_39) rfl rfl ?_
    refine Go.iload1 42 X0 hx (hb hby d41_41) rfl rfl ?_
    refine Go.istore1 43 X0 hx (L' := #[iv n103, iv (Int32.ofNat (xs.length + 5)), rv b, iv n103, iv n105, iv (Int32.ofNat (xs.length + 5)), iv 0]) (hb hby d41_42) rfl rfl ?_
    refine Go.aload1 44 X0 hx (hb hby d41_43) rfl rfl rfl ?_
    refine Go.iinc 47 X0 hx (-1 : Int32) (L' := #[iv n103, iv (Int32.ofNat (xs.length + 5)), rv b, iv n103, iv n105, iv ((Int32.ofNat (xs.length + 5)) + (-1 : Int32)), iv 0]) (hb hby d41_44) (by decide) rfl rfl rfl ?_
    rw [show Int32.ofNat (xs.length + 5) + (-1 : Int32) = Int32.ofNat (xs.length + 4) from own_dec _]
    show Go _ _ _ _ s₁ (mkF m 47 #[iv n103, iv (Int32.ofNat (xs.length + 5)), rv b, iv n103, iv n105, iv (Int32.ofNat (xs.length + 4)), iv 0] [(.ref b)])
    refine Go.iload2 49 X0 hx (hb hby d41_47) rfl rfl ?_
    have F106 : Sta Z h0 "java/lang/Integer" "DigitOnes" "[B" (.ref d1) := S_d1.ext O0.2
    obtain ⟨T107, X107, e107, st107⟩ := getS2 X0 hx hZ hown (host := "") (Or.inl (ow hw 221 rfl)) Via.refl e0 F106 (g := (mkF m 49 #[iv n103, iv (Int32.ofNat (xs.length + 5)), rv b, iv n103, iv n105, iv (Int32.ofNat (xs.length + 4)), iv 0] [(.int (Int32.ofNat (xs.length + 4))), (.ref b)])) rfl (hb hby d41_49)
    refine Go.by st107 ?_
    show Go _ _ _ _ T107 (mkF m 52 #[iv n103, iv (Int32.ofNat (xs.length + 5)), rv b, iv n103, iv n105, iv (Int32.ofNat (xs.length + 4)), iv 0] [(.ref d1), (.int (Int32.ofNat (xs.length + 4))), (.ref b)])
    refine Go.iload2 54 X107 hx (hb hby d41_52) rfl rfl ?_
    have F108 : Arv Z h0 d1 kd1 .byte (100 : Int32) own_ones (.int 0) := V_d1.ext O0.2
    obtain ⟨cl109, Ar109, -, S109, M109, H109, -⟩ := id F108
    have hin109 : ¬ (n105 < 0 ∨ cl109.slots.size ≤ n105.toNatClampNeg) := inb_of S109 ⟨u_nlt32 (by omega), u_lt32 (by omega)⟩
    refine Go.by (fun _ gk => X107.baloadBytes hx (j := n105) (v := (.int (Int32.ofNat (48 + n105.toNatClampNeg % 10)))) (by rw [e107]; exact Ar109.1) (State.isArrayOf_alike hZ.alike Ar109.2.1) Ar109.2.2 hin109 (Has.at H109 hin109 (own_onesD (show n105.toInt.toNat < 100 by omega))) (g := (mkF m 54 #[iv n103, iv (Int32.ofNat (xs.length + 5)), rv b, iv n103, iv n105, iv (Int32.ofNat (xs.length + 4)), iv 0] [(.int n105), (.ref d1), (.int (Int32.ofNat (xs.length + 4))), (.ref b)])) rfl rfl (hb hby d41_54) _ gk) ?_
    show Go _ _ _ _ T107 (mkF m 55 #[iv n103, iv (Int32.ofNat (xs.length + 5)), rv b, iv n103, iv n105, iv (Int32.ofNat (xs.length + 4)), iv 0] [(.int (Int32.ofNat (48 + n105.toNatClampNeg % 10))), (.int (Int32.ofNat (xs.length + 4))), (.ref b)])
    rw [(own_dgE (show n105.toInt.toNat % 10 = pv.toInt.toNat / 1 % 10 by omega) : (Int32.ofNat (48 + n105.toNatClampNeg % 10)) = own_dgt pv 1)]
    show Go _ _ _ _ T107 (mkF m 55 #[iv n103, iv (Int32.ofNat (xs.length + 5)), rv b, iv n103, iv n105, iv (Int32.ofNat (xs.length + 4)), iv 0] [(.int (own_dgt pv 1)), (.int (Int32.ofNat (xs.length + 4))), (.ref b)])
    obtain ⟨cl110, Ar110, q110, S110, M110, H110, G110⟩ := id Vr
    have hin110 : ¬ ((Int32.ofNat (xs.length + 4)) < 0 ∨ cl110.slots.size ≤ (Int32.ofNat (xs.length + 4)).toNatClampNeg) := inb_of S110 ⟨own_ofnn (by omega), own_oflt (j := 16) (by omega) (by omega)⟩
    obtain ⟨T110, h110, X110, e110, W110, st110⟩ := stB X107 hx hZ e107 Ar110 (j := (Int32.ofNat (xs.length + 4))) hin110 (g := (mkF m 55 #[iv n103, iv (Int32.ofNat (xs.length + 5)), rv b, iv n103, iv n105, iv (Int32.ofNat (xs.length + 4)), iv 0] [(.int (own_dgt pv 1)), (.int (Int32.ofNat (xs.length + 4))), (.ref b)])) rfl rfl (hb hby d41_55)
    have N110 := Fr.snoc X110 N0 g_b
    have V110 : Arv Z h110 b kb .byte (16 : Int32) ((own_row xs 5 []).set (xs.length + 4) (.int (nar .byte (own_dgt pv 1)))) (.int 0) := Arv.set Ar110 q110 S110 M110 H110 G110 (fits_nar_byte _) W110 (xs.length + 4) (own_ofn (by omega)) (by rw [own_row_len]; omega)
    refine Go.by st110 ?_
    show Go _ _ _ _ T110 (mkF m 56 #[iv n103, iv (Int32.ofNat (xs.length + 5)), rv b, iv n103, iv n105, iv (Int32.ofNat (xs.length + 4)), iv 0] [])
    rw [own_row_set, own_dgt_nb] at V110
    refine Go.aload1 57 X110 hx (hb hby d41_56) rfl rfl rfl ?_
    refine Go.iinc 60 X110 hx (-1 : Int32) (L' := #[iv n103, iv (Int32.ofNat (xs.length + 5)), rv b, iv n103, iv n105, iv ((Int32.ofNat (xs.length + 4)) + (-1 : Int32)), iv 0]) (hb hby d41_57) (by decide) rfl rfl rfl ?_
    rw [show Int32.ofNat (xs.length + 4) + (-1 : Int32) = Int32.ofNat (xs.length + 3) from own_dec _]
    show Go _ _ _ _ T110 (mkF m 60 #[iv n103, iv (Int32.ofNat (xs.length + 5)), rv b, iv n103, iv n105, iv (Int32.ofNat (xs.length + 3)), iv 0] [(.ref b)])
    refine Go.iload2 62 X110 hx (hb hby d41_60) rfl rfl ?_
    have F111 : Old Z n0 h110 := O0.wr W110 g_b
    have F112 : Sta Z h110 "java/lang/Integer" "DigitTens" "[B" (.ref d2) := S_d2.ext F111.2
    obtain ⟨T113, X113, e113, st113⟩ := getS2 X110 hx hZ hown (host := "") (Or.inl (ow hw 242 rfl)) Via.refl e110 F112 (g := (mkF m 62 #[iv n103, iv (Int32.ofNat (xs.length + 5)), rv b, iv n103, iv n105, iv (Int32.ofNat (xs.length + 3)), iv 0] [(.int (Int32.ofNat (xs.length + 3))), (.ref b)])) rfl (hb hby d41_62)
    refine Go.by st113 ?_
    show Go _ _ _ _ T113 (mkF m 65 #[iv n103, iv (Int32.ofNat (xs.length + 5)), rv b, iv n103, iv n105, iv (Int32.ofNat (xs.length + 3)), iv 0] [(.ref d2), (.int (Int32.ofNat (xs.length + 3))), (.ref b)])
    refine Go.iload2 67 X113 hx (hb hby d41_65) rfl rfl ?_
    have F114 : Arv Z h110 d2 kd2 .byte (100 : Int32) own_tens (.int 0) := V_d2.ext F111.2
    obtain ⟨cl115, Ar115, -, S115, M115, H115, -⟩ := id F114
    have hin115 : ¬ (n105 < 0 ∨ cl115.slots.size ≤ n105.toNatClampNeg) := inb_of S115 ⟨u_nlt32 (by omega), u_lt32 (by omega)⟩
    refine Go.by (fun _ gk => X113.baloadBytes hx (j := n105) (v := (.int (Int32.ofNat (48 + n105.toNatClampNeg / 10)))) (by rw [e113]; exact Ar115.1) (State.isArrayOf_alike hZ.alike Ar115.2.1) Ar115.2.2 hin115 (Has.at H115 hin115 (own_tensD (show n105.toInt.toNat < 100 by omega))) (g := (mkF m 67 #[iv n103, iv (Int32.ofNat (xs.length + 5)), rv b, iv n103, iv n105, iv (Int32.ofNat (xs.length + 3)), iv 0] [(.int n105), (.ref d2), (.int (Int32.ofNat (xs.length + 3))), (.ref b)])) rfl rfl (hb hby d41_67) _ gk) ?_
    show Go _ _ _ _ T113 (mkF m 68 #[iv n103, iv (Int32.ofNat (xs.length + 5)), rv b, iv n103, iv n105, iv (Int32.ofNat (xs.length + 3)), iv 0] [(.int (Int32.ofNat (48 + n105.toNatClampNeg / 10))), (.int (Int32.ofNat (xs.length + 3))), (.ref b)])
    rw [(own_dgE (show n105.toInt.toNat / 10 = pv.toInt.toNat / 10 % 10 by omega) : (Int32.ofNat (48 + n105.toNatClampNeg / 10)) = own_dgt pv 10)]
    show Go _ _ _ _ T113 (mkF m 68 #[iv n103, iv (Int32.ofNat (xs.length + 5)), rv b, iv n103, iv n105, iv (Int32.ofNat (xs.length + 3)), iv 0] [(.int (own_dgt pv 10)), (.int (Int32.ofNat (xs.length + 3))), (.ref b)])
    obtain ⟨cl116, Ar116, q116, S116, M116, H116, G116⟩ := id V110
    have hin116 : ¬ ((Int32.ofNat (xs.length + 3)) < 0 ∨ cl116.slots.size ≤ (Int32.ofNat (xs.length + 3)).toNatClampNeg) := inb_of S116 ⟨own_ofnn (by omega), own_oflt (j := 16) (by omega) (by omega)⟩
    obtain ⟨T116, h116, X116, e116, W116, st116⟩ := stB X113 hx hZ e113 Ar116 (j := (Int32.ofNat (xs.length + 3))) hin116 (g := (mkF m 68 #[iv n103, iv (Int32.ofNat (xs.length + 5)), rv b, iv n103, iv n105, iv (Int32.ofNat (xs.length + 3)), iv 0] [(.int (own_dgt pv 10)), (.int (Int32.ofNat (xs.length + 3))), (.ref b)])) rfl rfl (hb hby d41_68)
    have N116 := Fr.snoc X116 N110 g_b
    have V116 : Arv Z h116 b kb .byte (16 : Int32) ((own_row xs 4 [(.int (own_dgt pv 1))]).set (xs.length + 3) (.int (nar .byte (own_dgt pv 10)))) (.int 0) := Arv.set Ar116 q116 S116 M116 H116 G116 (fits_nar_byte _) W116 (xs.length + 3) (own_ofn (by omega)) (by rw [own_row_len]; omega)
    refine Go.by st116 ?_
    show Go _ _ _ _ T116 (mkF m 69 #[iv n103, iv (Int32.ofNat (xs.length + 5)), rv b, iv n103, iv n105, iv (Int32.ofNat (xs.length + 3)), iv 0] [])
    rw [own_row_set, own_dgt_nb] at V116
    refine Go.goto 22 X116 hx (hb hby d41_69) (by decide) (by decide) ?_
    refine Go.iload1 23 X116 hx (hb hby d41_22) rfl rfl ?_
    refine Go.bipush 25 X116 hx (-100 : Int32) (hb hby d41_23) (by decide) rfl ?_
    refine Go.icmpN 28 X116 hx (hb hby d41_25) (XT.ii_gt_f (u_nlt32 (by omega))) rfl ?_
    refine Go.iload1 29 X116 hx (hb hby d41_28) rfl rfl ?_
    refine Go.bipush 31 X116 hx (100 : Int32) (hb hby d41_29) (by decide) rfl ?_
    refine Go.idiv 32 X116 hx (hb hby d41_31) (by decide) rfl ?_
    obtain ⟨n117, h_n117⟩ : ∃ z, z = (n103 / (100 : Int32)) := ⟨_, rfl⟩
    rw [← h_n117]
    show Go _ _ _ _ T116 (mkF m 32 #[iv n103, iv (Int32.ofNat (xs.length + 5)), rv b, iv n103, iv n105, iv (Int32.ofNat (xs.length + 3)), iv 0] [(.int n117)])
    have e_n117 : (0 ≤ n103.toInt → n117.toInt = n103.toInt / 100) ∧ (n103.toInt < 0 → n117.toInt = -((-n103.toInt) / 100)) := by rw [h_n117]; exact x_idiv 100 (by decide) (by decide)
    refine Go.istore1 33 X116 hx (L' := #[iv n103, iv (Int32.ofNat (xs.length + 5)), rv b, iv n117, iv n105, iv (Int32.ofNat (xs.length + 3)), iv 0]) (hb hby d41_32) rfl rfl ?_
    refine Go.iload1 34 X116 hx (hb hby d41_33) rfl rfl ?_
    refine Go.bipush 36 X116 hx (100 : Int32) (hb hby d41_34) (by decide) rfl ?_
    refine Go.imul 37 X116 hx (hb hby d41_36) rfl ?_
    obtain ⟨n118, h_n118⟩ : ∃ z, z = (n117 * (100 : Int32)) := ⟨_, rfl⟩
    rw [← h_n118]
    show Go _ _ _ _ T116 (mkF m 37 #[iv n103, iv (Int32.ofNat (xs.length + 5)), rv b, iv n117, iv n105, iv (Int32.ofNat (xs.length + 3)), iv 0] [(.int n118)])
    have e_n118 : n118.toInt = n117.toInt * 100 := by rw [h_n118]; exact x_imulR 100 (by decide) (by omega) (by omega)
    refine Go.iload1 38 X116 hx (hb hby d41_37) rfl rfl ?_
    refine Go.isub 39 X116 hx (hb hby d41_38) rfl ?_
    obtain ⟨n119, h_n119⟩ : ∃ z, z = (n118 - n103) := ⟨_, rfl⟩
    rw [← h_n119]
    show Go _ _ _ _ T116 (mkF m 39 #[iv n103, iv (Int32.ofNat (xs.length + 5)), rv b, iv n117, iv n105, iv (Int32.ofNat (xs.length + 3)), iv 0] [(.int n119)])
    have e_n119 : n119.toInt = n118.toInt - n103.toInt := by rw [h_n119]; exact x_isub (by omega) (by omega)
    refine Go.istore2 41 X116 hx (L' := #[iv n103, iv (Int32.ofNat (xs.length + 5)), rv b, iv n117, iv n119, iv (Int32.ofNat (xs.length + 3)), iv 0]) (hb hby d41_39) rfl rfl ?_
    refine Go.iload1 42 X116 hx (hb hby d41_41) rfl rfl ?_
    refine Go.istore1 43 X116 hx (L' := #[iv n117, iv (Int32.ofNat (xs.length + 5)), rv b, iv n117, iv n119, iv (Int32.ofNat (xs.length + 3)), iv 0]) (hb hby d41_42) rfl rfl ?_
    refine Go.aload1 44 X116 hx (hb hby d41_43) rfl rfl rfl ?_
    refine Go.iinc 47 X116 hx (-1 : Int32) (L' := #[iv n117, iv (Int32.ofNat (xs.length + 5)), rv b, iv n117, iv n119, iv ((Int32.ofNat (xs.length + 3)) + (-1 : Int32)), iv 0]) (hb hby d41_44) (by decide) rfl rfl rfl ?_
    rw [show Int32.ofNat (xs.length + 3) + (-1 : Int32) = Int32.ofNat (xs.length + 2) from own_dec _]
    show Go _ _ _ _ T116 (mkF m 47 #[iv n117, iv (Int32.ofNat (xs.length + 5)), rv b, iv n117, iv n119, iv (Int32.ofNat (xs.length + 2)), iv 0] [(.ref b)])
    refine Go.iload2 49 X116 hx (hb hby d41_47) rfl rfl ?_
    have F120 : Old Z n0 h116 := F111.wr W116 g_b
    have F121 : Sta Z h116 "java/lang/Integer" "DigitOnes" "[B" (.ref d1) := S_d1.ext F120.2
    obtain ⟨T122, X122, e122, st122⟩ := getS2 X116 hx hZ hown (host := "") (Or.inl (ow hw 221 rfl)) Via.refl e116 F121 (g := (mkF m 49 #[iv n117, iv (Int32.ofNat (xs.length + 5)), rv b, iv n117, iv n119, iv (Int32.ofNat (xs.length + 2)), iv 0] [(.int (Int32.ofNat (xs.length + 2))), (.ref b)])) rfl (hb hby d41_49)
    refine Go.by st122 ?_
    show Go _ _ _ _ T122 (mkF m 52 #[iv n117, iv (Int32.ofNat (xs.length + 5)), rv b, iv n117, iv n119, iv (Int32.ofNat (xs.length + 2)), iv 0] [(.ref d1), (.int (Int32.ofNat (xs.length + 2))), (.ref b)])
    refine Go.iload2 54 X122 hx (hb hby d41_52) rfl rfl ?_
    have F123 : Arv Z h116 d1 kd1 .byte (100 : Int32) own_ones (.int 0) := V_d1.ext F120.2
    obtain ⟨cl124, Ar124, -, S124, M124, H124, -⟩ := id F123
    have hin124 : ¬ (n119 < 0 ∨ cl124.slots.size ≤ n119.toNatClampNeg) := inb_of S124 ⟨u_nlt32 (by omega), u_lt32 (by omega)⟩
    refine Go.by (fun _ gk => X122.baloadBytes hx (j := n119) (v := (.int (Int32.ofNat (48 + n119.toNatClampNeg % 10)))) (by rw [e122]; exact Ar124.1) (State.isArrayOf_alike hZ.alike Ar124.2.1) Ar124.2.2 hin124 (Has.at H124 hin124 (own_onesD (show n119.toInt.toNat < 100 by omega))) (g := (mkF m 54 #[iv n117, iv (Int32.ofNat (xs.length + 5)), rv b, iv n117, iv n119, iv (Int32.ofNat (xs.length + 2)), iv 0] [(.int n119), (.ref d1), (.int (Int32.ofNat (xs.length + 2))), (.ref b)])) rfl rfl (hb hby d41_54) _ gk) ?_
    show Go _ _ _ _ T122 (mkF m 55 #[iv n117, iv (Int32.ofNat (xs.length + 5)), rv b, iv n117, iv n119, iv (Int32.ofNat (xs.length + 2)), iv 0] [(.int (Int32.ofNat (48 + n119.toNatClampNeg % 10))), (.int (Int32.ofNat (xs.length + 2))), (.ref b)])
    rw [(own_dgE (show n119.toInt.toNat % 10 = pv.toInt.toNat / 100 % 10 by omega) : (Int32.ofNat (48 + n119.toNatClampNeg % 10)) = own_dgt pv 100)]
    show Go _ _ _ _ T122 (mkF m 55 #[iv n117, iv (Int32.ofNat (xs.length + 5)), rv b, iv n117, iv n119, iv (Int32.ofNat (xs.length + 2)), iv 0] [(.int (own_dgt pv 100)), (.int (Int32.ofNat (xs.length + 2))), (.ref b)])
    obtain ⟨cl125, Ar125, q125, S125, M125, H125, G125⟩ := id V116
    have hin125 : ¬ ((Int32.ofNat (xs.length + 2)) < 0 ∨ cl125.slots.size ≤ (Int32.ofNat (xs.length + 2)).toNatClampNeg) := inb_of S125 ⟨own_ofnn (by omega), own_oflt (j := 16) (by omega) (by omega)⟩
    obtain ⟨T125, h125, X125, e125, W125, st125⟩ := stB X122 hx hZ e122 Ar125 (j := (Int32.ofNat (xs.length + 2))) hin125 (g := (mkF m 55 #[iv n117, iv (Int32.ofNat (xs.length + 5)), rv b, iv n117, iv n119, iv (Int32.ofNat (xs.length + 2)), iv 0] [(.int (own_dgt pv 100)), (.int (Int32.ofNat (xs.length + 2))), (.ref b)])) rfl rfl (hb hby d41_55)
    have N125 := Fr.snoc X125 N116 g_b
    have V125 : Arv Z h125 b kb .byte (16 : Int32) ((own_row xs 3 [(.int (own_dgt pv 10)), (.int (own_dgt pv 1))]).set (xs.length + 2) (.int (nar .byte (own_dgt pv 100)))) (.int 0) := Arv.set Ar125 q125 S125 M125 H125 G125 (fits_nar_byte _) W125 (xs.length + 2) (own_ofn (by omega)) (by rw [own_row_len]; omega)
    refine Go.by st125 ?_
    show Go _ _ _ _ T125 (mkF m 56 #[iv n117, iv (Int32.ofNat (xs.length + 5)), rv b, iv n117, iv n119, iv (Int32.ofNat (xs.length + 2)), iv 0] [])
    rw [own_row_set, own_dgt_nb] at V125
    refine Go.aload1 57 X125 hx (hb hby d41_56) rfl rfl rfl ?_
    refine Go.iinc 60 X125 hx (-1 : Int32) (L' := #[iv n117, iv (Int32.ofNat (xs.length + 5)), rv b, iv n117, iv n119, iv ((Int32.ofNat (xs.length + 2)) + (-1 : Int32)), iv 0]) (hb hby d41_57) (by decide) rfl rfl rfl ?_
    rw [show Int32.ofNat (xs.length + 2) + (-1 : Int32) = Int32.ofNat (xs.length + 1) from own_dec _]
    show Go _ _ _ _ T125 (mkF m 60 #[iv n117, iv (Int32.ofNat (xs.length + 5)), rv b, iv n117, iv n119, iv (Int32.ofNat (xs.length + 1)), iv 0] [(.ref b)])
    refine Go.iload2 62 X125 hx (hb hby d41_60) rfl rfl ?_
    have F126 : Old Z n0 h125 := F120.wr W125 g_b
    have F127 : Sta Z h125 "java/lang/Integer" "DigitTens" "[B" (.ref d2) := S_d2.ext F126.2
    obtain ⟨T128, X128, e128, st128⟩ := getS2 X125 hx hZ hown (host := "") (Or.inl (ow hw 242 rfl)) Via.refl e125 F127 (g := (mkF m 62 #[iv n117, iv (Int32.ofNat (xs.length + 5)), rv b, iv n117, iv n119, iv (Int32.ofNat (xs.length + 1)), iv 0] [(.int (Int32.ofNat (xs.length + 1))), (.ref b)])) rfl (hb hby d41_62)
    refine Go.by st128 ?_
    show Go _ _ _ _ T128 (mkF m 65 #[iv n117, iv (Int32.ofNat (xs.length + 5)), rv b, iv n117, iv n119, iv (Int32.ofNat (xs.length + 1)), iv 0] [(.ref d2), (.int (Int32.ofNat (xs.length + 1))), (.ref b)])
    refine Go.iload2 67 X128 hx (hb hby d41_65) rfl rfl ?_
    have F129 : Arv Z h125 d2 kd2 .byte (100 : Int32) own_tens (.int 0) := V_d2.ext F126.2
    obtain ⟨cl130, Ar130, -, S130, M130, H130, -⟩ := id F129
    have hin130 : ¬ (n119 < 0 ∨ cl130.slots.size ≤ n119.toNatClampNeg) := inb_of S130 ⟨u_nlt32 (by omega), u_lt32 (by omega)⟩
    refine Go.by (fun _ gk => X128.baloadBytes hx (j := n119) (v := (.int (Int32.ofNat (48 + n119.toNatClampNeg / 10)))) (by rw [e128]; exact Ar130.1) (State.isArrayOf_alike hZ.alike Ar130.2.1) Ar130.2.2 hin130 (Has.at H130 hin130 (own_tensD (show n119.toInt.toNat < 100 by omega))) (g := (mkF m 67 #[iv n117, iv (Int32.ofNat (xs.length + 5)), rv b, iv n117, iv n119, iv (Int32.ofNat (xs.length + 1)), iv 0] [(.int n119), (.ref d2), (.int (Int32.ofNat (xs.length + 1))), (.ref b)])) rfl rfl (hb hby d41_67) _ gk) ?_
    show Go _ _ _ _ T128 (mkF m 68 #[iv n117, iv (Int32.ofNat (xs.length + 5)), rv b, iv n117, iv n119, iv (Int32.ofNat (xs.length + 1)), iv 0] [(.int (Int32.ofNat (48 + n119.toNatClampNeg / 10))), (.int (Int32.ofNat (xs.length + 1))), (.ref b)])
    rw [(own_dgE (show n119.toInt.toNat / 10 = pv.toInt.toNat / 1000 % 10 by omega) : (Int32.ofNat (48 + n119.toNatClampNeg / 10)) = own_dgt pv 1000)]
    show Go _ _ _ _ T128 (mkF m 68 #[iv n117, iv (Int32.ofNat (xs.length + 5)), rv b, iv n117, iv n119, iv (Int32.ofNat (xs.length + 1)), iv 0] [(.int (own_dgt pv 1000)), (.int (Int32.ofNat (xs.length + 1))), (.ref b)])
    obtain ⟨cl131, Ar131, q131, S131, M131, H131, G131⟩ := id V125
    have hin131 : ¬ ((Int32.ofNat (xs.length + 1)) < 0 ∨ cl131.slots.size ≤ (Int32.ofNat (xs.length + 1)).toNatClampNeg) := inb_of S131 ⟨own_ofnn (by omega), own_oflt (j := 16) (by omega) (by omega)⟩
    obtain ⟨T131, h131, X131, e131, W131, st131⟩ := stB X128 hx hZ e128 Ar131 (j := (Int32.ofNat (xs.length + 1))) hin131 (g := (mkF m 68 #[iv n117, iv (Int32.ofNat (xs.length + 5)), rv b, iv n117, iv n119, iv (Int32.ofNat (xs.length + 1)), iv 0] [(.int (own_dgt pv 1000)), (.int (Int32.ofNat (xs.length + 1))), (.ref b)])) rfl rfl (hb hby d41_68)
    have N131 := Fr.snoc X131 N125 g_b
    have V131 : Arv Z h131 b kb .byte (16 : Int32) ((own_row xs 2 [(.int (own_dgt pv 100)), (.int (own_dgt pv 10)), (.int (own_dgt pv 1))]).set (xs.length + 1) (.int (nar .byte (own_dgt pv 1000)))) (.int 0) := Arv.set Ar131 q131 S131 M131 H131 G131 (fits_nar_byte _) W131 (xs.length + 1) (own_ofn (by omega)) (by rw [own_row_len]; omega)
    refine Go.by st131 ?_
    show Go _ _ _ _ T131 (mkF m 69 #[iv n117, iv (Int32.ofNat (xs.length + 5)), rv b, iv n117, iv n119, iv (Int32.ofNat (xs.length + 1)), iv 0] [])
    rw [own_row_set, own_dgt_nb] at V131
    refine Go.goto 22 X131 hx (hb hby d41_69) (by decide) (by decide) ?_
    refine Go.iload1 23 X131 hx (hb hby d41_22) rfl rfl ?_
    refine Go.bipush 25 X131 hx (-100 : Int32) (hb hby d41_23) (by decide) rfl ?_
    refine Go.icmpY 72 X131 hx (hb hby d41_25) (XT.ii_gt_t (u_lt32 (by omega))) (by decide) (by decide) ?_
    refine Go.aload1 73 X131 hx (hb hby d41_72) rfl rfl rfl ?_
    refine Go.iinc 76 X131 hx (-1 : Int32) (L' := #[iv n117, iv (Int32.ofNat (xs.length + 5)), rv b, iv n117, iv n119, iv ((Int32.ofNat (xs.length + 1)) + (-1 : Int32)), iv 0]) (hb hby d41_73) (by decide) rfl rfl rfl ?_
    rw [show Int32.ofNat (xs.length + 1) + (-1 : Int32) = Int32.ofNat (xs.length + 0) from own_dec _]
    show Go _ _ _ _ T131 (mkF m 76 #[iv n117, iv (Int32.ofNat (xs.length + 5)), rv b, iv n117, iv n119, iv (Int32.ofNat (xs.length + 0)), iv 0] [(.ref b)])
    refine Go.iload2 78 X131 hx (hb hby d41_76) rfl rfl ?_
    have F132 : Old Z n0 h131 := F126.wr W131 g_b
    have F133 : Sta Z h131 "java/lang/Integer" "DigitOnes" "[B" (.ref d1) := S_d1.ext F132.2
    obtain ⟨T134, X134, e134, st134⟩ := getS2 X131 hx hZ hown (host := "") (Or.inl (ow hw 221 rfl)) Via.refl e131 F133 (g := (mkF m 78 #[iv n117, iv (Int32.ofNat (xs.length + 5)), rv b, iv n117, iv n119, iv (Int32.ofNat (xs.length + 0)), iv 0] [(.int (Int32.ofNat (xs.length + 0))), (.ref b)])) rfl (hb hby d41_78)
    refine Go.by st134 ?_
    show Go _ _ _ _ T134 (mkF m 81 #[iv n117, iv (Int32.ofNat (xs.length + 5)), rv b, iv n117, iv n119, iv (Int32.ofNat (xs.length + 0)), iv 0] [(.ref d1), (.int (Int32.ofNat (xs.length + 0))), (.ref b)])
    refine Go.iload1 82 X134 hx (hb hby d41_81) rfl rfl ?_
    refine Go.ineg 83 X134 hx (hb hby d41_82) rfl ?_
    obtain ⟨n135, h_n135⟩ : ∃ z, z = (-n117) := ⟨_, rfl⟩
    rw [← h_n135]
    show Go _ _ _ _ T134 (mkF m 83 #[iv n117, iv (Int32.ofNat (xs.length + 5)), rv b, iv n117, iv n119, iv (Int32.ofNat (xs.length + 0)), iv 0] [(.int n135), (.ref d1), (.int (Int32.ofNat (xs.length + 0))), (.ref b)])
    have e_n135 : n135.toInt = -n117.toInt := by rw [h_n135]; exact x_ineg (by omega)
    have F136 : Arv Z h131 d1 kd1 .byte (100 : Int32) own_ones (.int 0) := V_d1.ext F132.2
    obtain ⟨cl137, Ar137, -, S137, M137, H137, -⟩ := id F136
    have hin137 : ¬ (n135 < 0 ∨ cl137.slots.size ≤ n135.toNatClampNeg) := inb_of S137 ⟨u_nlt32 (by omega), u_lt32 (by omega)⟩
    refine Go.by (fun _ gk => X134.baloadBytes hx (j := n135) (v := (.int (Int32.ofNat (48 + n135.toNatClampNeg % 10)))) (by rw [e134]; exact Ar137.1) (State.isArrayOf_alike hZ.alike Ar137.2.1) Ar137.2.2 hin137 (Has.at H137 hin137 (own_onesD (show n135.toInt.toNat < 100 by omega))) (g := (mkF m 83 #[iv n117, iv (Int32.ofNat (xs.length + 5)), rv b, iv n117, iv n119, iv (Int32.ofNat (xs.length + 0)), iv 0] [(.int n135), (.ref d1), (.int (Int32.ofNat (xs.length + 0))), (.ref b)])) rfl rfl (hb hby d41_83) _ gk) ?_
    show Go _ _ _ _ T134 (mkF m 84 #[iv n117, iv (Int32.ofNat (xs.length + 5)), rv b, iv n117, iv n119, iv (Int32.ofNat (xs.length + 0)), iv 0] [(.int (Int32.ofNat (48 + n135.toNatClampNeg % 10))), (.int (Int32.ofNat (xs.length + 0))), (.ref b)])
    rw [(own_dgE (show n135.toInt.toNat % 10 = pv.toInt.toNat / 10000 % 10 by omega) : (Int32.ofNat (48 + n135.toNatClampNeg % 10)) = own_dgt pv 10000)]
    show Go _ _ _ _ T134 (mkF m 84 #[iv n117, iv (Int32.ofNat (xs.length + 5)), rv b, iv n117, iv n119, iv (Int32.ofNat (xs.length + 0)), iv 0] [(.int (own_dgt pv 10000)), (.int (Int32.ofNat (xs.length + 0))), (.ref b)])
    obtain ⟨cl138, Ar138, q138, S138, M138, H138, G138⟩ := id V131
    have hin138 : ¬ ((Int32.ofNat (xs.length + 0)) < 0 ∨ cl138.slots.size ≤ (Int32.ofNat (xs.length + 0)).toNatClampNeg) := inb_of S138 ⟨own_ofnn (by omega), own_oflt (j := 16) (by omega) (by omega)⟩
    obtain ⟨T138, h138, X138, e138, W138, st138⟩ := stB X134 hx hZ e134 Ar138 (j := (Int32.ofNat (xs.length + 0))) hin138 (g := (mkF m 84 #[iv n117, iv (Int32.ofNat (xs.length + 5)), rv b, iv n117, iv n119, iv (Int32.ofNat (xs.length + 0)), iv 0] [(.int (own_dgt pv 10000)), (.int (Int32.ofNat (xs.length + 0))), (.ref b)])) rfl rfl (hb hby d41_84)
    have N138 := Fr.snoc X138 N131 g_b
    have V138 : Arv Z h138 b kb .byte (16 : Int32) ((own_row xs 1 [(.int (own_dgt pv 1000)), (.int (own_dgt pv 100)), (.int (own_dgt pv 10)), (.int (own_dgt pv 1))]).set (xs.length + 0) (.int (nar .byte (own_dgt pv 10000)))) (.int 0) := Arv.set Ar138 q138 S138 M138 H138 G138 (fits_nar_byte _) W138 (xs.length + 0) (own_ofn (by omega)) (by rw [own_row_len]; omega)
    refine Go.by st138 ?_
    show Go _ _ _ _ T138 (mkF m 85 #[iv n117, iv (Int32.ofNat (xs.length + 5)), rv b, iv n117, iv n119, iv (Int32.ofNat (xs.length + 0)), iv 0] [])
    rw [own_row_set, own_dgt_nb] at V138
    refine Go.iload1 86 X138 hx (hb hby d41_85) rfl rfl ?_
    refine Go.bipush 88 X138 hx (-9 : Int32) (hb hby d41_86) (by decide) rfl ?_
    have li139 : (-9 : Int32).toInt = -9 := by decide
    refine Go.icmpY 104 X138 hx (hb hby d41_88) (XT.ii_ge_t (u_nlt32 (by omega))) (by decide) (by decide) ?_
    refine Go.iload2 106 X138 hx (hb hby d41_104) rfl rfl ?_
    refine Go.ifY 118 X138 hx (hb hby d41_106) (XT.i0_eq_t rfl) (by decide) (by decide) ?_
    refine Go.iload2 120 X138 hx (hb hby d41_118) rfl rfl ?_
    have Vf : Arv Z h138 b kb .byte (16 : Int32) (xs ++ own_dg pv) (.int 0) := by rw [hd]; exact V138
    have F140 : Keep h0 h110 [b] := (Keep.refl h0 [b]).wr W110 (Or.inl (List.mem_of_getElem? (i := 0) rfl))
    have F141 : Keep h0 h116 [b] := F140.wr W116 (Or.inl (List.mem_of_getElem? (i := 0) rfl))
    have F142 : Keep h0 h125 [b] := F141.wr W125 (Or.inl (List.mem_of_getElem? (i := 0) rfl))
    have F143 : Keep h0 h131 [b] := F142.wr W131 (Or.inl (List.mem_of_getElem? (i := 0) rfl))
    have F144 : Keep h0 h138 [b] := F143.wr W138 (Or.inl (List.mem_of_getElem? (i := 0) rfl))
    exact Go.retI X138 hx Bd.notSynchronized Bd.returns rfl (by simp) (hb hby d41_120) (by rw [e138]; exact ⟨rfl, N138, F144, Vf⟩) (by decide) (by decide)
theorem ef_397 (m : MethodId) (x0 : Addr) (x1 : Int32) : entryFrame m #[(.ref x0), (.int x1)] 4 = mkF m 0 #[rv x0, iv x1, un, un] [] := by (first | (simp [entryFrame, mkF, argsToLocals, Value.category]; done) | rfl)
theorem d39_0 : decode jdk_68_method_32_code 0 = .ok (.aload_n 0, 1) := by decide +kernel
theorem d39_1 : decode jdk_68_method_32_code 1 = .ok (.getfield 79, 3) := by decide +kernel
theorem d39_4 : decode jdk_68_method_32_code 4 = .ok (.istore_n 2, 1) := by decide +kernel
theorem d39_5 : decode jdk_68_method_32_code 5 = .ok (.iload_n 2, 1) := by decide +kernel
theorem d39_6 : decode jdk_68_method_32_code 6 = .ok (.iload_n 1, 1) := by decide +kernel
theorem pd_403 : parseMethodDescriptor "(I)I" = some ⟨[.int], some .int⟩ := by decide +kernel
theorem d39_7 : decode jdk_68_method_32_code 7 = .ok (.invokestatic 245, 3) := by decide +kernel
theorem d39_10 : decode jdk_68_method_32_code 10 = .ok (.iadd, 1) := by decide +kernel
theorem d39_11 : decode jdk_68_method_32_code 11 = .ok (.istore_n 3, 1) := by decide +kernel
theorem d39_12 : decode jdk_68_method_32_code 12 = .ok (.aload_n 0, 1) := by decide +kernel
theorem d39_13 : decode jdk_68_method_32_code 13 = .ok (.iload_n 3, 1) := by decide +kernel
theorem d39_14 : decode jdk_68_method_32_code 14 = .ok (.invokevirtual 100, 3) := by decide +kernel
theorem d39_17 : decode jdk_68_method_32_code 17 = .ok (.aload_n 0, 1) := by decide +kernel
theorem d39_18 : decode jdk_68_method_32_code 18 = .ok (.invokevirtual 83, 3) := by decide +kernel
theorem d39_21 : decode jdk_68_method_32_code 21 = .ok (.ifCond .eq 16, 3) := by decide +kernel
theorem d39_24 : decode jdk_68_method_32_code 24 = .ok (.iload_n 1, 1) := by decide +kernel
theorem d39_25 : decode jdk_68_method_32_code 25 = .ok (.iload_n 3, 1) := by decide +kernel
theorem d39_26 : decode jdk_68_method_32_code 26 = .ok (.aload_n 0, 1) := by decide +kernel
theorem d39_27 : decode jdk_68_method_32_code 27 = .ok (.getfield 15, 3) := by decide +kernel
theorem pd_417 : parseMethodDescriptor "(II[B)I" = some ⟨[.int, .int, (.array .byte)], some .int⟩ := by decide +kernel
theorem d39_30 : decode jdk_68_method_32_code 30 = .ok (.invokestatic 248, 3) := by decide +kernel
theorem d39_33 : decode jdk_68_method_32_code 33 = .ok (.pop, 1) := by decide +kernel
theorem d39_34 : decode jdk_68_method_32_code 34 = .ok (.goto 14, 3) := by decide +kernel
theorem d39_48 : decode jdk_68_method_32_code 48 = .ok (.aload_n 0, 1) := by decide +kernel
theorem d39_49 : decode jdk_68_method_32_code 49 = .ok (.iload_n 3, 1) := by decide +kernel
theorem d39_50 : decode jdk_68_method_32_code 50 = .ok (.putfield 79, 3) := by decide +kernel
theorem d39_53 : decode jdk_68_method_32_code 53 = .ok (.aload_n 0, 1) := by decide +kernel
theorem d39_54 : decode jdk_68_method_32_code 54 = .ok (.areturn, 1) := by decide +kernel
def Q_rmAppAI (Z : State) (a : Addr) (b : Addr) (kb : ClassId) (xs : List Value) (pv : Int32) (cs : Int32) (d1 : Addr) (d2 : Addr) (kd1 : ClassId) (kd2 : ClassId) (h0 : Heap) (n0 : Nat) (v : Option Value) (h : Heap) (L : List Loc) : Prop := v = some (.ref a) ∧ Fr n0 L ∧ Keep h0 h [a, b] ∧ Exa Z h a "java/lang/StringBuilder" ∧ Fld Z h a "java/lang/AbstractStringBuilder" "coder" "B" (.int 0) ∧ Fld Z h a "java/lang/AbstractStringBuilder" "value" "[B" (.ref b) ∧ Fld Z h a "java/lang/AbstractStringBuilder" "count" "I" (.int (Int32.ofNat (xs ++ own_dg pv).length)) ∧ Arv Z h b kb .byte (16 : Int32) (xs ++ own_dg pv) (.int 0)
theorem rmAppAI (l : Launch) (Z : State) (a0 : Array Value) (hw : ∀ d ∈ tables_1, d.before a0 Z = true) (ws : List Jvm.Cond) (a : Addr) (b : Addr) (kb : ClassId) (xs : List Value) (pv : Int32) (cs : Int32) (d1 : Addr) (d2 : Addr) (kd1 : ClassId) (kd2 : ClassId) (h0 : Heap) (n0 : Nat) (Z0 : n0 ≤ h0.size) (O0 : Old Z n0 h0) (E_a : Exa Z h0 a "java/lang/StringBuilder") (F_a_coder : Fld Z h0 a "java/lang/AbstractStringBuilder" "coder" "B" (.int 0)) (F_a_value : Fld Z h0 a "java/lang/AbstractStringBuilder" "value" "[B" (.ref b)) (F_a_count : Fld Z h0 a "java/lang/AbstractStringBuilder" "count" "I" (.int (Int32.ofNat xs.length))) (V_b : Arv Z h0 b kb .byte (16 : Int32) xs (.int 0)) (g_a : n0 ≤ a) (g_b : n0 ≤ b) (ne_a_b : a ≠ b) (hp : (0 < pv.toInt ∧ pv.toInt ≤ 65535)) (h16 : ((xs ++ own_dg pv).length ≤ 16)) (S_cs : Sta Z Z.heap "java/lang/String" "COMPACT_STRINGS" "Z" (.int cs)) (n_cs : ¬ cs = 0) (S_d1 : Sta Z Z.heap "java/lang/Integer" "DigitOnes" "[B" (.ref d1)) (V_d1 : Arv Z Z.heap d1 kd1 .byte (100 : Int32) own_ones (.int 0)) (S_d2 : Sta Z Z.heap "java/lang/Integer" "DigitTens" "[B" (.ref d2)) (V_d2 : Arv Z Z.heap d2 kd2 .byte (100 : Int32) own_tens (.int 0)) :
    MetN l Z ws (⟨"java/lang/AbstractStringBuilder", "append", "(I)Ljava/lang/AbstractStringBuilder;"⟩ : MethodName) jdk_68_method_32_code 4 (some (.object "java/lang/AbstractStringBuilder")) ({ frames := 1, cells := 0, slots := 0, locals := 18 } : Room) #[(.ref a), (.int pv)] h0 (Q_rmAppAI Z a b kb xs pv cs d1 d2 kd1 kd2 h0 n0) := by
  refine MetN.go (plainFor_of_name pn_92) n0 fun p e s m below meth c s₁ Bd hx hby hml hZ hh hown hnm X0 e0 N0 => ?_
  have hown : s.vm.findClass "java/lang/AbstractStringBuilder" = some m.cls := hown
  refine Go.ent (ef_397 m a pv) ?_
  show Go _ _ _ _ s₁ (mkF m 0 #[rv a, iv pv, un, un] [])
  refine Go.aload1 1 X0 hx (hb hby d39_0) rfl rfl rfl ?_
  obtain ⟨T1, X1, e1, st1⟩ := getF X0 hx hZ hown (host := "") (Or.inl (ow hw 131 rfl)) Via.refl e0 F_a_count (g := (mkF m 1 #[rv a, iv pv, un, un] [(.ref a)])) rfl rfl (hb hby d39_1)
  refine Go.by st1 ?_
  show Go _ _ _ _ T1 (mkF m 4 #[rv a, iv pv, un, un] [(.int (Int32.ofNat xs.length))])
  refine Go.istore1 5 X1 hx (L' := #[rv a, iv pv, iv (Int32.ofNat xs.length), un]) (hb hby d39_4) rfl rfl ?_
  refine Go.iload1 6 X1 hx (hb hby d39_5) rfl rfl ?_
  refine Go.iload1 7 X1 hx (hb hby d39_6) rfl rfl ?_
  obtain ⟨_, _, ⟨T2, L2, k2, n2⟩, -, X2, ⟨Lc2, hQ2, l2, y2, z2⟩, st2⟩ := Jvm.LawKit.callS X1 hx (y := (⟨"java/lang/Integer", "stringSize", "(I)I"⟩ : MethodName)) hown (mvT hZ (ow hw 213 rfl)) (mvT hZ (ow hw 214 rfl)) (mvT hZ (ow hw 215 rfl)) (mvT hZ (ow hw 216 rfl)) (by decide) (backOf (W := 1) (rmSSize l Z a0 hw [] pv h0 n0 Z0 hp) hZ (ow hw 216 rfl) (ow hw 215 rfl) (by decide) (by decide)) (g := (mkF m 7 #[rv a, iv pv, iv (Int32.ofNat xs.length), un] [(.int pv), (.int (Int32.ofNat xs.length))])) rfl (by rw [hml]; rfl) (argsL := [(.int pv)]) (rest := [(.int (Int32.ofNat xs.length))]) (lenOf pd_403 rfl) rfl (by show 2 * 0 + _ ≤ _; exact Nat.le_of_eq rfl) (hb hby d39_7) (fun _ _ => ⟨rfl, e1, (by decide : 0 + 0 ≤ _), (by decide : 0 + 0 ≤ _)⟩)
  dsimp only [Pt.U, Pt.locs, Pt.cells, Pt.slots] at X2 l2 y2 z2 st2 hQ2
  subst l2 y2 z2
  obtain ⟨rfl, N2q, e2⟩ := hQ2
  have N2 := Fr.app N0 N2q
  refine Go.by st2 ?_
  show Go _ _ _ _ T2 (mkF m 10 #[rv a, iv pv, iv (Int32.ofNat xs.length), un] [(.int (Int32.ofNat (own_dg pv).length)), (.int (Int32.ofNat xs.length))])
  refine Go.iadd 11 X2 hx (hb hby d39_10) rfl ?_
  rw [own_cnt (cs := xs) (vs := own_dg pv) rfl]
  show Go _ _ _ _ T2 (mkF m 11 #[rv a, iv pv, iv (Int32.ofNat xs.length), un] [(.int (Int32.ofNat (xs ++ own_dg pv).length))])
  refine Go.istore1 12 X2 hx (L' := #[rv a, iv pv, iv (Int32.ofNat xs.length), iv (Int32.ofNat (xs ++ own_dg pv).length)]) (hb hby d39_11) rfl rfl ?_
  refine Go.aload1 13 X2 hx (hb hby d39_12) rfl rfl rfl ?_
  refine Go.iload1 14 X2 hx (hb hby d39_13) rfl rfl ?_
  obtain ⟨cq3, q3, q3'⟩ := E_a.cell
  obtain ⟨_, _, ⟨T3, L3, k3, n3⟩, -, X3, ⟨Lc3, hQ3, l3, y3, z3⟩, st3⟩ := X2.privateBack hx (y := (⟨"java/lang/AbstractStringBuilder", "ensureCapacityInternal", "(I)V"⟩ : MethodName)) hown (mvT hZ (ow hw 133 rfl)) (mvT hZ (ow hw 134 rfl)) (own_psel (mvT hZ (ow hw 136 rfl)) (mvP hZ (ow hw 135 rfl)) (by decide)) (Cond.privateMethod_at (mvP hZ (ow hw 135 rfl) (args := #[]))) (mvT hZ (ow hw 137 rfl)) (by decide) (backOf (W := 0) (rmEnsure l Z a0 hw [] a b kb xs (Int32.ofNat (xs ++ own_dg pv).length) h0 n0 Z0 F_a_coder F_a_value V_b (own_room h16)) hZ (ow hw 137 rfl) (ow hw 68 rfl) (by decide) (by decide)) (g := (mkF m 14 #[rv a, iv pv, iv (Int32.ofNat xs.length), iv (Int32.ofNat (xs ++ own_dg pv).length)] [(.int (Int32.ofNat (xs ++ own_dg pv).length)), (.ref a)])) rfl (by rw [hml]; rfl) (Steps.refl _) (a := a) (by rw [e2]; exact q3) q3' (argsL := [(.int (Int32.ofNat (xs ++ own_dg pv).length))]) (rest := []) (lenOf pd_109 rfl) rfl (by show 2 * 0 + _ ≤ _; exact Nat.le_of_eq rfl) (hb hby d39_14) (fun _ _ => ⟨rfl, e2, (by decide : 0 + 0 ≤ _), (by decide : 0 + 0 ≤ _)⟩)
  dsimp only [Pt.U, Pt.locs, Pt.cells, Pt.slots] at X3 l3 y3 z3 st3 hQ3
  subst l3 y3 z3
  obtain ⟨rfl, N3q, e3⟩ := hQ3
  have N3 := Fr.app N2 N3q
  refine Go.to st3 ?_
  show Go _ _ _ _ T3 (mkF m 17 #[rv a, iv pv, iv (Int32.ofNat xs.length), iv (Int32.ofNat (xs ++ own_dg pv).length)] [])
  refine Go.aload1 18 X3 hx (hb hby d39_17) rfl rfl rfl ?_
  obtain ⟨cq4, kq4, q4a, q4b, q4c⟩ := isOf hZ e3 E_a
  obtain ⟨_, _, ⟨T4, L4, k4, n4⟩, -, X4, ⟨Lc4, hQ4, l4, y4, z4⟩, st4⟩ := X3.virtualBack hx (y := (⟨"java/lang/AbstractStringBuilder", "isLatin1", "()Z"⟩ : MethodName)) (z := (⟨"java/lang/AbstractStringBuilder", "isLatin1", "()Z"⟩ : MethodName)) hown (mvT hZ (ow hw 217 rfl)) (mvT hZ (ow hw 185 rfl)) (notFace_of_selects (args := #[]) (mvT hZ (ow hw 187 rfl))) (mvT hZ (ow hw 187 rfl)) (mvT hZ (ow hw 186 rfl)) (by decide) (backOf (W := 0) (rmAL1 l Z a0 hw [] a cs h0 n0 Z0 O0 F_a_coder S_cs n_cs) hZ (ow hw 188 rfl) (ow hw 68 rfl) (by decide) (by decide)) q4a q4c (g := (mkF m 18 #[rv a, iv pv, iv (Int32.ofNat xs.length), iv (Int32.ofNat (xs ++ own_dg pv).length)] [(.ref a)])) rfl (by rw [hml]; rfl) (Steps.refl _) (argsL := []) (rest := []) (lenOf pd_67 rfl) rfl (by show 2 * 0 + _ ≤ _; exact Nat.le_of_eq rfl) (hb hby d39_18) (fun _ _ => ⟨rfl, e3, (by decide : 0 + 0 ≤ _), (by decide : 0 + 0 ≤ _)⟩)
  dsimp only [Pt.U, Pt.locs, Pt.cells, Pt.slots] at X4 l4 y4 z4 st4 hQ4
  subst l4 y4 z4
  obtain ⟨rfl, N4q, e4⟩ := hQ4
  have N4 := Fr.app N3 N4q
  refine Go.to st4 ?_
  show Go _ _ _ _ T4 (mkF m 21 #[rv a, iv pv, iv (Int32.ofNat xs.length), iv (Int32.ofNat (xs ++ own_dg pv).length)] [(.int 1)])
  refine Go.ifN 24 X4 hx (hb hby d39_21) (XT.i0_eq_f (by decide)) rfl ?_
  refine Go.iload1 25 X4 hx (hb hby d39_24) rfl rfl ?_
  refine Go.iload1 26 X4 hx (hb hby d39_25) rfl rfl ?_
  refine Go.aload1 27 X4 hx (hb hby d39_26) rfl rfl rfl ?_
  obtain ⟨T5, X5, e5, st5⟩ := getF X4 hx hZ hown (host := "") (Or.inl (ow hw 72 rfl)) Via.refl e4 F_a_value (g := (mkF m 27 #[rv a, iv pv, iv (Int32.ofNat xs.length), iv (Int32.ofNat (xs ++ own_dg pv).length)] [(.ref a), (.int (Int32.ofNat (xs ++ own_dg pv).length)), (.int pv)])) rfl rfl (hb hby d39_27)
  refine Go.by st5 ?_
  show Go _ _ _ _ T5 (mkF m 30 #[rv a, iv pv, iv (Int32.ofNat xs.length), iv (Int32.ofNat (xs ++ own_dg pv).length)] [(.ref b), (.int (Int32.ofNat (xs ++ own_dg pv).length)), (.int pv)])
  obtain ⟨_, _, ⟨T6, L6, k6, n6⟩, -, X6, ⟨Lc6, hQ6, l6, y6, z6⟩, st6⟩ := Jvm.LawKit.callS X5 hx (y := (⟨"java/lang/Integer", "getChars", "(II[B)I"⟩ : MethodName)) hown (mvT hZ (ow hw 218 rfl)) (mvT hZ (ow hw 219 rfl)) (mvT hZ (ow hw 215 rfl)) (mvT hZ (ow hw 220 rfl)) (by decide) (backOf (W := 0) (rmGetChars l Z a0 hw [] pv b kb xs d1 d2 kd1 kd2 h0 n0 Z0 O0 V_b g_b hp h16 S_d1 V_d1 S_d2 V_d2) hZ (ow hw 220 rfl) (ow hw 215 rfl) (by decide) (by decide)) (g := (mkF m 30 #[rv a, iv pv, iv (Int32.ofNat xs.length), iv (Int32.ofNat (xs ++ own_dg pv).length)] [(.ref b), (.int (Int32.ofNat (xs ++ own_dg pv).length)), (.int pv)])) rfl (by rw [hml]; rfl) (argsL := [(.int pv), (.int (Int32.ofNat (xs ++ own_dg pv).length)), (.ref b)]) (rest := []) (lenOf pd_417 rfl) rfl (by show 2 * 0 + _ ≤ _; exact Nat.le_of_eq rfl) (hb hby d39_30) (fun _ _ => ⟨rfl, e5, (by decide : 0 + 0 ≤ _), (by decide : 0 + 0 ≤ _)⟩)
  dsimp only [Pt.U, Pt.locs, Pt.cells, Pt.slots] at X6 l6 y6 z6 st6 hQ6
  subst l6 y6 z6
  obtain ⟨rfl, N6q, K6, Q6_0⟩ := hQ6
  have N6 := Fr.app N4 N6q
  refine Go.by st6 ?_
  show Go _ _ _ _ T6 (mkF m 33 #[rv a, iv pv, iv (Int32.ofNat xs.length), iv (Int32.ofNat (xs ++ own_dg pv).length)] [(.int (Int32.ofNat (xs.length + 0)))])
  refine Go.pop 34 X6 hx (hb hby d39_33) rfl rfl ?_
  refine Go.goto 48 X6 hx (hb hby d39_34) (by decide) (by decide) ?_
  refine Go.aload1 49 X6 hx (hb hby d39_48) rfl rfl rfl ?_
  refine Go.iload1 50 X6 hx (hb hby d39_49) rfl rfl ?_
  have F7 : Fld Z T6.heap a "java/lang/AbstractStringBuilder" "count" "I" (.int (Int32.ofNat xs.length)) := F_a_count.keep K6 (ninS ne_a_b nin0)
  have F8 : Exa Z T6.heap a "java/lang/StringBuilder" := E_a.keep K6
  obtain ⟨T9, h9, X9, e9, W9, st9⟩ := putF X6 hx hZ hown (host := "") (Or.inl (ow hw 131 rfl)) Via.refl rfl F7 F8 (Or.inl (ow hw 132 rfl)) (ow hw 59 rfl) (ty := .int) (by decide) rfl rfl (g := (mkF m 50 #[rv a, iv pv, iv (Int32.ofNat xs.length), iv (Int32.ofNat (xs ++ own_dg pv).length)] [(.int (Int32.ofNat (xs ++ own_dg pv).length)), (.ref a)])) rfl rfl (hb hby d39_50)
  have N9 := Fr.snoc X9 N6 g_a
  have Fw9 : Fld Z h9 a "java/lang/AbstractStringBuilder" "count" "I" (.int (Int32.ofNat (xs ++ own_dg pv).length)) := F7.same W9
  refine Go.by st9 ?_
  show Go _ _ _ _ T9 (mkF m 53 #[rv a, iv pv, iv (Int32.ofNat xs.length), iv (Int32.ofNat (xs ++ own_dg pv).length)] [])
  refine Go.aload1 54 X9 hx (hb hby d39_53) rfl rfl rfl ?_
  have F10 : Keep h0 T6.heap [a, b] := (Keep.refl h0 [a, b]).trans K6 (allS (Or.inl (List.mem_of_getElem? (i := 1) rfl)) all0)
  have F11 : Keep h0 h9 [a, b] := F10.wr W9 (Or.inl (List.mem_of_getElem? (i := 0) rfl))
  have F12 : Exa Z h9 a "java/lang/StringBuilder" := F8.wr W9
  have F13 : Fld Z T6.heap a "java/lang/AbstractStringBuilder" "coder" "B" (.int 0) := F_a_coder.keep K6 (ninS ne_a_b nin0)
  have F14 : Fld Z h9 a "java/lang/AbstractStringBuilder" "coder" "B" (.int 0) := F13.other W9 (Or.inr (slot_ne (Or.inl (ow hw 75 rfl)) (Or.inl (ow hw 132 rfl)) (by decide) (t := .byte) (t' := .int) (by decide) (by decide)))
  have F15 : Fld Z T6.heap a "java/lang/AbstractStringBuilder" "value" "[B" (.ref b) := F_a_value.keep K6 (ninS ne_a_b nin0)
  have F16 : Fld Z h9 a "java/lang/AbstractStringBuilder" "value" "[B" (.ref b) := F15.other W9 (Or.inr (slot_ne (Or.inl (ow hw 73 rfl)) (Or.inl (ow hw 132 rfl)) (by decide) (t := (.array .byte)) (t' := .int) (by decide) (by decide)))
  have F17 : Arv Z h9 b kb .byte (16 : Int32) (xs ++ own_dg pv) (.int 0) := Q6_0.other W9 (Ne.symm ne_a_b)
  exact Go.retA X9 hx Bd.notSynchronized Bd.returns rfl rfl (hb hby d39_54) (by rw [e9]; exact ⟨rfl, N9, F11, F12, F14, F16, Fw9, F17⟩) (by decide) (by decide)
theorem d38_0 : decode jdk_67_method_15_code 0 = .ok (.aload_n 0, 1) := by decide +kernel
theorem d38_1 : decode jdk_67_method_15_code 1 = .ok (.iload_n 1, 1) := by decide +kernel
theorem pd_428 : parseMethodDescriptor "(I)Ljava/lang/AbstractStringBuilder;" = some ⟨[.int], some (.object "java/lang/AbstractStringBuilder")⟩ := by decide +kernel
theorem d38_2 : decode jdk_67_method_15_code 2 = .ok (.invokespecial 53, 3) := by decide +kernel
theorem d38_5 : decode jdk_67_method_15_code 5 = .ok (.pop, 1) := by decide +kernel
theorem d38_6 : decode jdk_67_method_15_code 6 = .ok (.aload_n 0, 1) := by decide +kernel
theorem d38_7 : decode jdk_67_method_15_code 7 = .ok (.areturn, 1) := by decide +kernel
def Q_rmAppI (Z : State) (a : Addr) (b : Addr) (kb : ClassId) (xs : List Value) (pv : Int32) (cs : Int32) (d1 : Addr) (d2 : Addr) (kd1 : ClassId) (kd2 : ClassId) (h0 : Heap) (n0 : Nat) (v : Option Value) (h : Heap) (L : List Loc) : Prop := v = some (.ref a) ∧ Fr n0 L ∧ Keep h0 h [a, b] ∧ Exa Z h a "java/lang/StringBuilder" ∧ Fld Z h a "java/lang/AbstractStringBuilder" "coder" "B" (.int 0) ∧ Fld Z h a "java/lang/AbstractStringBuilder" "value" "[B" (.ref b) ∧ Fld Z h a "java/lang/AbstractStringBuilder" "count" "I" (.int (Int32.ofNat (xs ++ own_dg pv).length)) ∧ Arv Z h b kb .byte (16 : Int32) (xs ++ own_dg pv) (.int 0)
theorem rmAppI (l : Launch) (Z : State) (a0 : Array Value) (hw : ∀ d ∈ tables_1, d.before a0 Z = true) (ws : List Jvm.Cond) (a : Addr) (b : Addr) (kb : ClassId) (xs : List Value) (pv : Int32) (cs : Int32) (d1 : Addr) (d2 : Addr) (kd1 : ClassId) (kd2 : ClassId) (h0 : Heap) (n0 : Nat) (Z0 : n0 ≤ h0.size) (O0 : Old Z n0 h0) (E_a : Exa Z h0 a "java/lang/StringBuilder") (F_a_coder : Fld Z h0 a "java/lang/AbstractStringBuilder" "coder" "B" (.int 0)) (F_a_value : Fld Z h0 a "java/lang/AbstractStringBuilder" "value" "[B" (.ref b)) (F_a_count : Fld Z h0 a "java/lang/AbstractStringBuilder" "count" "I" (.int (Int32.ofNat xs.length))) (V_b : Arv Z h0 b kb .byte (16 : Int32) xs (.int 0)) (g_a : n0 ≤ a) (g_b : n0 ≤ b) (ne_a_b : a ≠ b) (hp : (0 < pv.toInt ∧ pv.toInt ≤ 65535)) (h16 : ((xs ++ own_dg pv).length ≤ 16)) (S_cs : Sta Z Z.heap "java/lang/String" "COMPACT_STRINGS" "Z" (.int cs)) (n_cs : ¬ cs = 0) (S_d1 : Sta Z Z.heap "java/lang/Integer" "DigitOnes" "[B" (.ref d1)) (V_d1 : Arv Z Z.heap d1 kd1 .byte (100 : Int32) own_ones (.int 0)) (S_d2 : Sta Z Z.heap "java/lang/Integer" "DigitTens" "[B" (.ref d2)) (V_d2 : Arv Z Z.heap d2 kd2 .byte (100 : Int32) own_tens (.int 0)) :
    MetN l Z ws (⟨"java/lang/StringBuilder", "append", "(I)Ljava/lang/StringBuilder;"⟩ : MethodName) jdk_67_method_15_code 2 (some (.object "java/lang/StringBuilder")) ({ frames := 2, cells := 0, slots := 0, locals := 33 } : Room) #[(.ref a), (.int pv)] h0 (Q_rmAppI Z a b kb xs pv cs d1 d2 kd1 kd2 h0 n0) := by
  refine MetN.go (plainFor_of_name pn_106) n0 fun p e s m below meth c s₁ Bd hx hby hml hZ hh hown hnm X0 e0 N0 => ?_
  have hown : s.vm.findClass "java/lang/StringBuilder" = some m.cls := hown
  refine Go.ent (ef_53 m a pv) ?_
  show Go _ _ _ _ s₁ (mkF m 0 #[rv a, iv pv] [])
  refine Go.aload1 1 X0 hx (hb hby d38_0) rfl rfl rfl ?_
  refine Go.iload1 2 X0 hx (hb hby d38_1) rfl rfl ?_
  obtain ⟨_, _, ⟨T1, L1, k1, n1⟩, -, X1, ⟨Lc1, hQ1, l1, y1, z1⟩, st1⟩ := superBack X0 hx hZ (y := (⟨"java/lang/AbstractStringBuilder", "append", "(I)Ljava/lang/AbstractStringBuilder;"⟩ : MethodName)) hown (ow hw 209 rfl) (own_same (C := "java/lang/StringBuilder") (z := (⟨"java/lang/AbstractStringBuilder", "ensureCapacityInternal", "(I)V"⟩ : MethodName)) (ow hw 211 rfl) (ow hw 136 rfl) rfl (by decide)) (ow hw 210 rfl) (ow hw 123 rfl) (by decide) (backOf (W := 0) (rmAppAI l Z a0 hw [] a b kb xs pv cs d1 d2 kd1 kd2 h0 n0 Z0 O0 E_a F_a_coder F_a_value F_a_count V_b g_a g_b ne_a_b hp h16 S_cs n_cs S_d1 V_d1 S_d2 V_d2) hZ (ow hw 212 rfl) (ow hw 68 rfl) (by decide) (by decide)) e0 (Ins.self E_a) (g := (mkF m 2 #[rv a, iv pv] [(.int pv), (.ref a)])) rfl (by rw [hml]; rfl) (ow hw 212 rfl) (argsL := [(.int pv)]) (rest := []) (lenOf pd_428 rfl) rfl (by show 2 * 0 + _ ≤ _; exact Nat.le_of_eq rfl) (hb hby d38_2) (fun _ _ => ⟨rfl, e0, (by decide : 0 + 0 ≤ _), (by decide : 0 + 0 ≤ _)⟩)
  dsimp only [Pt.U, Pt.locs, Pt.cells, Pt.slots] at X1 l1 y1 z1 st1 hQ1
  subst l1 y1 z1
  obtain ⟨rfl, N1q, K1, Q1_0, Q1_1, Q1_2, Q1_3, Q1_4⟩ := hQ1
  have N1 := Fr.app N0 N1q
  refine Go.to st1 ?_
  show Go _ _ _ _ T1 (mkF m 5 #[rv a, iv pv] [(.ref a)])
  refine Go.pop 6 X1 hx (hb hby d38_5) rfl rfl ?_
  refine Go.aload1 7 X1 hx (hb hby d38_6) rfl rfl rfl ?_
  have F2 : Keep h0 T1.heap [a, b] := (Keep.refl h0 [a, b]).trans K1 (allS (Or.inl (List.mem_of_getElem? (i := 0) rfl)) (allS (Or.inl (List.mem_of_getElem? (i := 1) rfl)) all0))
  exact Go.retA X1 hx Bd.notSynchronized Bd.returns rfl rfl (hb hby d38_7) ⟨rfl, N1, F2, Q1_0, Q1_1, Q1_2, Q1_3, Q1_4⟩ (by decide) (by decide)
theorem ef_433 (m : MethodId) (x0 : Addr) (x1 : Int32) (x2 : Addr) (x3 : Int32) (x4 : Int32) : entryFrame m #[(.ref x0), (.int x1), (.ref x2), (.int x3), (.int x4)] 11 = mkF m 0 #[rv x0, iv x1, rv x2, iv x3, iv x4, un, un, un, un, un, un] [] := by (first | (simp [entryFrame, mkF, argsToLocals, Value.category]; done) | rfl)
theorem d19_0 : decode jdk_43_method_25_code 0 = .ok (.aload_n 2, 1) := by decide +kernel
theorem d19_1 : decode jdk_43_method_25_code 1 = .ok (.iconst 0, 1) := by decide +kernel
theorem d19_2 : decode jdk_43_method_25_code 2 = .ok (.baload, 1) := by decide +kernel
theorem d19_3 : decode jdk_43_method_25_code 3 = .ok (.istore 5, 2) := by decide +kernel
theorem d19_5 : decode jdk_43_method_25_code 5 = .ok (.iload_n 1, 1) := by decide +kernel
theorem d19_6 : decode jdk_43_method_25_code 6 = .ok (.iload_n 3, 1) := by decide +kernel
theorem d19_7 : decode jdk_43_method_25_code 7 = .ok (.isub, 1) := by decide +kernel
theorem d19_8 : decode jdk_43_method_25_code 8 = .ok (.istore 6, 2) := by decide +kernel
theorem d19_10 : decode jdk_43_method_25_code 10 = .ok (.iload 4, 2) := by decide +kernel
theorem d19_12 : decode jdk_43_method_25_code 12 = .ok (.istore 7, 2) := by decide +kernel
theorem d19_14 : decode jdk_43_method_25_code 14 = .ok (.iload 7, 2) := by decide +kernel
theorem d19_16 : decode jdk_43_method_25_code 16 = .ok (.iload 6, 2) := by decide +kernel
theorem d19_18 : decode jdk_43_method_25_code 18 = .ok (.if_icmp .gt 101, 3) := by decide +kernel
theorem d19_21 : decode jdk_43_method_25_code 21 = .ok (.aload_n 0, 1) := by decide +kernel
theorem d19_22 : decode jdk_43_method_25_code 22 = .ok (.iload 7, 2) := by decide +kernel
theorem d19_24 : decode jdk_43_method_25_code 24 = .ok (.baload, 1) := by decide +kernel
theorem d19_25 : decode jdk_43_method_25_code 25 = .ok (.iload 5, 2) := by decide +kernel
theorem d19_27 : decode jdk_43_method_25_code 27 = .ok (.if_icmp .eq 25, 3) := by decide +kernel
theorem d19_52 : decode jdk_43_method_25_code 52 = .ok (.iload 7, 2) := by decide +kernel
theorem d19_54 : decode jdk_43_method_25_code 54 = .ok (.iload 6, 2) := by decide +kernel
theorem d19_56 : decode jdk_43_method_25_code 56 = .ok (.if_icmp .gt 57, 3) := by decide +kernel
theorem d19_59 : decode jdk_43_method_25_code 59 = .ok (.iload 7, 2) := by decide +kernel
theorem d19_61 : decode jdk_43_method_25_code 61 = .ok (.iconst 1, 1) := by decide +kernel
theorem d19_62 : decode jdk_43_method_25_code 62 = .ok (.iadd, 1) := by decide +kernel
theorem d19_63 : decode jdk_43_method_25_code 63 = .ok (.istore 8, 2) := by decide +kernel
theorem d19_65 : decode jdk_43_method_25_code 65 = .ok (.iload 8, 2) := by decide +kernel
theorem d19_67 : decode jdk_43_method_25_code 67 = .ok (.iload_n 3, 1) := by decide +kernel
theorem d19_68 : decode jdk_43_method_25_code 68 = .ok (.iadd, 1) := by decide +kernel
theorem d19_69 : decode jdk_43_method_25_code 69 = .ok (.iconst 1, 1) := by decide +kernel
theorem d19_70 : decode jdk_43_method_25_code 70 = .ok (.isub, 1) := by decide +kernel
theorem d19_71 : decode jdk_43_method_25_code 71 = .ok (.istore 9, 2) := by decide +kernel
theorem d19_73 : decode jdk_43_method_25_code 73 = .ok (.iconst 1, 1) := by decide +kernel
theorem d19_74 : decode jdk_43_method_25_code 74 = .ok (.istore 10, 2) := by decide +kernel
theorem d19_76 : decode jdk_43_method_25_code 76 = .ok (.iload 8, 2) := by decide +kernel
theorem d19_78 : decode jdk_43_method_25_code 78 = .ok (.iload 9, 2) := by decide +kernel
theorem d19_80 : decode jdk_43_method_25_code 80 = .ok (.if_icmp .ge 23, 3) := by decide +kernel
theorem d19_103 : decode jdk_43_method_25_code 103 = .ok (.iload 8, 2) := by decide +kernel
theorem d19_105 : decode jdk_43_method_25_code 105 = .ok (.iload 9, 2) := by decide +kernel
theorem d19_107 : decode jdk_43_method_25_code 107 = .ok (.if_icmp .ne 6, 3) := by decide +kernel
theorem d19_110 : decode jdk_43_method_25_code 110 = .ok (.iload 7, 2) := by decide +kernel
theorem d19_112 : decode jdk_43_method_25_code 112 = .ok (.ireturn, 1) := by decide +kernel
theorem d19_30 : decode jdk_43_method_25_code 30 = .ok (.iinc 7 1, 3) := by decide +kernel
theorem d19_33 : decode jdk_43_method_25_code 33 = .ok (.iload 7, 2) := by decide +kernel
theorem d19_35 : decode jdk_43_method_25_code 35 = .ok (.iload 6, 2) := by decide +kernel
theorem d19_37 : decode jdk_43_method_25_code 37 = .ok (.if_icmp .gt 15, 3) := by decide +kernel
theorem d19_113 : decode jdk_43_method_25_code 113 = .ok (.iinc 7 1, 3) := by decide +kernel
theorem d19_116 : decode jdk_43_method_25_code 116 = .ok (.goto (-102), 3) := by decide +kernel
theorem d19_119 : decode jdk_43_method_25_code 119 = .ok (.iconst (-1), 1) := by decide +kernel
theorem d19_120 : decode jdk_43_method_25_code 120 = .ok (.ireturn, 1) := by decide +kernel
theorem d19_40 : decode jdk_43_method_25_code 40 = .ok (.aload_n 0, 1) := by decide +kernel
theorem d19_41 : decode jdk_43_method_25_code 41 = .ok (.iload 7, 2) := by decide +kernel
theorem d19_43 : decode jdk_43_method_25_code 43 = .ok (.baload, 1) := by decide +kernel
theorem d19_44 : decode jdk_43_method_25_code 44 = .ok (.iload 5, 2) := by decide +kernel
theorem d19_46 : decode jdk_43_method_25_code 46 = .ok (.if_icmp .eq 6, 3) := by decide +kernel
theorem d19_49 : decode jdk_43_method_25_code 49 = .ok (.goto (-19), 3) := by decide +kernel
def Q_rmIdx5 (Z : State) (sv : Addr) (ks : ClassId) (tv : Addr) (kt : ClassId) (hl : List Value) (h0 : Heap) (n0 : Nat) (v : Option Value) (h : Heap) (L : List Loc) : Prop := ∃ r : Int32, v = some (.int r) ∧ Fr n0 L ∧ h = h0 ∧ ((¬ r < 0 ∧ (Value.int 58 ∈ hl)) ∨ (r < 0 ∧ ¬ (Value.int 58 ∈ hl)))
theorem rmIdx5 (l : Launch) (Z : State) (a0 : Array Value) (hw : ∀ d ∈ tables_1, d.before a0 Z = true) (ws : List Jvm.Cond) (sv : Addr) (ks : ClassId) (tv : Addr) (kt : ClassId) (hl : List Value) (h0 : Heap) (n0 : Nat) (Z0 : n0 ≤ h0.size) (V_sv : Arv Z h0 sv ks .byte (Int32.ofNat hl.length) hl (.int 0)) (V_tv : Arv Z h0 tv kt .byte (1 : Int32) ([(.int 58)]) (.int 0)) (hho : (own_host hl)) :
    MetN l Z ws (⟨"java/lang/StringLatin1", "indexOf", "([BI[BII)I"⟩ : MethodName) jdk_43_method_25_code 11 (some .int) ({ frames := 0, cells := 0, slots := 0, locals := 0 } : Room) #[(.ref sv), (.int (Int32.ofNat hl.length)), (.ref tv), (.int 1), (.int 0)] h0 (Q_rmIdx5 Z sv ks tv kt hl h0 n0) := by
  refine MetN.go (plainFor_of_name pn_52) n0 fun p e s m below meth c s₁ Bd hx hby hml hZ hh hown hnm X0 e0 N0 => ?_
  have hown : s.vm.findClass "java/lang/StringLatin1" = some m.cls := hown
  refine Go.ent (ef_433 m sv (Int32.ofNat hl.length) tv (1 : Int32) (0 : Int32)) ?_
  show Go _ _ _ _ s₁ (mkF m 0 #[rv sv, iv (Int32.ofNat hl.length), rv tv, iv 1, iv 0, un, un, un, un, un, un] [])
  rcases hho with ⟨b0x, rfl⟩ | ⟨b0x, b1x, rfl⟩ | ⟨b0x, b1x, b2x, rfl⟩
  · show Go _ _ _ _ s₁ (mkF m 0 #[rv sv, iv 1, rv tv, iv 1, iv 0, un, un, un, un, un, un] [])
    have Vl : Arv Z h0 sv ks .byte (1 : Int32) [(.int b0x)] (.int 0) := V_sv
    refine Go.aload1 1 X0 hx (hb hby d19_0) rfl rfl rfl ?_
    refine Go.iconst 2 X0 hx (0 : Int32) (hb hby d19_1) (by decide) rfl ?_
    obtain ⟨cl1, Ar1, -, S1, M1, H1, -⟩ := id V_tv
    have hin1 : ¬ ((0 : Int32) < 0 ∨ cl1.slots.size ≤ (0 : Int32).toNatClampNeg) := inb_of S1 ⟨by decide, by decide⟩
    refine Go.by (fun _ gk => X0.baloadBytes hx (j := (0 : Int32)) (v := (.int 58)) (by rw [e0]; exact Ar1.1) (State.isArrayOf_alike hZ.alike Ar1.2.1) Ar1.2.2 hin1 (Has.at H1 hin1 rfl) (g := (mkF m 2 #[rv sv, iv 1, rv tv, iv 1, iv 0, un, un, un, un, un, un] [(.int 0), (.ref tv)])) rfl rfl (hb hby d19_2) _ gk) ?_
    show Go _ _ _ _ s₁ (mkF m 3 #[rv sv, iv 1, rv tv, iv 1, iv 0, un, un, un, un, un, un] [(.int 58)])
    refine Go.istore2 5 X0 hx (L' := #[rv sv, iv 1, rv tv, iv 1, iv 0, iv 58, un, un, un, un, un]) (hb hby d19_3) rfl rfl ?_
    refine Go.iload1 6 X0 hx (hb hby d19_5) rfl rfl ?_
    refine Go.iload1 7 X0 hx (hb hby d19_6) rfl rfl ?_
    refine Go.isub 8 X0 hx (hb hby d19_7) rfl ?_
    rw [(by decide : ((1 : Int32) - (1 : Int32)) = (0 : Int32))]
    refine Go.istore2 10 X0 hx (L' := #[rv sv, iv 1, rv tv, iv 1, iv 0, iv 58, iv 0, un, un, un, un]) (hb hby d19_8) rfl rfl ?_
    refine Go.iload2 12 X0 hx (hb hby d19_10) rfl rfl ?_
    refine Go.istore2 14 X0 hx (L' := #[rv sv, iv 1, rv tv, iv 1, iv 0, iv 58, iv 0, iv 0, un, un, un]) (hb hby d19_12) rfl rfl ?_
    refine Go.iload2 16 X0 hx (hb hby d19_14) rfl rfl ?_
    refine Go.iload2 18 X0 hx (hb hby d19_16) rfl rfl ?_
    refine Go.icmpN 21 X0 hx (hb hby d19_18) (XT.ii_gt_f (by decide)) rfl ?_
    refine Go.aload1 22 X0 hx (hb hby d19_21) rfl rfl rfl ?_
    refine Go.iload2 24 X0 hx (hb hby d19_22) rfl rfl ?_
    obtain ⟨cl2, Ar2, -, S2, M2, H2, -⟩ := id Vl
    have hin2 : ¬ ((0 : Int32) < 0 ∨ cl2.slots.size ≤ (0 : Int32).toNatClampNeg) := inb_of S2 ⟨by decide, by decide⟩
    refine Go.by (fun _ gk => X0.baloadBytes hx (j := (0 : Int32)) (v := (.int b0x)) (by rw [e0]; exact Ar2.1) (State.isArrayOf_alike hZ.alike Ar2.2.1) Ar2.2.2 hin2 (Has.at H2 hin2 rfl) (g := (mkF m 24 #[rv sv, iv 1, rv tv, iv 1, iv 0, iv 58, iv 0, iv 0, un, un, un] [(.int 0), (.ref sv)])) rfl rfl (hb hby d19_24) _ gk) ?_
    show Go _ _ _ _ s₁ (mkF m 25 #[rv sv, iv 1, rv tv, iv 1, iv 0, iv 58, iv 0, iv 0, un, un, un] [(.int b0x)])
    refine Go.iload2 27 X0 hx (hb hby d19_25) rfl rfl ?_
    by_cases hb3 : b0x = (58 : Int32)
    · refine Go.icmpY 52 X0 hx (hb hby d19_27) (XT.ii_eq_t hb3) (by decide) (by decide) ?_
      refine Go.iload2 54 X0 hx (hb hby d19_52) rfl rfl ?_
      refine Go.iload2 56 X0 hx (hb hby d19_54) rfl rfl ?_
      refine Go.icmpN 59 X0 hx (hb hby d19_56) (XT.ii_gt_f (by decide)) rfl ?_
      refine Go.iload2 61 X0 hx (hb hby d19_59) rfl rfl ?_
      refine Go.iconst 62 X0 hx (1 : Int32) (hb hby d19_61) (by decide) rfl ?_
      refine Go.iadd 63 X0 hx (hb hby d19_62) rfl ?_
      rw [(by decide : ((0 : Int32) + (1 : Int32)) = (1 : Int32))]
      refine Go.istore2 65 X0 hx (L' := #[rv sv, iv 1, rv tv, iv 1, iv 0, iv 58, iv 0, iv 0, iv 1, un, un]) (hb hby d19_63) rfl rfl ?_
      refine Go.iload2 67 X0 hx (hb hby d19_65) rfl rfl ?_
      refine Go.iload1 68 X0 hx (hb hby d19_67) rfl rfl ?_
      refine Go.iadd 69 X0 hx (hb hby d19_68) rfl ?_
      rw [(by decide : ((1 : Int32) + (1 : Int32)) = (2 : Int32))]
      refine Go.iconst 70 X0 hx (1 : Int32) (hb hby d19_69) (by decide) rfl ?_
      refine Go.isub 71 X0 hx (hb hby d19_70) rfl ?_
      rw [(by decide : ((2 : Int32) - (1 : Int32)) = (1 : Int32))]
      refine Go.istore2 73 X0 hx (L' := #[rv sv, iv 1, rv tv, iv 1, iv 0, iv 58, iv 0, iv 0, iv 1, iv 1, un]) (hb hby d19_71) rfl rfl ?_
      refine Go.iconst 74 X0 hx (1 : Int32) (hb hby d19_73) (by decide) rfl ?_
      refine Go.istore2 76 X0 hx (L' := #[rv sv, iv 1, rv tv, iv 1, iv 0, iv 58, iv 0, iv 0, iv 1, iv 1, iv 1]) (hb hby d19_74) rfl rfl ?_
      refine Go.iload2 78 X0 hx (hb hby d19_76) rfl rfl ?_
      refine Go.iload2 80 X0 hx (hb hby d19_78) rfl rfl ?_
      refine Go.icmpY 103 X0 hx (hb hby d19_80) (XT.ii_ge_t (by decide)) (by decide) (by decide) ?_
      refine Go.iload2 105 X0 hx (hb hby d19_103) rfl rfl ?_
      refine Go.iload2 107 X0 hx (hb hby d19_105) rfl rfl ?_
      refine Go.icmpN 110 X0 hx (hb hby d19_107) (XT.ii_ne_f rfl) rfl ?_
      refine Go.iload2 112 X0 hx (hb hby d19_110) rfl rfl ?_
      exact Go.retI X0 hx Bd.notSynchronized Bd.returns rfl (by simp) (hb hby d19_112) (by rw [e0]; exact ⟨(0 : Int32), rfl, N0, rfl, Or.inl ⟨by decide, (own_mH hb3)⟩⟩) (by decide) (by decide)
    · refine Go.icmpN 30 X0 hx (hb hby d19_27) (XT.ii_eq_f hb3) rfl ?_
      refine Go.iinc 33 X0 hx (1 : Int32) (L' := #[rv sv, iv 1, rv tv, iv 1, iv 0, iv 58, iv 0, iv 1, un, un, un]) (hb hby d19_30) (by decide) rfl rfl rfl ?_
      refine Go.iload2 35 X0 hx (hb hby d19_33) rfl rfl ?_
      refine Go.iload2 37 X0 hx (hb hby d19_35) rfl rfl ?_
      refine Go.icmpY 52 X0 hx (hb hby d19_37) (XT.ii_gt_t (by decide)) (by decide) (by decide) ?_
      refine Go.iload2 54 X0 hx (hb hby d19_52) rfl rfl ?_
      refine Go.iload2 56 X0 hx (hb hby d19_54) rfl rfl ?_
      refine Go.icmpY 113 X0 hx (hb hby d19_56) (XT.ii_gt_t (by decide)) (by decide) (by decide) ?_
      refine Go.iinc 116 X0 hx (1 : Int32) (L' := #[rv sv, iv 1, rv tv, iv 1, iv 0, iv 58, iv 0, iv 2, un, un, un]) (hb hby d19_113) (by decide) rfl rfl rfl ?_
      refine Go.goto 14 X0 hx (hb hby d19_116) (by decide) (by decide) ?_
      refine Go.iload2 16 X0 hx (hb hby d19_14) rfl rfl ?_
      refine Go.iload2 18 X0 hx (hb hby d19_16) rfl rfl ?_
      refine Go.icmpY 119 X0 hx (hb hby d19_18) (XT.ii_gt_t (by decide)) (by decide) (by decide) ?_
      refine Go.iconst 120 X0 hx (-1 : Int32) (hb hby d19_119) (by decide) rfl ?_
      exact Go.retI X0 hx Bd.notSynchronized Bd.returns rfl (by simp) (hb hby d19_120) (by rw [e0]; exact ⟨(-1 : Int32), rfl, N0, rfl, Or.inr ⟨by decide, (own_nmC hb3 own_nm0)⟩⟩) (by decide) (by decide)
  · show Go _ _ _ _ s₁ (mkF m 0 #[rv sv, iv 2, rv tv, iv 1, iv 0, un, un, un, un, un, un] [])
    have Vl : Arv Z h0 sv ks .byte (2 : Int32) [(.int b0x), (.int b1x)] (.int 0) := V_sv
    refine Go.aload1 1 X0 hx (hb hby d19_0) rfl rfl rfl ?_
    refine Go.iconst 2 X0 hx (0 : Int32) (hb hby d19_1) (by decide) rfl ?_
    obtain ⟨cl4, Ar4, -, S4, M4, H4, -⟩ := id V_tv
    have hin4 : ¬ ((0 : Int32) < 0 ∨ cl4.slots.size ≤ (0 : Int32).toNatClampNeg) := inb_of S4 ⟨by decide, by decide⟩
    refine Go.by (fun _ gk => X0.baloadBytes hx (j := (0 : Int32)) (v := (.int 58)) (by rw [e0]; exact Ar4.1) (State.isArrayOf_alike hZ.alike Ar4.2.1) Ar4.2.2 hin4 (Has.at H4 hin4 rfl) (g := (mkF m 2 #[rv sv, iv 2, rv tv, iv 1, iv 0, un, un, un, un, un, un] [(.int 0), (.ref tv)])) rfl rfl (hb hby d19_2) _ gk) ?_
    show Go _ _ _ _ s₁ (mkF m 3 #[rv sv, iv 2, rv tv, iv 1, iv 0, un, un, un, un, un, un] [(.int 58)])
    refine Go.istore2 5 X0 hx (L' := #[rv sv, iv 2, rv tv, iv 1, iv 0, iv 58, un, un, un, un, un]) (hb hby d19_3) rfl rfl ?_
    refine Go.iload1 6 X0 hx (hb hby d19_5) rfl rfl ?_
    refine Go.iload1 7 X0 hx (hb hby d19_6) rfl rfl ?_
    refine Go.isub 8 X0 hx (hb hby d19_7) rfl ?_
    rw [(by decide : ((2 : Int32) - (1 : Int32)) = (1 : Int32))]
    refine Go.istore2 10 X0 hx (L' := #[rv sv, iv 2, rv tv, iv 1, iv 0, iv 58, iv 1, un, un, un, un]) (hb hby d19_8) rfl rfl ?_
    refine Go.iload2 12 X0 hx (hb hby d19_10) rfl rfl ?_
    refine Go.istore2 14 X0 hx (L' := #[rv sv, iv 2, rv tv, iv 1, iv 0, iv 58, iv 1, iv 0, un, un, un]) (hb hby d19_12) rfl rfl ?_
    refine Go.iload2 16 X0 hx (hb hby d19_14) rfl rfl ?_
    refine Go.iload2 18 X0 hx (hb hby d19_16) rfl rfl ?_
    refine Go.icmpN 21 X0 hx (hb hby d19_18) (XT.ii_gt_f (by decide)) rfl ?_
    refine Go.aload1 22 X0 hx (hb hby d19_21) rfl rfl rfl ?_
    refine Go.iload2 24 X0 hx (hb hby d19_22) rfl rfl ?_
    obtain ⟨cl5, Ar5, -, S5, M5, H5, -⟩ := id Vl
    have hin5 : ¬ ((0 : Int32) < 0 ∨ cl5.slots.size ≤ (0 : Int32).toNatClampNeg) := inb_of S5 ⟨by decide, by decide⟩
    refine Go.by (fun _ gk => X0.baloadBytes hx (j := (0 : Int32)) (v := (.int b0x)) (by rw [e0]; exact Ar5.1) (State.isArrayOf_alike hZ.alike Ar5.2.1) Ar5.2.2 hin5 (Has.at H5 hin5 rfl) (g := (mkF m 24 #[rv sv, iv 2, rv tv, iv 1, iv 0, iv 58, iv 1, iv 0, un, un, un] [(.int 0), (.ref sv)])) rfl rfl (hb hby d19_24) _ gk) ?_
    show Go _ _ _ _ s₁ (mkF m 25 #[rv sv, iv 2, rv tv, iv 1, iv 0, iv 58, iv 1, iv 0, un, un, un] [(.int b0x)])
    refine Go.iload2 27 X0 hx (hb hby d19_25) rfl rfl ?_
    by_cases hb6 : b0x = (58 : Int32)
    · refine Go.icmpY 52 X0 hx (hb hby d19_27) (XT.ii_eq_t hb6) (by decide) (by decide) ?_
      refine Go.iload2 54 X0 hx (hb hby d19_52) rfl rfl ?_
      refine Go.iload2 56 X0 hx (hb hby d19_54) rfl rfl ?_
      refine Go.icmpN 59 X0 hx (hb hby d19_56) (XT.ii_gt_f (by decide)) rfl ?_
      refine Go.iload2 61 X0 hx (hb hby d19_59) rfl rfl ?_
      refine Go.iconst 62 X0 hx (1 : Int32) (hb hby d19_61) (by decide) rfl ?_
      refine Go.iadd 63 X0 hx (hb hby d19_62) rfl ?_
      rw [(by decide : ((0 : Int32) + (1 : Int32)) = (1 : Int32))]
      refine Go.istore2 65 X0 hx (L' := #[rv sv, iv 2, rv tv, iv 1, iv 0, iv 58, iv 1, iv 0, iv 1, un, un]) (hb hby d19_63) rfl rfl ?_
      refine Go.iload2 67 X0 hx (hb hby d19_65) rfl rfl ?_
      refine Go.iload1 68 X0 hx (hb hby d19_67) rfl rfl ?_
      refine Go.iadd 69 X0 hx (hb hby d19_68) rfl ?_
      rw [(by decide : ((1 : Int32) + (1 : Int32)) = (2 : Int32))]
      refine Go.iconst 70 X0 hx (1 : Int32) (hb hby d19_69) (by decide) rfl ?_
      refine Go.isub 71 X0 hx (hb hby d19_70) rfl ?_
      rw [(by decide : ((2 : Int32) - (1 : Int32)) = (1 : Int32))]
      refine Go.istore2 73 X0 hx (L' := #[rv sv, iv 2, rv tv, iv 1, iv 0, iv 58, iv 1, iv 0, iv 1, iv 1, un]) (hb hby d19_71) rfl rfl ?_
      refine Go.iconst 74 X0 hx (1 : Int32) (hb hby d19_73) (by decide) rfl ?_
      refine Go.istore2 76 X0 hx (L' := #[rv sv, iv 2, rv tv, iv 1, iv 0, iv 58, iv 1, iv 0, iv 1, iv 1, iv 1]) (hb hby d19_74) rfl rfl ?_
      refine Go.iload2 78 X0 hx (hb hby d19_76) rfl rfl ?_
      refine Go.iload2 80 X0 hx (hb hby d19_78) rfl rfl ?_
      refine Go.icmpY 103 X0 hx (hb hby d19_80) (XT.ii_ge_t (by decide)) (by decide) (by decide) ?_
      refine Go.iload2 105 X0 hx (hb hby d19_103) rfl rfl ?_
      refine Go.iload2 107 X0 hx (hb hby d19_105) rfl rfl ?_
      refine Go.icmpN 110 X0 hx (hb hby d19_107) (XT.ii_ne_f rfl) rfl ?_
      refine Go.iload2 112 X0 hx (hb hby d19_110) rfl rfl ?_
      exact Go.retI X0 hx Bd.notSynchronized Bd.returns rfl (by simp) (hb hby d19_112) (by rw [e0]; exact ⟨(0 : Int32), rfl, N0, rfl, Or.inl ⟨by decide, (own_mH hb6)⟩⟩) (by decide) (by decide)
    · refine Go.icmpN 30 X0 hx (hb hby d19_27) (XT.ii_eq_f hb6) rfl ?_
      refine Go.iinc 33 X0 hx (1 : Int32) (L' := #[rv sv, iv 2, rv tv, iv 1, iv 0, iv 58, iv 1, iv 1, un, un, un]) (hb hby d19_30) (by decide) rfl rfl rfl ?_
      refine Go.iload2 35 X0 hx (hb hby d19_33) rfl rfl ?_
      refine Go.iload2 37 X0 hx (hb hby d19_35) rfl rfl ?_
      refine Go.icmpN 40 X0 hx (hb hby d19_37) (XT.ii_gt_f (by decide)) rfl ?_
      refine Go.aload1 41 X0 hx (hb hby d19_40) rfl rfl rfl ?_
      refine Go.iload2 43 X0 hx (hb hby d19_41) rfl rfl ?_
      obtain ⟨cl7, Ar7, -, S7, M7, H7, -⟩ := id Vl
      have hin7 : ¬ ((1 : Int32) < 0 ∨ cl7.slots.size ≤ (1 : Int32).toNatClampNeg) := inb_of S7 ⟨by decide, by decide⟩
      refine Go.by (fun _ gk => X0.baloadBytes hx (j := (1 : Int32)) (v := (.int b1x)) (by rw [e0]; exact Ar7.1) (State.isArrayOf_alike hZ.alike Ar7.2.1) Ar7.2.2 hin7 (Has.at H7 hin7 rfl) (g := (mkF m 43 #[rv sv, iv 2, rv tv, iv 1, iv 0, iv 58, iv 1, iv 1, un, un, un] [(.int 1), (.ref sv)])) rfl rfl (hb hby d19_43) _ gk) ?_
      show Go _ _ _ _ s₁ (mkF m 44 #[rv sv, iv 2, rv tv, iv 1, iv 0, iv 58, iv 1, iv 1, un, un, un] [(.int b1x)])
      refine Go.iload2 46 X0 hx (hb hby d19_44) rfl rfl ?_
      by_cases hb8 : b1x = (58 : Int32)
      · refine Go.icmpY 52 X0 hx (hb hby d19_46) (XT.ii_eq_t hb8) (by decide) (by decide) ?_
        refine Go.iload2 54 X0 hx (hb hby d19_52) rfl rfl ?_
        refine Go.iload2 56 X0 hx (hb hby d19_54) rfl rfl ?_
        refine Go.icmpN 59 X0 hx (hb hby d19_56) (XT.ii_gt_f (by decide)) rfl ?_
        refine Go.iload2 61 X0 hx (hb hby d19_59) rfl rfl ?_
        refine Go.iconst 62 X0 hx (1 : Int32) (hb hby d19_61) (by decide) rfl ?_
        refine Go.iadd 63 X0 hx (hb hby d19_62) rfl ?_
        rw [(by decide : ((1 : Int32) + (1 : Int32)) = (2 : Int32))]
        refine Go.istore2 65 X0 hx (L' := #[rv sv, iv 2, rv tv, iv 1, iv 0, iv 58, iv 1, iv 1, iv 2, un, un]) (hb hby d19_63) rfl rfl ?_
        refine Go.iload2 67 X0 hx (hb hby d19_65) rfl rfl ?_
        refine Go.iload1 68 X0 hx (hb hby d19_67) rfl rfl ?_
        refine Go.iadd 69 X0 hx (hb hby d19_68) rfl ?_
        rw [(by decide : ((2 : Int32) + (1 : Int32)) = (3 : Int32))]
        refine Go.iconst 70 X0 hx (1 : Int32) (hb hby d19_69) (by decide) rfl ?_
        refine Go.isub 71 X0 hx (hb hby d19_70) rfl ?_
        rw [(by decide : ((3 : Int32) - (1 : Int32)) = (2 : Int32))]
        refine Go.istore2 73 X0 hx (L' := #[rv sv, iv 2, rv tv, iv 1, iv 0, iv 58, iv 1, iv 1, iv 2, iv 2, un]) (hb hby d19_71) rfl rfl ?_
        refine Go.iconst 74 X0 hx (1 : Int32) (hb hby d19_73) (by decide) rfl ?_
        refine Go.istore2 76 X0 hx (L' := #[rv sv, iv 2, rv tv, iv 1, iv 0, iv 58, iv 1, iv 1, iv 2, iv 2, iv 1]) (hb hby d19_74) rfl rfl ?_
        refine Go.iload2 78 X0 hx (hb hby d19_76) rfl rfl ?_
        refine Go.iload2 80 X0 hx (hb hby d19_78) rfl rfl ?_
        refine Go.icmpY 103 X0 hx (hb hby d19_80) (XT.ii_ge_t (by decide)) (by decide) (by decide) ?_
        refine Go.iload2 105 X0 hx (hb hby d19_103) rfl rfl ?_
        refine Go.iload2 107 X0 hx (hb hby d19_105) rfl rfl ?_
        refine Go.icmpN 110 X0 hx (hb hby d19_107) (XT.ii_ne_f rfl) rfl ?_
        refine Go.iload2 112 X0 hx (hb hby d19_110) rfl rfl ?_
        exact Go.retI X0 hx Bd.notSynchronized Bd.returns rfl (by simp) (hb hby d19_112) (by rw [e0]; exact ⟨(1 : Int32), rfl, N0, rfl, Or.inl ⟨by decide, (own_mT (own_mH hb8))⟩⟩) (by decide) (by decide)
      · refine Go.icmpN 49 X0 hx (hb hby d19_46) (XT.ii_eq_f hb8) rfl ?_
        refine Go.goto 30 X0 hx (hb hby d19_49) (by decide) (by decide) ?_
        refine Go.iinc 33 X0 hx (1 : Int32) (L' := #[rv sv, iv 2, rv tv, iv 1, iv 0, iv 58, iv 1, iv 2, un, un, un]) (hb hby d19_30) (by decide) rfl rfl rfl ?_
        refine Go.iload2 35 X0 hx (hb hby d19_33) rfl rfl ?_
        refine Go.iload2 37 X0 hx (hb hby d19_35) rfl rfl ?_
        refine Go.icmpY 52 X0 hx (hb hby d19_37) (XT.ii_gt_t (by decide)) (by decide) (by decide) ?_
        refine Go.iload2 54 X0 hx (hb hby d19_52) rfl rfl ?_
        refine Go.iload2 56 X0 hx (hb hby d19_54) rfl rfl ?_
        refine Go.icmpY 113 X0 hx (hb hby d19_56) (XT.ii_gt_t (by decide)) (by decide) (by decide) ?_
        refine Go.iinc 116 X0 hx (1 : Int32) (L' := #[rv sv, iv 2, rv tv, iv 1, iv 0, iv 58, iv 1, iv 3, un, un, un]) (hb hby d19_113) (by decide) rfl rfl rfl ?_
        refine Go.goto 14 X0 hx (hb hby d19_116) (by decide) (by decide) ?_
        refine Go.iload2 16 X0 hx (hb hby d19_14) rfl rfl ?_
        refine Go.iload2 18 X0 hx (hb hby d19_16) rfl rfl ?_
        refine Go.icmpY 119 X0 hx (hb hby d19_18) (XT.ii_gt_t (by decide)) (by decide) (by decide) ?_
        refine Go.iconst 120 X0 hx (-1 : Int32) (hb hby d19_119) (by decide) rfl ?_
        exact Go.retI X0 hx Bd.notSynchronized Bd.returns rfl (by simp) (hb hby d19_120) (by rw [e0]; exact ⟨(-1 : Int32), rfl, N0, rfl, Or.inr ⟨by decide, (own_nmC hb6 (own_nmC hb8 own_nm0))⟩⟩) (by decide) (by decide)
  · show Go _ _ _ _ s₁ (mkF m 0 #[rv sv, iv 3, rv tv, iv 1, iv 0, un, un, un, un, un, un] [])
    have Vl : Arv Z h0 sv ks .byte (3 : Int32) [(.int b0x), (.int b1x), (.int b2x)] (.int 0) := V_sv
    refine Go.aload1 1 X0 hx (hb hby d19_0) rfl rfl rfl ?_
    refine Go.iconst 2 X0 hx (0 : Int32) (hb hby d19_1) (by decide) rfl ?_
    obtain ⟨cl9, Ar9, -, S9, M9, H9, -⟩ := id V_tv
    have hin9 : ¬ ((0 : Int32) < 0 ∨ cl9.slots.size ≤ (0 : Int32).toNatClampNeg) := inb_of S9 ⟨by decide, by decide⟩
    refine Go.by (fun _ gk => X0.baloadBytes hx (j := (0 : Int32)) (v := (.int 58)) (by rw [e0]; exact Ar9.1) (State.isArrayOf_alike hZ.alike Ar9.2.1) Ar9.2.2 hin9 (Has.at H9 hin9 rfl) (g := (mkF m 2 #[rv sv, iv 3, rv tv, iv 1, iv 0, un, un, un, un, un, un] [(.int 0), (.ref tv)])) rfl rfl (hb hby d19_2) _ gk) ?_
    show Go _ _ _ _ s₁ (mkF m 3 #[rv sv, iv 3, rv tv, iv 1, iv 0, un, un, un, un, un, un] [(.int 58)])
    refine Go.istore2 5 X0 hx (L' := #[rv sv, iv 3, rv tv, iv 1, iv 0, iv 58, un, un, un, un, un]) (hb hby d19_3) rfl rfl ?_
    refine Go.iload1 6 X0 hx (hb hby d19_5) rfl rfl ?_
    refine Go.iload1 7 X0 hx (hb hby d19_6) rfl rfl ?_
    refine Go.isub 8 X0 hx (hb hby d19_7) rfl ?_
    rw [(by decide : ((3 : Int32) - (1 : Int32)) = (2 : Int32))]
    refine Go.istore2 10 X0 hx (L' := #[rv sv, iv 3, rv tv, iv 1, iv 0, iv 58, iv 2, un, un, un, un]) (hb hby d19_8) rfl rfl ?_
    refine Go.iload2 12 X0 hx (hb hby d19_10) rfl rfl ?_
    refine Go.istore2 14 X0 hx (L' := #[rv sv, iv 3, rv tv, iv 1, iv 0, iv 58, iv 2, iv 0, un, un, un]) (hb hby d19_12) rfl rfl ?_
    refine Go.iload2 16 X0 hx (hb hby d19_14) rfl rfl ?_
    refine Go.iload2 18 X0 hx (hb hby d19_16) rfl rfl ?_
    refine Go.icmpN 21 X0 hx (hb hby d19_18) (XT.ii_gt_f (by decide)) rfl ?_
    refine Go.aload1 22 X0 hx (hb hby d19_21) rfl rfl rfl ?_
    refine Go.iload2 24 X0 hx (hb hby d19_22) rfl rfl ?_
    obtain ⟨cl10, Ar10, -, S10, M10, H10, -⟩ := id Vl
    have hin10 : ¬ ((0 : Int32) < 0 ∨ cl10.slots.size ≤ (0 : Int32).toNatClampNeg) := inb_of S10 ⟨by decide, by decide⟩
    refine Go.by (fun _ gk => X0.baloadBytes hx (j := (0 : Int32)) (v := (.int b0x)) (by rw [e0]; exact Ar10.1) (State.isArrayOf_alike hZ.alike Ar10.2.1) Ar10.2.2 hin10 (Has.at H10 hin10 rfl) (g := (mkF m 24 #[rv sv, iv 3, rv tv, iv 1, iv 0, iv 58, iv 2, iv 0, un, un, un] [(.int 0), (.ref sv)])) rfl rfl (hb hby d19_24) _ gk) ?_
    show Go _ _ _ _ s₁ (mkF m 25 #[rv sv, iv 3, rv tv, iv 1, iv 0, iv 58, iv 2, iv 0, un, un, un] [(.int b0x)])
    refine Go.iload2 27 X0 hx (hb hby d19_25) rfl rfl ?_
    by_cases hb11 : b0x = (58 : Int32)
    · refine Go.icmpY 52 X0 hx (hb hby d19_27) (XT.ii_eq_t hb11) (by decide) (by decide) ?_
      refine Go.iload2 54 X0 hx (hb hby d19_52) rfl rfl ?_
      refine Go.iload2 56 X0 hx (hb hby d19_54) rfl rfl ?_
      refine Go.icmpN 59 X0 hx (hb hby d19_56) (XT.ii_gt_f (by decide)) rfl ?_
      refine Go.iload2 61 X0 hx (hb hby d19_59) rfl rfl ?_
      refine Go.iconst 62 X0 hx (1 : Int32) (hb hby d19_61) (by decide) rfl ?_
      refine Go.iadd 63 X0 hx (hb hby d19_62) rfl ?_
      rw [(by decide : ((0 : Int32) + (1 : Int32)) = (1 : Int32))]
      refine Go.istore2 65 X0 hx (L' := #[rv sv, iv 3, rv tv, iv 1, iv 0, iv 58, iv 2, iv 0, iv 1, un, un]) (hb hby d19_63) rfl rfl ?_
      refine Go.iload2 67 X0 hx (hb hby d19_65) rfl rfl ?_
      refine Go.iload1 68 X0 hx (hb hby d19_67) rfl rfl ?_
      refine Go.iadd 69 X0 hx (hb hby d19_68) rfl ?_
      rw [(by decide : ((1 : Int32) + (1 : Int32)) = (2 : Int32))]
      refine Go.iconst 70 X0 hx (1 : Int32) (hb hby d19_69) (by decide) rfl ?_
      refine Go.isub 71 X0 hx (hb hby d19_70) rfl ?_
      rw [(by decide : ((2 : Int32) - (1 : Int32)) = (1 : Int32))]
      refine Go.istore2 73 X0 hx (L' := #[rv sv, iv 3, rv tv, iv 1, iv 0, iv 58, iv 2, iv 0, iv 1, iv 1, un]) (hb hby d19_71) rfl rfl ?_
      refine Go.iconst 74 X0 hx (1 : Int32) (hb hby d19_73) (by decide) rfl ?_
      refine Go.istore2 76 X0 hx (L' := #[rv sv, iv 3, rv tv, iv 1, iv 0, iv 58, iv 2, iv 0, iv 1, iv 1, iv 1]) (hb hby d19_74) rfl rfl ?_
      refine Go.iload2 78 X0 hx (hb hby d19_76) rfl rfl ?_
      refine Go.iload2 80 X0 hx (hb hby d19_78) rfl rfl ?_
      refine Go.icmpY 103 X0 hx (hb hby d19_80) (XT.ii_ge_t (by decide)) (by decide) (by decide) ?_
      refine Go.iload2 105 X0 hx (hb hby d19_103) rfl rfl ?_
      refine Go.iload2 107 X0 hx (hb hby d19_105) rfl rfl ?_
      refine Go.icmpN 110 X0 hx (hb hby d19_107) (XT.ii_ne_f rfl) rfl ?_
      refine Go.iload2 112 X0 hx (hb hby d19_110) rfl rfl ?_
      exact Go.retI X0 hx Bd.notSynchronized Bd.returns rfl (by simp) (hb hby d19_112) (by rw [e0]; exact ⟨(0 : Int32), rfl, N0, rfl, Or.inl ⟨by decide, (own_mH hb11)⟩⟩) (by decide) (by decide)
    · refine Go.icmpN 30 X0 hx (hb hby d19_27) (XT.ii_eq_f hb11) rfl ?_
      refine Go.iinc 33 X0 hx (1 : Int32) (L' := #[rv sv, iv 3, rv tv, iv 1, iv 0, iv 58, iv 2, iv 1, un, un, un]) (hb hby d19_30) (by decide) rfl rfl rfl ?_
      refine Go.iload2 35 X0 hx (hb hby d19_33) rfl rfl ?_
      refine Go.iload2 37 X0 hx (hb hby d19_35) rfl rfl ?_
      refine Go.icmpN 40 X0 hx (hb hby d19_37) (XT.ii_gt_f (by decide)) rfl ?_
      refine Go.aload1 41 X0 hx (hb hby d19_40) rfl rfl rfl ?_
      refine Go.iload2 43 X0 hx (hb hby d19_41) rfl rfl ?_
      obtain ⟨cl12, Ar12, -, S12, M12, H12, -⟩ := id Vl
      have hin12 : ¬ ((1 : Int32) < 0 ∨ cl12.slots.size ≤ (1 : Int32).toNatClampNeg) := inb_of S12 ⟨by decide, by decide⟩
      refine Go.by (fun _ gk => X0.baloadBytes hx (j := (1 : Int32)) (v := (.int b1x)) (by rw [e0]; exact Ar12.1) (State.isArrayOf_alike hZ.alike Ar12.2.1) Ar12.2.2 hin12 (Has.at H12 hin12 rfl) (g := (mkF m 43 #[rv sv, iv 3, rv tv, iv 1, iv 0, iv 58, iv 2, iv 1, un, un, un] [(.int 1), (.ref sv)])) rfl rfl (hb hby d19_43) _ gk) ?_
      show Go _ _ _ _ s₁ (mkF m 44 #[rv sv, iv 3, rv tv, iv 1, iv 0, iv 58, iv 2, iv 1, un, un, un] [(.int b1x)])
      refine Go.iload2 46 X0 hx (hb hby d19_44) rfl rfl ?_
      by_cases hb13 : b1x = (58 : Int32)
      · refine Go.icmpY 52 X0 hx (hb hby d19_46) (XT.ii_eq_t hb13) (by decide) (by decide) ?_
        refine Go.iload2 54 X0 hx (hb hby d19_52) rfl rfl ?_
        refine Go.iload2 56 X0 hx (hb hby d19_54) rfl rfl ?_
        refine Go.icmpN 59 X0 hx (hb hby d19_56) (XT.ii_gt_f (by decide)) rfl ?_
        refine Go.iload2 61 X0 hx (hb hby d19_59) rfl rfl ?_
        refine Go.iconst 62 X0 hx (1 : Int32) (hb hby d19_61) (by decide) rfl ?_
        refine Go.iadd 63 X0 hx (hb hby d19_62) rfl ?_
        rw [(by decide : ((1 : Int32) + (1 : Int32)) = (2 : Int32))]
        refine Go.istore2 65 X0 hx (L' := #[rv sv, iv 3, rv tv, iv 1, iv 0, iv 58, iv 2, iv 1, iv 2, un, un]) (hb hby d19_63) rfl rfl ?_
        refine Go.iload2 67 X0 hx (hb hby d19_65) rfl rfl ?_
        refine Go.iload1 68 X0 hx (hb hby d19_67) rfl rfl ?_
        refine Go.iadd 69 X0 hx (hb hby d19_68) rfl ?_
        rw [(by decide : ((2 : Int32) + (1 : Int32)) = (3 : Int32))]
        refine Go.iconst 70 X0 hx (1 : Int32) (hb hby d19_69) (by decide) rfl ?_
        refine Go.isub 71 X0 hx (hb hby d19_70) rfl ?_
        rw [(by decide : ((3 : Int32) - (1 : Int32)) = (2 : Int32))]
        refine Go.istore2 73 X0 hx (L' := #[rv sv, iv 3, rv tv, iv 1, iv 0, iv 58, iv 2, iv 1, iv 2, iv 2, un]) (hb hby d19_71) rfl rfl ?_
        refine Go.iconst 74 X0 hx (1 : Int32) (hb hby d19_73) (by decide) rfl ?_
        refine Go.istore2 76 X0 hx (L' := #[rv sv, iv 3, rv tv, iv 1, iv 0, iv 58, iv 2, iv 1, iv 2, iv 2, iv 1]) (hb hby d19_74) rfl rfl ?_
        refine Go.iload2 78 X0 hx (hb hby d19_76) rfl rfl ?_
        refine Go.iload2 80 X0 hx (hb hby d19_78) rfl rfl ?_
        refine Go.icmpY 103 X0 hx (hb hby d19_80) (XT.ii_ge_t (by decide)) (by decide) (by decide) ?_
        refine Go.iload2 105 X0 hx (hb hby d19_103) rfl rfl ?_
        refine Go.iload2 107 X0 hx (hb hby d19_105) rfl rfl ?_
        refine Go.icmpN 110 X0 hx (hb hby d19_107) (XT.ii_ne_f rfl) rfl ?_
        refine Go.iload2 112 X0 hx (hb hby d19_110) rfl rfl ?_
        exact Go.retI X0 hx Bd.notSynchronized Bd.returns rfl (by simp) (hb hby d19_112) (by rw [e0]; exact ⟨(1 : Int32), rfl, N0, rfl, Or.inl ⟨by decide, (own_mT (own_mH hb13))⟩⟩) (by decide) (by decide)
      · refine Go.icmpN 49 X0 hx (hb hby d19_46) (XT.ii_eq_f hb13) rfl ?_
        refine Go.goto 30 X0 hx (hb hby d19_49) (by decide) (by decide) ?_
        refine Go.iinc 33 X0 hx (1 : Int32) (L' := #[rv sv, iv 3, rv tv, iv 1, iv 0, iv 58, iv 2, iv 2, un, un, un]) (hb hby d19_30) (by decide) rfl rfl rfl ?_
        refine Go.iload2 35 X0 hx (hb hby d19_33) rfl rfl ?_
        refine Go.iload2 37 X0 hx (hb hby d19_35) rfl rfl ?_
        refine Go.icmpN 40 X0 hx (hb hby d19_37) (XT.ii_gt_f (by decide)) rfl ?_
        refine Go.aload1 41 X0 hx (hb hby d19_40) rfl rfl rfl ?_
        refine Go.iload2 43 X0 hx (hb hby d19_41) rfl rfl ?_
        obtain ⟨cl14, Ar14, -, S14, M14, H14, -⟩ := id Vl
        have hin14 : ¬ ((2 : Int32) < 0 ∨ cl14.slots.size ≤ (2 : Int32).toNatClampNeg) := inb_of S14 ⟨by decide, by decide⟩
        refine Go.by (fun _ gk => X0.baloadBytes hx (j := (2 : Int32)) (v := (.int b2x)) (by rw [e0]; exact Ar14.1) (State.isArrayOf_alike hZ.alike Ar14.2.1) Ar14.2.2 hin14 (Has.at H14 hin14 rfl) (g := (mkF m 43 #[rv sv, iv 3, rv tv, iv 1, iv 0, iv 58, iv 2, iv 2, un, un, un] [(.int 2), (.ref sv)])) rfl rfl (hb hby d19_43) _ gk) ?_
        show Go _ _ _ _ s₁ (mkF m 44 #[rv sv, iv 3, rv tv, iv 1, iv 0, iv 58, iv 2, iv 2, un, un, un] [(.int b2x)])
        refine Go.iload2 46 X0 hx (hb hby d19_44) rfl rfl ?_
        by_cases hb15 : b2x = (58 : Int32)
        · refine Go.icmpY 52 X0 hx (hb hby d19_46) (XT.ii_eq_t hb15) (by decide) (by decide) ?_
          refine Go.iload2 54 X0 hx (hb hby d19_52) rfl rfl ?_
          refine Go.iload2 56 X0 hx (hb hby d19_54) rfl rfl ?_
          refine Go.icmpN 59 X0 hx (hb hby d19_56) (XT.ii_gt_f (by decide)) rfl ?_
          refine Go.iload2 61 X0 hx (hb hby d19_59) rfl rfl ?_
          refine Go.iconst 62 X0 hx (1 : Int32) (hb hby d19_61) (by decide) rfl ?_
          refine Go.iadd 63 X0 hx (hb hby d19_62) rfl ?_
          rw [(by decide : ((2 : Int32) + (1 : Int32)) = (3 : Int32))]
          refine Go.istore2 65 X0 hx (L' := #[rv sv, iv 3, rv tv, iv 1, iv 0, iv 58, iv 2, iv 2, iv 3, un, un]) (hb hby d19_63) rfl rfl ?_
          refine Go.iload2 67 X0 hx (hb hby d19_65) rfl rfl ?_
          refine Go.iload1 68 X0 hx (hb hby d19_67) rfl rfl ?_
          refine Go.iadd 69 X0 hx (hb hby d19_68) rfl ?_
          rw [(by decide : ((3 : Int32) + (1 : Int32)) = (4 : Int32))]
          refine Go.iconst 70 X0 hx (1 : Int32) (hb hby d19_69) (by decide) rfl ?_
          refine Go.isub 71 X0 hx (hb hby d19_70) rfl ?_
          rw [(by decide : ((4 : Int32) - (1 : Int32)) = (3 : Int32))]
          refine Go.istore2 73 X0 hx (L' := #[rv sv, iv 3, rv tv, iv 1, iv 0, iv 58, iv 2, iv 2, iv 3, iv 3, un]) (hb hby d19_71) rfl rfl ?_
          refine Go.iconst 74 X0 hx (1 : Int32) (hb hby d19_73) (by decide) rfl ?_
          refine Go.istore2 76 X0 hx (L' := #[rv sv, iv 3, rv tv, iv 1, iv 0, iv 58, iv 2, iv 2, iv 3, iv 3, iv 1]) (hb hby d19_74) rfl rfl ?_
          refine Go.iload2 78 X0 hx (hb hby d19_76) rfl rfl ?_
          refine Go.iload2 80 X0 hx (hb hby d19_78) rfl rfl ?_
          refine Go.icmpY 103 X0 hx (hb hby d19_80) (XT.ii_ge_t (by decide)) (by decide) (by decide) ?_
          refine Go.iload2 105 X0 hx (hb hby d19_103) rfl rfl ?_
          refine Go.iload2 107 X0 hx (hb hby d19_105) rfl rfl ?_
          refine Go.icmpN 110 X0 hx (hb hby d19_107) (XT.ii_ne_f rfl) rfl ?_
          refine Go.iload2 112 X0 hx (hb hby d19_110) rfl rfl ?_
          exact Go.retI X0 hx Bd.notSynchronized Bd.returns rfl (by simp) (hb hby d19_112) (by rw [e0]; exact ⟨(2 : Int32), rfl, N0, rfl, Or.inl ⟨by decide, (own_mT (own_mT (own_mH hb15)))⟩⟩) (by decide) (by decide)
        · refine Go.icmpN 49 X0 hx (hb hby d19_46) (XT.ii_eq_f hb15) rfl ?_
          refine Go.goto 30 X0 hx (hb hby d19_49) (by decide) (by decide) ?_
          refine Go.iinc 33 X0 hx (1 : Int32) (L' := #[rv sv, iv 3, rv tv, iv 1, iv 0, iv 58, iv 2, iv 3, un, un, un]) (hb hby d19_30) (by decide) rfl rfl rfl ?_
          refine Go.iload2 35 X0 hx (hb hby d19_33) rfl rfl ?_
          refine Go.iload2 37 X0 hx (hb hby d19_35) rfl rfl ?_
          refine Go.icmpY 52 X0 hx (hb hby d19_37) (XT.ii_gt_t (by decide)) (by decide) (by decide) ?_
          refine Go.iload2 54 X0 hx (hb hby d19_52) rfl rfl ?_
          refine Go.iload2 56 X0 hx (hb hby d19_54) rfl rfl ?_
          refine Go.icmpY 113 X0 hx (hb hby d19_56) (XT.ii_gt_t (by decide)) (by decide) (by decide) ?_
          refine Go.iinc 116 X0 hx (1 : Int32) (L' := #[rv sv, iv 3, rv tv, iv 1, iv 0, iv 58, iv 2, iv 4, un, un, un]) (hb hby d19_113) (by decide) rfl rfl rfl ?_
          refine Go.goto 14 X0 hx (hb hby d19_116) (by decide) (by decide) ?_
          refine Go.iload2 16 X0 hx (hb hby d19_14) rfl rfl ?_
          refine Go.iload2 18 X0 hx (hb hby d19_16) rfl rfl ?_
          refine Go.icmpY 119 X0 hx (hb hby d19_18) (XT.ii_gt_t (by decide)) (by decide) (by decide) ?_
          refine Go.iconst 120 X0 hx (-1 : Int32) (hb hby d19_119) (by decide) rfl ?_
          exact Go.retI X0 hx Bd.notSynchronized Bd.returns rfl (by simp) (hb hby d19_120) (by rw [e0]; exact ⟨(-1 : Int32), rfl, N0, rfl, Or.inr ⟨by decide, (own_nmC hb11 (own_nmC hb13 (own_nmC hb15 own_nm0)))⟩⟩) (by decide) (by decide)
theorem d18_0 : decode jdk_43_method_24_code 0 = .ok (.aload_n 1, 1) := by decide +kernel
theorem d18_1 : decode jdk_43_method_24_code 1 = .ok (.arraylength, 1) := by decide +kernel
theorem d18_2 : decode jdk_43_method_24_code 2 = .ok (.ifCond .ne 5, 3) := by decide +kernel
theorem d18_7 : decode jdk_43_method_24_code 7 = .ok (.aload_n 0, 1) := by decide +kernel
theorem d18_8 : decode jdk_43_method_24_code 8 = .ok (.arraylength, 1) := by decide +kernel
theorem d18_9 : decode jdk_43_method_24_code 9 = .ok (.ifCond .ne 5, 3) := by decide +kernel
theorem d18_14 : decode jdk_43_method_24_code 14 = .ok (.aload_n 0, 1) := by decide +kernel
theorem d18_15 : decode jdk_43_method_24_code 15 = .ok (.aload_n 0, 1) := by decide +kernel
theorem d18_16 : decode jdk_43_method_24_code 16 = .ok (.arraylength, 1) := by decide +kernel
theorem d18_17 : decode jdk_43_method_24_code 17 = .ok (.aload_n 1, 1) := by decide +kernel
theorem d18_18 : decode jdk_43_method_24_code 18 = .ok (.aload_n 1, 1) := by decide +kernel
theorem d18_19 : decode jdk_43_method_24_code 19 = .ok (.arraylength, 1) := by decide +kernel
theorem d18_20 : decode jdk_43_method_24_code 20 = .ok (.iconst 0, 1) := by decide +kernel
theorem pd_502 : parseMethodDescriptor "([BI[BII)I" = some ⟨[(.array .byte), .int, (.array .byte), .int, .int], some .int⟩ := by decide +kernel
theorem d18_21 : decode jdk_43_method_24_code 21 = .ok (.invokestatic 99, 3) := by decide +kernel
theorem d18_24 : decode jdk_43_method_24_code 24 = .ok (.ireturn, 1) := by decide +kernel
def Q_rmIdx2 (Z : State) (sv : Addr) (ks : ClassId) (tv : Addr) (kt : ClassId) (hl : List Value) (h0 : Heap) (n0 : Nat) (v : Option Value) (h : Heap) (L : List Loc) : Prop := ∃ r : Int32, v = some (.int r) ∧ Fr n0 L ∧ h = h0 ∧ ((¬ r < 0 ∧ (Value.int 58 ∈ hl)) ∨ (r < 0 ∧ ¬ (Value.int 58 ∈ hl)))
theorem rmIdx2 (l : Launch) (Z : State) (a0 : Array Value) (hw : ∀ d ∈ tables_1, d.before a0 Z = true) (ws : List Jvm.Cond) (sv : Addr) (ks : ClassId) (tv : Addr) (kt : ClassId) (hl : List Value) (h0 : Heap) (n0 : Nat) (Z0 : n0 ≤ h0.size) (V_sv : Arv Z h0 sv ks .byte (Int32.ofNat hl.length) hl (.int 0)) (V_tv : Arv Z h0 tv kt .byte (1 : Int32) ([(.int 58)]) (.int 0)) (hho : (own_host hl)) :
    MetN l Z ws (⟨"java/lang/StringLatin1", "indexOf", "([B[B)I"⟩ : MethodName) jdk_43_method_24_code 2 (some .int) ({ frames := 1, cells := 0, slots := 0, locals := 22 } : Room) #[(.ref sv), (.ref tv)] h0 (Q_rmIdx2 Z sv ks tv kt hl h0 n0) := by
  refine MetN.go (plainFor_of_name pn_52) n0 fun p e s m below meth c s₁ Bd hx hby hml hZ hh hown hnm X0 e0 N0 => ?_
  have hown : s.vm.findClass "java/lang/StringLatin1" = some m.cls := hown
  refine Go.ent (ef_125 m sv tv) ?_
  show Go _ _ _ _ s₁ (mkF m 0 #[rv sv, rv tv] [])
  refine Go.aload1 1 X0 hx (hb hby d18_0) rfl rfl rfl ?_
  obtain ⟨cl1, Ar1, -, S1, M1, -, -⟩ := id V_tv
  refine Go.by (fun _ gk => X0.arraylength hx (by rw [e0]; exact Ar1.1) (State.isArrayOf_alike hZ.alike Ar1.2.1) (g := (mkF m 1 #[rv sv, rv tv] [(.ref tv)])) rfl rfl (hb hby d18_1) _ gk) ?_
  rw [len_of S1 M1]
  show Go _ _ _ _ s₁ (mkF m 2 #[rv sv, rv tv] [(.int 1)])
  refine Go.ifY 7 X0 hx (hb hby d18_2) (XT.i0_ne_t (by decide)) (by decide) (by decide) ?_
  refine Go.aload1 8 X0 hx (hb hby d18_7) rfl rfl rfl ?_
  obtain ⟨cl2, Ar2, -, S2, M2, -, -⟩ := id V_sv
  refine Go.by (fun _ gk => X0.arraylength hx (by rw [e0]; exact Ar2.1) (State.isArrayOf_alike hZ.alike Ar2.2.1) (g := (mkF m 8 #[rv sv, rv tv] [(.ref sv)])) rfl rfl (hb hby d18_8) _ gk) ?_
  rw [len_of S2 M2]
  show Go _ _ _ _ s₁ (mkF m 9 #[rv sv, rv tv] [(.int (Int32.ofNat hl.length))])
  refine Go.ifY 14 X0 hx (hb hby d18_9) (XT.i0_ne_t (own_host0 hho)) (by decide) (by decide) ?_
  refine Go.aload1 15 X0 hx (hb hby d18_14) rfl rfl rfl ?_
  refine Go.aload1 16 X0 hx (hb hby d18_15) rfl rfl rfl ?_
  obtain ⟨cl3, Ar3, -, S3, M3, -, -⟩ := id V_sv
  refine Go.by (fun _ gk => X0.arraylength hx (by rw [e0]; exact Ar3.1) (State.isArrayOf_alike hZ.alike Ar3.2.1) (g := (mkF m 16 #[rv sv, rv tv] [(.ref sv), (.ref sv)])) rfl rfl (hb hby d18_16) _ gk) ?_
  rw [len_of S3 M3]
  show Go _ _ _ _ s₁ (mkF m 17 #[rv sv, rv tv] [(.int (Int32.ofNat hl.length)), (.ref sv)])
  refine Go.aload1 18 X0 hx (hb hby d18_17) rfl rfl rfl ?_
  refine Go.aload1 19 X0 hx (hb hby d18_18) rfl rfl rfl ?_
  obtain ⟨cl4, Ar4, -, S4, M4, -, -⟩ := id V_tv
  refine Go.by (fun _ gk => X0.arraylength hx (by rw [e0]; exact Ar4.1) (State.isArrayOf_alike hZ.alike Ar4.2.1) (g := (mkF m 19 #[rv sv, rv tv] [(.ref tv), (.ref tv), (.int (Int32.ofNat hl.length)), (.ref sv)])) rfl rfl (hb hby d18_19) _ gk) ?_
  rw [len_of S4 M4]
  show Go _ _ _ _ s₁ (mkF m 20 #[rv sv, rv tv] [(.int 1), (.ref tv), (.int (Int32.ofNat hl.length)), (.ref sv)])
  refine Go.iconst 21 X0 hx (0 : Int32) (hb hby d18_20) (by decide) rfl ?_
  obtain ⟨_, _, ⟨T5, L5, k5, n5⟩, -, X5, ⟨Lc5, hQ5, l5, y5, z5⟩, st5⟩ := Jvm.LawKit.callS X0 hx (y := (⟨"java/lang/StringLatin1", "indexOf", "([BI[BII)I"⟩ : MethodName)) hown (mvT hZ (ow hw 112 rfl)) (mvT hZ (ow hw 113 rfl)) (mvT hZ (ow hw 110 rfl)) (mvT hZ (ow hw 114 rfl)) (by decide) (backOf (W := 0) (rmIdx5 l Z a0 hw [] sv ks tv kt hl h0 n0 Z0 V_sv V_tv hho) hZ (ow hw 114 rfl) (ow hw 110 rfl) (by decide) (by decide)) (g := (mkF m 21 #[rv sv, rv tv] [(.int 0), (.int 1), (.ref tv), (.int (Int32.ofNat hl.length)), (.ref sv)])) rfl (by rw [hml]; rfl) (argsL := [(.ref sv), (.int (Int32.ofNat hl.length)), (.ref tv), (.int 1), (.int 0)]) (rest := []) (lenOf pd_502 rfl) rfl (by show 2 * 0 + _ ≤ _; exact Nat.le_of_eq rfl) (hb hby d18_21) (fun _ _ => ⟨rfl, e0, (by decide : 0 + 0 ≤ _), (by decide : 0 + 0 ≤ _)⟩)
  dsimp only [Pt.U, Pt.locs, Pt.cells, Pt.slots] at X5 l5 y5 z5 st5 hQ5
  subst l5 y5 z5
  obtain ⟨r, rfl, N5q, e5, Q5_0⟩ := hQ5
  have N5 := Fr.app N0 N5q
  refine Go.by st5 ?_
  show Go _ _ _ _ T5 (mkF m 24 #[rv sv, rv tv] [(.int r)])
  exact Go.retI X5 hx Bd.notSynchronized Bd.returns rfl (by simp) (hb hby d18_24) (by rw [e5]; exact ⟨r, rfl, N5, rfl, Q5_0⟩) (by decide) (by decide)
theorem d15_0 : decode jdk_42_method_84_code 0 = .ok (.aload_n 0, 1) := by decide +kernel
theorem d15_1 : decode jdk_42_method_84_code 1 = .ok (.invokevirtual 335, 3) := by decide +kernel
theorem d15_4 : decode jdk_42_method_84_code 4 = .ok (.istore_n 2, 1) := by decide +kernel
theorem d15_5 : decode jdk_42_method_84_code 5 = .ok (.iload_n 2, 1) := by decide +kernel
theorem d15_6 : decode jdk_42_method_84_code 6 = .ok (.aload_n 1, 1) := by decide +kernel
theorem d15_7 : decode jdk_42_method_84_code 7 = .ok (.invokevirtual 335, 3) := by decide +kernel
theorem d15_10 : decode jdk_42_method_84_code 10 = .ok (.if_icmp .ne 36, 3) := by decide +kernel
theorem d15_13 : decode jdk_42_method_84_code 13 = .ok (.aload_n 0, 1) := by decide +kernel
theorem d15_14 : decode jdk_42_method_84_code 14 = .ok (.invokevirtual 492, 3) := by decide +kernel
theorem d15_17 : decode jdk_42_method_84_code 17 = .ok (.ifCond .eq 17, 3) := by decide +kernel
theorem d15_20 : decode jdk_42_method_84_code 20 = .ok (.aload_n 0, 1) := by decide +kernel
theorem d15_21 : decode jdk_42_method_84_code 21 = .ok (.getfield 9, 3) := by decide +kernel
theorem d15_24 : decode jdk_42_method_84_code 24 = .ok (.aload_n 1, 1) := by decide +kernel
theorem d15_25 : decode jdk_42_method_84_code 25 = .ok (.getfield 9, 3) := by decide +kernel
theorem pd_519 : parseMethodDescriptor "([B[B)I" = some ⟨[(.array .byte), (.array .byte)], some .int⟩ := by decide +kernel
theorem d15_28 : decode jdk_42_method_84_code 28 = .ok (.invokestatic 647, 3) := by decide +kernel
theorem d15_31 : decode jdk_42_method_84_code 31 = .ok (.goto 14, 3) := by decide +kernel
theorem d15_45 : decode jdk_42_method_84_code 45 = .ok (.ireturn, 1) := by decide +kernel
def Q_rmIdx (Z : State) (a : Addr) (q : Addr) (sv : Addr) (ks : ClassId) (tv : Addr) (kt : ClassId) (hl : List Value) (cs : Int32) (h0 : Heap) (n0 : Nat) (v : Option Value) (h : Heap) (L : List Loc) : Prop := ∃ r : Int32, v = some (.int r) ∧ Fr n0 L ∧ h = h0 ∧ ((¬ r < 0 ∧ (Value.int 58 ∈ hl)) ∨ (r < 0 ∧ ¬ (Value.int 58 ∈ hl)))
theorem rmIdx (l : Launch) (Z : State) (a0 : Array Value) (hw : ∀ d ∈ tables_1, d.before a0 Z = true) (ws : List Jvm.Cond) (a : Addr) (q : Addr) (sv : Addr) (ks : ClassId) (tv : Addr) (kt : ClassId) (hl : List Value) (cs : Int32) (h0 : Heap) (n0 : Nat) (Z0 : n0 ≤ h0.size) (O0 : Old Z n0 h0) (E_a : Exa Z h0 a "java/lang/String") (F_a_coder : Fld Z h0 a "java/lang/String" "coder" "B" (.int 0)) (F_a_value : Fld Z h0 a "java/lang/String" "value" "[B" (.ref sv)) (V_sv : Arv Z h0 sv ks .byte (Int32.ofNat hl.length) hl (.int 0)) (E_q : Exa Z h0 q "java/lang/String") (F_q_coder : Fld Z h0 q "java/lang/String" "coder" "B" (.int 0)) (F_q_value : Fld Z h0 q "java/lang/String" "value" "[B" (.ref tv)) (V_tv : Arv Z h0 tv kt .byte (1 : Int32) ([(.int 58)]) (.int 0)) (hho : (own_host hl)) (S_cs : Sta Z Z.heap "java/lang/String" "COMPACT_STRINGS" "Z" (.int cs)) (n_cs : ¬ cs = 0) :
    MetN l Z ws (⟨"java/lang/String", "indexOf", "(Ljava/lang/String;)I"⟩ : MethodName) jdk_42_method_84_code 3 (some .int) ({ frames := 2, cells := 0, slots := 0, locals := 35 } : Room) #[(.ref a), (.ref q)] h0 (Q_rmIdx Z a q sv ks tv kt hl cs h0 n0) := by
  refine MetN.go (plainFor_of_name pn_3) n0 fun p e s m below meth c s₁ Bd hx hby hml hZ hh hown hnm X0 e0 N0 => ?_
  have hown : s.vm.findClass "java/lang/String" = some m.cls := hown
  refine Go.ent (ef_165 m a q) ?_
  show Go _ _ _ _ s₁ (mkF m 0 #[rv a, rv q, un] [])
  refine Go.aload1 1 X0 hx (hb hby d15_0) rfl rfl rfl ?_
  obtain ⟨cq1, kq1, q1a, q1b, q1c⟩ := isOf hZ e0 E_a
  obtain ⟨_, _, ⟨T1, L1, k1, n1⟩, -, X1, ⟨Lc1, hQ1, l1, y1, z1⟩, st1⟩ := X0.virtualBack hx (y := (⟨"java/lang/String", "coder", "()B"⟩ : MethodName)) (z := (⟨"java/lang/String", "coder", "()B"⟩ : MethodName)) hown (mvT hZ (ow hw 98 rfl)) (mvT hZ (ow hw 99 rfl)) (notFace_of_selects (args := #[]) (mvT hZ (ow hw 101 rfl))) (mvT hZ (ow hw 101 rfl)) (mvT hZ (ow hw 100 rfl)) (by decide) (backOf (W := 0) (rmSCoder l Z a0 hw [] a cs h0 n0 Z0 O0 F_a_coder S_cs n_cs) hZ (ow hw 102 rfl) (ow hw 8 rfl) (by decide) (by decide)) q1a q1c (g := (mkF m 1 #[rv a, rv q, un] [(.ref a)])) rfl (by rw [hml]; rfl) (Steps.refl _) (argsL := []) (rest := []) (lenOf pd_23 rfl) rfl (by show 2 * 0 + _ ≤ _; exact Nat.le_of_eq rfl) (hb hby d15_1) (fun _ _ => ⟨rfl, e0, (by decide : 0 + 0 ≤ _), (by decide : 0 + 0 ≤ _)⟩)
  dsimp only [Pt.U, Pt.locs, Pt.cells, Pt.slots] at X1 l1 y1 z1 st1 hQ1
  subst l1 y1 z1
  obtain ⟨rfl, N1q, e1⟩ := hQ1
  have N1 := Fr.app N0 N1q
  refine Go.to st1 ?_
  show Go _ _ _ _ T1 (mkF m 4 #[rv a, rv q, un] [(.int 0)])
  refine Go.istore1 5 X1 hx (L' := #[rv a, rv q, iv 0]) (hb hby d15_4) rfl rfl ?_
  refine Go.iload1 6 X1 hx (hb hby d15_5) rfl rfl ?_
  refine Go.aload1 7 X1 hx (hb hby d15_6) rfl rfl rfl ?_
  obtain ⟨cq2, kq2, q2a, q2b, q2c⟩ := isOf hZ e1 E_q
  obtain ⟨_, _, ⟨T2, L2, k2, n2⟩, -, X2, ⟨Lc2, hQ2, l2, y2, z2⟩, st2⟩ := X1.virtualBack hx (y := (⟨"java/lang/String", "coder", "()B"⟩ : MethodName)) (z := (⟨"java/lang/String", "coder", "()B"⟩ : MethodName)) hown (mvT hZ (ow hw 98 rfl)) (mvT hZ (ow hw 99 rfl)) (notFace_of_selects (args := #[]) (mvT hZ (ow hw 101 rfl))) (mvT hZ (ow hw 101 rfl)) (mvT hZ (ow hw 100 rfl)) (by decide) (backOf (W := 1) (rmSCoder l Z a0 hw [] q cs h0 n0 Z0 O0 F_q_coder S_cs n_cs) hZ (ow hw 102 rfl) (ow hw 8 rfl) (by decide) (by decide)) q2a q2c (g := (mkF m 7 #[rv a, rv q, iv 0] [(.ref q), (.int 0)])) rfl (by rw [hml]; rfl) (Steps.refl _) (argsL := []) (rest := [(.int 0)]) (lenOf pd_23 rfl) rfl (by show 2 * 0 + _ ≤ _; exact Nat.le_of_eq rfl) (hb hby d15_7) (fun _ _ => ⟨rfl, e1, (by decide : 0 + 0 ≤ _), (by decide : 0 + 0 ≤ _)⟩)
  dsimp only [Pt.U, Pt.locs, Pt.cells, Pt.slots] at X2 l2 y2 z2 st2 hQ2
  subst l2 y2 z2
  obtain ⟨rfl, N2q, e2⟩ := hQ2
  have N2 := Fr.app N1 N2q
  refine Go.to st2 ?_
  show Go _ _ _ _ T2 (mkF m 10 #[rv a, rv q, iv 0] [(.int 0), (.int 0)])
  refine Go.icmpN 13 X2 hx (hb hby d15_10) (XT.ii_ne_f rfl) rfl ?_
  refine Go.aload1 14 X2 hx (hb hby d15_13) rfl rfl rfl ?_
  obtain ⟨cq3, kq3, q3a, q3b, q3c⟩ := isOf hZ e2 E_a
  obtain ⟨_, _, ⟨T3, L3, k3, n3⟩, -, X3, ⟨Lc3, hQ3, l3, y3, z3⟩, st3⟩ := X2.virtualBack hx (y := (⟨"java/lang/String", "isLatin1", "()Z"⟩ : MethodName)) (z := (⟨"java/lang/String", "isLatin1", "()Z"⟩ : MethodName)) hown (mvT hZ (ow hw 103 rfl)) (mvT hZ (ow hw 104 rfl)) (notFace_of_selects (args := #[]) (mvT hZ (ow hw 106 rfl))) (mvT hZ (ow hw 106 rfl)) (mvT hZ (ow hw 105 rfl)) (by decide) (backOf (W := 0) (rmSL1 l Z a0 hw [] a cs h0 n0 Z0 O0 F_a_coder S_cs n_cs) hZ (ow hw 107 rfl) (ow hw 8 rfl) (by decide) (by decide)) q3a q3c (g := (mkF m 14 #[rv a, rv q, iv 0] [(.ref a)])) rfl (by rw [hml]; rfl) (Steps.refl _) (argsL := []) (rest := []) (lenOf pd_67 rfl) rfl (by show 2 * 0 + _ ≤ _; exact Nat.le_of_eq rfl) (hb hby d15_14) (fun _ _ => ⟨rfl, e2, (by decide : 0 + 0 ≤ _), (by decide : 0 + 0 ≤ _)⟩)
  dsimp only [Pt.U, Pt.locs, Pt.cells, Pt.slots] at X3 l3 y3 z3 st3 hQ3
  subst l3 y3 z3
  obtain ⟨rfl, N3q, e3⟩ := hQ3
  have N3 := Fr.app N2 N3q
  refine Go.to st3 ?_
  show Go _ _ _ _ T3 (mkF m 17 #[rv a, rv q, iv 0] [(.int 1)])
  refine Go.ifN 20 X3 hx (hb hby d15_17) (XT.i0_eq_f (by decide)) rfl ?_
  refine Go.aload1 21 X3 hx (hb hby d15_20) rfl rfl rfl ?_
  obtain ⟨T4, X4, e4, st4⟩ := getF X3 hx hZ hown (host := "") (Or.inl (ow hw 33 rfl)) Via.refl e3 F_a_value (g := (mkF m 21 #[rv a, rv q, iv 0] [(.ref a)])) rfl rfl (hb hby d15_21)
  refine Go.by st4 ?_
  show Go _ _ _ _ T4 (mkF m 24 #[rv a, rv q, iv 0] [(.ref sv)])
  refine Go.aload1 25 X4 hx (hb hby d15_24) rfl rfl rfl ?_
  obtain ⟨T5, X5, e5, st5⟩ := getF X4 hx hZ hown (host := "") (Or.inl (ow hw 33 rfl)) Via.refl e4 F_q_value (g := (mkF m 25 #[rv a, rv q, iv 0] [(.ref q), (.ref sv)])) rfl rfl (hb hby d15_25)
  refine Go.by st5 ?_
  show Go _ _ _ _ T5 (mkF m 28 #[rv a, rv q, iv 0] [(.ref tv), (.ref sv)])
  obtain ⟨_, _, ⟨T6, L6, k6, n6⟩, -, X6, ⟨Lc6, hQ6, l6, y6, z6⟩, st6⟩ := Jvm.LawKit.callS X5 hx (y := (⟨"java/lang/StringLatin1", "indexOf", "([B[B)I"⟩ : MethodName)) hown (mvT hZ (ow hw 108 rfl)) (mvT hZ (ow hw 109 rfl)) (mvT hZ (ow hw 110 rfl)) (mvT hZ (ow hw 111 rfl)) (by decide) (backOf (W := 0) (rmIdx2 l Z a0 hw [] sv ks tv kt hl h0 n0 Z0 V_sv V_tv hho) hZ (ow hw 111 rfl) (ow hw 110 rfl) (by decide) (by decide)) (g := (mkF m 28 #[rv a, rv q, iv 0] [(.ref tv), (.ref sv)])) rfl (by rw [hml]; rfl) (argsL := [(.ref sv), (.ref tv)]) (rest := []) (lenOf pd_519 rfl) rfl (by show 2 * 0 + _ ≤ _; exact Nat.le_of_eq rfl) (hb hby d15_28) (fun _ _ => ⟨rfl, e5, (by decide : 0 + 0 ≤ _), (by decide : 0 + 0 ≤ _)⟩)
  dsimp only [Pt.U, Pt.locs, Pt.cells, Pt.slots] at X6 l6 y6 z6 st6 hQ6
  subst l6 y6 z6
  obtain ⟨r, rfl, N6q, e6, Q6_0⟩ := hQ6
  have N6 := Fr.app N3 N6q
  refine Go.by st6 ?_
  show Go _ _ _ _ T6 (mkF m 31 #[rv a, rv q, iv 0] [(.int r)])
  refine Go.goto 45 X6 hx (hb hby d15_31) (by decide) (by decide) ?_
  exact Go.retI X6 hx Bd.notSynchronized Bd.returns rfl (by simp) (hb hby d15_45) (by rw [e6]; exact ⟨r, rfl, N6, rfl, Q6_0⟩) (by decide) (by decide)
theorem d13_0 : decode jdk_42_method_97_code 0 = .ok (.aload_n 0, 1) := by decide +kernel
theorem d13_1 : decode jdk_42_method_97_code 1 = .ok (.aload_n 1, 1) := by decide +kernel
theorem pd_525 : parseMethodDescriptor "()Ljava/lang/String;" = some ⟨[], some (.object "java/lang/String")⟩ := by decide +kernel
theorem d13_2 : decode jdk_42_method_97_code 2 = .ok (.invokeinterface 710 1, 5) := by decide +kernel
theorem pd_527 : parseMethodDescriptor "(Ljava/lang/String;)I" = some ⟨[(.object "java/lang/String")], some .int⟩ := by decide +kernel
theorem d13_7 : decode jdk_42_method_97_code 7 = .ok (.invokevirtual 711, 3) := by decide +kernel
theorem d13_10 : decode jdk_42_method_97_code 10 = .ok (.ifCond .lt 7, 3) := by decide +kernel
theorem d13_13 : decode jdk_42_method_97_code 13 = .ok (.iconst 1, 1) := by decide +kernel
theorem d13_14 : decode jdk_42_method_97_code 14 = .ok (.goto 4, 3) := by decide +kernel
theorem d13_18 : decode jdk_42_method_97_code 18 = .ok (.ireturn, 1) := by decide +kernel
theorem d13_17 : decode jdk_42_method_97_code 17 = .ok (.iconst 0, 1) := by decide +kernel
def Q_rmContains (Z : State) (a : Addr) (q : Addr) (sv : Addr) (ks : ClassId) (tv : Addr) (kt : ClassId) (hl : List Value) (cs : Int32) (h0 : Heap) (n0 : Nat) (v : Option Value) (h : Heap) (L : List Loc) : Prop := ∃ r : Int32, v = some (.int r) ∧ Fr n0 L ∧ h = h0 ∧ ((r = 1 ∧ (Value.int 58 ∈ hl)) ∨ (r = 0 ∧ ¬ (Value.int 58 ∈ hl)))
theorem rmContains (l : Launch) (Z : State) (a0 : Array Value) (hw : ∀ d ∈ tables_1, d.before a0 Z = true) (ws : List Jvm.Cond) (a : Addr) (q : Addr) (sv : Addr) (ks : ClassId) (tv : Addr) (kt : ClassId) (hl : List Value) (cs : Int32) (h0 : Heap) (n0 : Nat) (Z0 : n0 ≤ h0.size) (O0 : Old Z n0 h0) (E_a : Exa Z h0 a "java/lang/String") (F_a_coder : Fld Z h0 a "java/lang/String" "coder" "B" (.int 0)) (F_a_value : Fld Z h0 a "java/lang/String" "value" "[B" (.ref sv)) (V_sv : Arv Z h0 sv ks .byte (Int32.ofNat hl.length) hl (.int 0)) (E_q : Exa Z h0 q "java/lang/String") (F_q_coder : Fld Z h0 q "java/lang/String" "coder" "B" (.int 0)) (F_q_value : Fld Z h0 q "java/lang/String" "value" "[B" (.ref tv)) (V_tv : Arv Z h0 tv kt .byte (1 : Int32) ([(.int 58)]) (.int 0)) (hho : (own_host hl)) (S_cs : Sta Z Z.heap "java/lang/String" "COMPACT_STRINGS" "Z" (.int cs)) (n_cs : ¬ cs = 0) :
    MetN l Z ws (⟨"java/lang/String", "contains", "(Ljava/lang/CharSequence;)Z"⟩ : MethodName) jdk_42_method_97_code 2 (some .boolean) ({ frames := 3, cells := 0, slots := 0, locals := 49 } : Room) #[(.ref a), (.ref q)] h0 (Q_rmContains Z a q sv ks tv kt hl cs h0 n0) := by
  refine MetN.go (plainFor_of_name pn_3) n0 fun p e s m below meth c s₁ Bd hx hby hml hZ hh hown hnm X0 e0 N0 => ?_
  have hown : s.vm.findClass "java/lang/String" = some m.cls := hown
  refine Go.ent (ef_125 m a q) ?_
  show Go _ _ _ _ s₁ (mkF m 0 #[rv a, rv q] [])
  refine Go.aload1 1 X0 hx (hb hby d13_0) rfl rfl rfl ?_
  refine Go.aload1 2 X0 hx (hb hby d13_1) rfl rfl rfl ?_
  obtain ⟨cq1, kq1, q1a, q1b, q1c⟩ := isOf hZ e0 E_q
  obtain ⟨_, _, ⟨T1, L1, k1, n1⟩, -, X1, ⟨Lc1, hQ1, l1, y1, z1⟩, st1⟩ := X0.interfaceBack hx (xi := (⟨"java/lang/CharSequence", "toString", "()Ljava/lang/String;"⟩ : MethodName)) (y := (⟨"java/lang/String", "toString", "()Ljava/lang/String;"⟩ : MethodName)) hown (mvT hZ (ow hw 84 rfl)) (mvT hZ (ow hw 85 rfl)) (mvT hZ (ow hw 86 rfl)) (mvT hZ (ow hw 87 rfl)) (mvT hZ (ow hw 88 rfl)) (mvT hZ (ow hw 89 rfl)) (mvT hZ (ow hw 90 rfl)) (mvT hZ (ow hw 91 rfl)) (by decide) (backOf (W := 1) (rmSTs l Z a0 hw [] q h0 n0 Z0 ) hZ (ow hw 92 rfl) (ow hw 8 rfl) (by decide) (by decide)) q1a q1b q1c (g := (mkF m 2 #[rv a, rv q] [(.ref q), (.ref a)])) rfl (by rw [hml]; rfl) (Steps.refl _) (argsL := []) (rest := [(.ref a)]) (lenOf pd_525 rfl) rfl (by show 2 * 0 + _ ≤ _; exact Nat.le_of_eq rfl) (hb hby d13_2) (fun _ _ => ⟨rfl, e0, (by decide : 0 + 0 ≤ _), (by decide : 0 + 0 ≤ _)⟩)
  dsimp only [Pt.U, Pt.locs, Pt.cells, Pt.slots] at X1 l1 y1 z1 st1 hQ1
  subst l1 y1 z1
  obtain ⟨rfl, N1q, e1⟩ := hQ1
  have N1 := Fr.app N0 N1q
  refine Go.to st1 ?_
  show Go _ _ _ _ T1 (mkF m 7 #[rv a, rv q] [(.ref q), (.ref a)])
  obtain ⟨cq2, kq2, q2a, q2b, q2c⟩ := isOf hZ e1 E_a
  obtain ⟨_, _, ⟨T2, L2, k2, n2⟩, -, X2, ⟨Lc2, hQ2, l2, y2, z2⟩, st2⟩ := X1.virtualBack hx (y := (⟨"java/lang/String", "indexOf", "(Ljava/lang/String;)I"⟩ : MethodName)) (z := (⟨"java/lang/String", "indexOf", "(Ljava/lang/String;)I"⟩ : MethodName)) hown (mvT hZ (ow hw 93 rfl)) (mvT hZ (ow hw 94 rfl)) (notFace_of_selects (args := #[]) (mvT hZ (ow hw 96 rfl))) (mvT hZ (ow hw 96 rfl)) (mvT hZ (ow hw 95 rfl)) (by decide) (backOf (W := 0) (rmIdx l Z a0 hw [] a q sv ks tv kt hl cs h0 n0 Z0 O0 E_a F_a_coder F_a_value V_sv E_q F_q_coder F_q_value V_tv hho S_cs n_cs) hZ (ow hw 97 rfl) (ow hw 8 rfl) (by decide) (by decide)) q2a q2c (g := (mkF m 7 #[rv a, rv q] [(.ref q), (.ref a)])) rfl (by rw [hml]; rfl) (Steps.refl _) (argsL := [(.ref q)]) (rest := []) (lenOf pd_527 rfl) rfl (by show 2 * 0 + _ ≤ _; exact Nat.le_of_eq rfl) (hb hby d13_7) (fun _ _ => ⟨rfl, e1, (by decide : 0 + 0 ≤ _), (by decide : 0 + 0 ≤ _)⟩)
  dsimp only [Pt.U, Pt.locs, Pt.cells, Pt.slots] at X2 l2 y2 z2 st2 hQ2
  subst l2 y2 z2
  obtain ⟨r, rfl, N2q, e2, Q2_0⟩ := hQ2
  have N2 := Fr.app N1 N2q
  refine Go.to st2 ?_
  show Go _ _ _ _ T2 (mkF m 10 #[rv a, rv q] [(.int r)])
  rcases Q2_0 with ⟨hr1, hr2⟩ | ⟨hr1, hr2⟩
  · refine Go.ifN 13 X2 hx (hb hby d13_10) (XT.i0_lt_f hr1) rfl ?_
    refine Go.iconst 14 X2 hx (1 : Int32) (hb hby d13_13) (by decide) rfl ?_
    refine Go.goto 18 X2 hx (hb hby d13_14) (by decide) (by decide) ?_
    exact Go.retI X2 hx Bd.notSynchronized Bd.returns rfl (by simp) (hb hby d13_18) (by rw [e2]; exact ⟨(1 : Int32), rfl, N2, rfl, Or.inl ⟨rfl, hr2⟩⟩) (by decide) (by decide)
  · refine Go.ifY 17 X2 hx (hb hby d13_10) (XT.i0_lt_t hr1) (by decide) (by decide) ?_
    refine Go.iconst 18 X2 hx (0 : Int32) (hb hby d13_17) (by decide) rfl ?_
    exact Go.retI X2 hx Bd.notSynchronized Bd.returns rfl (by simp) (hb hby d13_18) (by rw [e2]; exact ⟨(0 : Int32), rfl, N2, rfl, Or.inr ⟨rfl, hr2⟩⟩) (by decide) (by decide)
theorem pn_534 : plainName "com/example/entries_to_nodes/entriestonodes/component/ServerAddress" = true := by first | (simp [plainName, overriddenIn]; done) | decide +kernel
theorem ef_535 (m : MethodId) (x0 : Addr) (x1 : Addr) (x2 : Int32) : entryFrame m #[(.ref x0), (.ref x1), (.int x2)] 3 = mkF m 0 #[rv x0, rv x1, iv x2] [] := by (first | (simp [entryFrame, mkF, argsToLocals, Value.category]; done) | rfl)
theorem d8_0 : decode prog_6_method_1_code 0 = .ok (.aload_n 0, 1) := by decide +kernel
theorem d8_1 : decode prog_6_method_1_code 1 = .ok (.invokespecial 1, 3) := by decide +kernel
theorem d8_4 : decode prog_6_method_1_code 4 = .ok (.aload_n 1, 1) := by decide +kernel
theorem d8_5 : decode prog_6_method_1_code 5 = .ok (.invokevirtual 7, 3) := by decide +kernel
theorem d8_8 : decode prog_6_method_1_code 8 = .ok (.ifCond .eq 13, 3) := by decide +kernel
theorem d8_21 : decode prog_6_method_1_code 21 = .ok (.iload_n 2, 1) := by decide +kernel
theorem d8_22 : decode prog_6_method_1_code 22 = .ok (.iconst 1, 1) := by decide +kernel
theorem d8_23 : decode prog_6_method_1_code 23 = .ok (.if_icmp .lt 9, 3) := by decide +kernel
theorem d8_26 : decode prog_6_method_1_code 26 = .ok (.iload_n 2, 1) := by decide +kernel
theorem d8_27 : decode prog_6_method_1_code 27 = .ok (.ldc 20, 2) := by decide +kernel
theorem d8_29 : decode prog_6_method_1_code 29 = .ok (.if_icmp .le 35, 3) := by decide +kernel
theorem d8_64 : decode prog_6_method_1_code 64 = .ok (.aload_n 0, 1) := by decide +kernel
theorem d8_65 : decode prog_6_method_1_code 65 = .ok (.aload_n 1, 1) := by decide +kernel
theorem d8_66 : decode prog_6_method_1_code 66 = .ok (.putfield 39, 3) := by decide +kernel
theorem d8_69 : decode prog_6_method_1_code 69 = .ok (.aload_n 0, 1) := by decide +kernel
theorem d8_70 : decode prog_6_method_1_code 70 = .ok (.iload_n 2, 1) := by decide +kernel
theorem d8_71 : decode prog_6_method_1_code 71 = .ok (.putfield 45, 3) := by decide +kernel
theorem d8_74 : decode prog_6_method_1_code 74 = .ok (.return_, 1) := by decide +kernel
def Q_rmSaInit (Z : State) (a : Addr) (st : Addr) (sv : Addr) (ks : ClassId) (z : Int32) (vs : List Value) (pv : Int32) (h0 : Heap) (n0 : Nat) (v : Option Value) (h : Heap) (L : List Loc) : Prop := v = none ∧ Fr n0 L ∧ Keep h0 h [a] ∧ Exa Z h a "com/example/entries_to_nodes/entriestonodes/component/ServerAddress" ∧ Fld Z h a "com/example/entries_to_nodes/entriestonodes/component/ServerAddress" "host" "Ljava/lang/String;" (.ref st) ∧ Fld Z h a "com/example/entries_to_nodes/entriestonodes/component/ServerAddress" "port" "I" (.int pv)
theorem rmSaInit (l : Launch) (Z : State) (a0 : Array Value) (hw : ∀ d ∈ tables_1, d.before a0 Z = true) (ws : List Jvm.Cond) (a : Addr) (st : Addr) (sv : Addr) (ks : ClassId) (z : Int32) (vs : List Value) (pv : Int32) (h0 : Heap) (n0 : Nat) (Z0 : n0 ≤ h0.size) (E_a : Exa Z h0 a "com/example/entries_to_nodes/entriestonodes/component/ServerAddress") (F_a_host : Fld Z h0 a "com/example/entries_to_nodes/entriestonodes/component/ServerAddress" "host" "Ljava/lang/String;" .null) (F_a_port : Fld Z h0 a "com/example/entries_to_nodes/entriestonodes/component/ServerAddress" "port" "I" (.int 0)) (g_a : n0 ≤ a) (E_st : Exa Z h0 st "java/lang/String") (F_st_coder : Fld Z h0 st "java/lang/String" "coder" "B" (.int 0)) (F_st_value : Fld Z h0 st "java/lang/String" "value" "[B" (.ref sv)) (V_sv : Arv Z h0 sv ks .byte z vs (.int 0)) (hp : (0 < pv.toInt ∧ pv.toInt ≤ 65535)) (hz : (¬ z = 0)) :
    MetN l Z ws (⟨"com/example/entries_to_nodes/entriestonodes/component/ServerAddress", "<init>", "(Ljava/lang/String;I)V"⟩ : MethodName) prog_6_method_1_code 3 none ({ frames := 1, cells := 0, slots := 0, locals := 12 } : Room) #[(.ref a), (.ref st), (.int pv)] h0 (Q_rmSaInit Z a st sv ks z vs pv h0 n0) := by
  refine MetN.go (plainFor_of_name pn_534) n0 fun p e s m below meth c s₁ Bd hx hby hml hZ hh hown hnm X0 e0 N0 => ?_
  have hown : s.vm.findClass "com/example/entries_to_nodes/entriestonodes/component/ServerAddress" = some m.cls := hown
  refine Go.ent (ef_535 m a st pv) ?_
  show Go _ _ _ _ s₁ (mkF m 0 #[rv a, rv st, iv pv] [])
  have li1 : (1 : Int32).toInt = 1 := by decide
  have li2 : (65535 : Int32).toInt = 65535 := by decide
  refine Go.aload1 1 X0 hx (hb hby d8_0) rfl rfl rfl ?_
  obtain ⟨T3, X3, e3, st3⟩ := initO X0 hx hZ hown (ow hw 42 rfl) (ow hw 17 rfl) (ow hw 18 rfl) e0 (g := (mkF m 1 #[rv a, rv st, iv pv] [(.ref a)])) rfl (by rw [hml]; rfl) rfl (hb hby d8_1) (by decide) (W := 0) (by show 2 * 0 + _ ≤ _; exact Nat.le_of_eq rfl) (by decide)
  refine Go.by st3 ?_
  show Go _ _ _ _ T3 (mkF m 4 #[rv a, rv st, iv pv] [])
  refine Go.aload1 5 X3 hx (hb hby d8_4) rfl rfl rfl ?_
  obtain ⟨cq4, kq4, q4a, q4b, q4c⟩ := isOf hZ e3 E_st
  obtain ⟨_, _, ⟨T4, L4, k4, n4⟩, -, X4, ⟨Lc4, hQ4, l4, y4, z4⟩, st4⟩ := X3.virtualBack hx (y := (⟨"java/lang/String", "isEmpty", "()Z"⟩ : MethodName)) (z := (⟨"java/lang/String", "isEmpty", "()Z"⟩ : MethodName)) hown (mvT hZ (ow hw 43 rfl)) (mvT hZ (ow hw 44 rfl)) (notFace_of_selects (args := #[]) (mvT hZ (ow hw 46 rfl))) (mvT hZ (ow hw 46 rfl)) (mvT hZ (ow hw 45 rfl)) (by decide) (backOf (W := 0) (rmSEmpty l Z a0 hw [] st sv ks z vs h0 n0 Z0 E_st F_st_coder F_st_value V_sv hz) hZ (ow hw 47 rfl) (ow hw 8 rfl) (by decide) (by decide)) q4a q4c (g := (mkF m 5 #[rv a, rv st, iv pv] [(.ref st)])) rfl (by rw [hml]; rfl) (Steps.refl _) (argsL := []) (rest := []) (lenOf pd_67 rfl) rfl (by show 2 * 0 + _ ≤ _; exact Nat.le_of_eq rfl) (hb hby d8_5) (fun _ _ => ⟨rfl, e3, (by decide : 0 + 0 ≤ _), (by decide : 0 + 0 ≤ _)⟩)
  dsimp only [Pt.U, Pt.locs, Pt.cells, Pt.slots] at X4 l4 y4 z4 st4 hQ4
  subst l4 y4 z4
  obtain ⟨rfl, N4q, e4⟩ := hQ4
  have N4 := Fr.app N0 N4q
  refine Go.to st4 ?_
  show Go _ _ _ _ T4 (mkF m 8 #[rv a, rv st, iv pv] [(.int 0)])
  refine Go.ifY 21 X4 hx (hb hby d8_8) (XT.i0_eq_t rfl) (by decide) (by decide) ?_
  refine Go.iload1 22 X4 hx (hb hby d8_21) rfl rfl ?_
  refine Go.iconst 23 X4 hx (1 : Int32) (hb hby d8_22) (by decide) rfl ?_
  refine Go.icmpN 26 X4 hx (hb hby d8_23) (XT.ii_lt_f (u_nlt32 (by omega))) rfl ?_
  refine Go.iload1 27 X4 hx (hb hby d8_26) rfl rfl ?_
  refine Go.by (fun _ gk => X4.ldcI hx hown (mvT hZ (ow hw 48 rfl)) (g := (mkF m 27 #[rv a, rv st, iv pv] [(.int pv)])) rfl (hb hby d8_27) gk) ?_
  show Go _ _ _ _ T4 (mkF m 29 #[rv a, rv st, iv pv] [(.int 65535), (.int pv)])
  refine Go.icmpY 64 X4 hx (hb hby d8_29) (XT.ii_le_t (u_nlt32 (by omega))) (by decide) (by decide) ?_
  refine Go.aload1 65 X4 hx (hb hby d8_64) rfl rfl rfl ?_
  refine Go.aload1 66 X4 hx (hb hby d8_65) rfl rfl rfl ?_
  obtain ⟨T5, h5, X5, e5, W5, st5⟩ := putF X4 hx hZ hown (host := "") (Or.inl (ow hw 49 rfl)) Via.refl e4 F_a_host E_a (Or.inr ⟨(ow hw 50 rfl), rfl, hnm⟩) (ow hw 37 rfl) (ty := (.object "java/lang/String")) (by decide) rfl rfl (g := (mkF m 66 #[rv a, rv st, iv pv] [(.ref st), (.ref a)])) rfl rfl (hb hby d8_66)
  have N5 := Fr.snoc X5 N4 g_a
  have Fw5 : Fld Z h5 a "com/example/entries_to_nodes/entriestonodes/component/ServerAddress" "host" "Ljava/lang/String;" (.ref st) := F_a_host.same W5
  refine Go.by st5 ?_
  show Go _ _ _ _ T5 (mkF m 69 #[rv a, rv st, iv pv] [])
  refine Go.aload1 70 X5 hx (hb hby d8_69) rfl rfl rfl ?_
  refine Go.iload1 71 X5 hx (hb hby d8_70) rfl rfl ?_
  have F6 : Fld Z h5 a "com/example/entries_to_nodes/entriestonodes/component/ServerAddress" "port" "I" (.int 0) := F_a_port.other W5 (Or.inr (slot_ne (Or.inr (ow hw 52 rfl)) (Or.inr (ow hw 50 rfl)) (by decide) (t := .int) (t' := (.object "java/lang/String")) (by decide) (by decide)))
  have F7 : Exa Z h5 a "com/example/entries_to_nodes/entriestonodes/component/ServerAddress" := E_a.wr W5
  obtain ⟨T8, h8, X8, e8, W8, st8⟩ := putF X5 hx hZ hown (host := "") (Or.inl (ow hw 51 rfl)) Via.refl e5 F6 F7 (Or.inr ⟨(ow hw 52 rfl), rfl, hnm⟩) (ow hw 37 rfl) (ty := .int) (by decide) rfl rfl (g := (mkF m 71 #[rv a, rv st, iv pv] [(.int pv), (.ref a)])) rfl rfl (hb hby d8_71)
  have N8 := Fr.snoc X8 N5 g_a
  have Fw8 : Fld Z h8 a "com/example/entries_to_nodes/entriestonodes/component/ServerAddress" "port" "I" (.int pv) := F6.same W8
  refine Go.by st8 ?_
  show Go _ _ _ _ T8 (mkF m 74 #[rv a, rv st, iv pv] [])
  have F9 : Keep h0 h5 [a] := (Keep.refl h0 [a]).wr W5 (Or.inl (List.mem_of_getElem? (i := 0) rfl))
  have F10 : Keep h0 h8 [a] := F9.wr W8 (Or.inl (List.mem_of_getElem? (i := 0) rfl))
  have F11 : Exa Z h8 a "com/example/entries_to_nodes/entriestonodes/component/ServerAddress" := F7.wr W8
  have F12 : Fld Z h8 a "com/example/entries_to_nodes/entriestonodes/component/ServerAddress" "host" "Ljava/lang/String;" (.ref st) := Fw5.other W8 (Or.inr (slot_ne (Or.inr (ow hw 50 rfl)) (Or.inr (ow hw 52 rfl)) (by decide) (t := (.object "java/lang/String")) (t' := .int) (by decide) (by decide)))
  exact Go.retV X8 hx Bd.notSynchronized Bd.returns (hb hby d8_74) (by rw [e8]; exact ⟨rfl, N8, F10, F11, F12, Fw8⟩) (by decide) (by decide)
theorem d10_0 : decode prog_6_method_5_code 0 = .ok (.new 21, 3) := by decide +kernel
theorem d10_3 : decode prog_6_method_5_code 3 = .ok (.dup, 1) := by decide +kernel
theorem pd_556 : parseMethodDescriptor "()V" = some ⟨[], none⟩ := by decide +kernel
theorem d10_4 : decode prog_6_method_5_code 4 = .ok (.invokespecial 23, 3) := by decide +kernel
theorem d10_7 : decode prog_6_method_5_code 7 = .ok (.aload_n 0, 1) := by decide +kernel
theorem d10_8 : decode prog_6_method_5_code 8 = .ok (.getfield 39, 3) := by decide +kernel
theorem d10_11 : decode prog_6_method_5_code 11 = .ok (.ldc 76, 2) := by decide +kernel
theorem pd_561 : parseMethodDescriptor "(Ljava/lang/CharSequence;)Z" = some ⟨[(.object "java/lang/CharSequence")], some .boolean⟩ := by decide +kernel
theorem d10_13 : decode prog_6_method_5_code 13 = .ok (.invokevirtual 78, 3) := by decide +kernel
theorem d10_16 : decode prog_6_method_5_code 16 = .ok (.ifCond .eq 33, 3) := by decide +kernel
theorem d10_19 : decode prog_6_method_5_code 19 = .ok (.new 21, 3) := by decide +kernel
theorem d10_22 : decode prog_6_method_5_code 22 = .ok (.dup, 1) := by decide +kernel
theorem d10_23 : decode prog_6_method_5_code 23 = .ok (.invokespecial 23, 3) := by decide +kernel
theorem d10_26 : decode prog_6_method_5_code 26 = .ok (.ldc 61, 2) := by decide +kernel
theorem pd_568 : parseMethodDescriptor "(Ljava/lang/String;)Ljava/lang/StringBuilder;" = some ⟨[(.object "java/lang/String")], some (.object "java/lang/StringBuilder")⟩ := by decide +kernel
theorem d10_28 : decode prog_6_method_5_code 28 = .ok (.invokevirtual 26, 3) := by decide +kernel
theorem d10_31 : decode prog_6_method_5_code 31 = .ok (.aload_n 0, 1) := by decide +kernel
theorem d10_32 : decode prog_6_method_5_code 32 = .ok (.getfield 39, 3) := by decide +kernel
theorem d10_35 : decode prog_6_method_5_code 35 = .ok (.invokevirtual 26, 3) := by decide +kernel
theorem d10_38 : decode prog_6_method_5_code 38 = .ok (.ldc 67, 2) := by decide +kernel
theorem d10_40 : decode prog_6_method_5_code 40 = .ok (.invokevirtual 26, 3) := by decide +kernel
theorem d10_43 : decode prog_6_method_5_code 43 = .ok (.invokevirtual 35, 3) := by decide +kernel
theorem d10_46 : decode prog_6_method_5_code 46 = .ok (.goto 7, 3) := by decide +kernel
theorem d10_53 : decode prog_6_method_5_code 53 = .ok (.invokevirtual 26, 3) := by decide +kernel
theorem d10_56 : decode prog_6_method_5_code 56 = .ok (.ldc 76, 2) := by decide +kernel
theorem d10_58 : decode prog_6_method_5_code 58 = .ok (.invokevirtual 26, 3) := by decide +kernel
theorem d10_61 : decode prog_6_method_5_code 61 = .ok (.aload_n 0, 1) := by decide +kernel
theorem d10_62 : decode prog_6_method_5_code 62 = .ok (.getfield 45, 3) := by decide +kernel
theorem pd_582 : parseMethodDescriptor "(I)Ljava/lang/StringBuilder;" = some ⟨[.int], some (.object "java/lang/StringBuilder")⟩ := by decide +kernel
theorem d10_65 : decode prog_6_method_5_code 65 = .ok (.invokevirtual 30, 3) := by decide +kernel
theorem d10_68 : decode prog_6_method_5_code 68 = .ok (.invokevirtual 35, 3) := by decide +kernel
theorem d10_71 : decode prog_6_method_5_code 71 = .ok (.areturn, 1) := by decide +kernel
theorem d10_49 : decode prog_6_method_5_code 49 = .ok (.aload_n 0, 1) := by decide +kernel
theorem d10_50 : decode prog_6_method_5_code 50 = .ok (.getfield 39, 3) := by decide +kernel
def Q_rmTs (Z : State) (a : Addr) (hs : Addr) (sv : Addr) (ks : ClassId) (pv : Int32) (hl : List Value) (cs : Int32) (d1 : Addr) (d2 : Addr) (kd1 : ClassId) (kd2 : ClassId) (h0 : Heap) (n0 : Nat) (v : Option Value) (h : Heap) (L : List Loc) : Prop := ∃ st : Addr, ∃ sv9 : Addr, ∃ ks9 : ClassId, ∃ us : List Value, v = some (.ref st) ∧ Fr n0 L ∧ Keep h0 h [] ∧ Exa Z h st "java/lang/String" ∧ Fld Z h st "java/lang/String" "coder" "B" (.int 0) ∧ Fld Z h st "java/lang/String" "value" "[B" (.ref sv9) ∧ Arv Z h sv9 ks9 .byte (Int32.ofNat us.length) us (.int 0) ∧ (((Value.int 58 ∈ hl) ∧ us = ((((([(.int 91)] : List Value) ++ hl) ++ ([(.int 93)] : List Value)) ++ ([(.int 58)] : List Value)) ++ own_dg pv)) ∨ (¬ (Value.int 58 ∈ hl) ∧ us = ((hl ++ ([(.int 58)] : List Value)) ++ own_dg pv))) ∧ h0.size ≤ st ∧ h0.size ≤ sv9
theorem rmTs (l : Launch) (Z : State) (a0 : Array Value) (hw : ∀ d ∈ tables_1, d.before a0 Z = true) (ws : List Jvm.Cond) (a : Addr) (hs : Addr) (sv : Addr) (ks : ClassId) (pv : Int32) (hl : List Value) (cs : Int32) (d1 : Addr) (d2 : Addr) (kd1 : ClassId) (kd2 : ClassId) (h0 : Heap) (n0 : Nat) (Z0 : n0 ≤ h0.size) (O0 : Old Z n0 h0) (E_a : Exa Z h0 a "com/example/entries_to_nodes/entriestonodes/component/ServerAddress") (F_a_host : Fld Z h0 a "com/example/entries_to_nodes/entriestonodes/component/ServerAddress" "host" "Ljava/lang/String;" (.ref hs)) (F_a_port : Fld Z h0 a "com/example/entries_to_nodes/entriestonodes/component/ServerAddress" "port" "I" (.int pv)) (E_hs : Exa Z h0 hs "java/lang/String") (F_hs_coder : Fld Z h0 hs "java/lang/String" "coder" "B" (.int 0)) (F_hs_value : Fld Z h0 hs "java/lang/String" "value" "[B" (.ref sv)) (V_sv : Arv Z h0 sv ks .byte (Int32.ofNat hl.length) hl (.int 0)) (hp : (0 < pv.toInt ∧ pv.toInt ≤ 65535)) (hho : (own_host hl)) (S_cs : Sta Z Z.heap "java/lang/String" "COMPACT_STRINGS" "Z" (.int cs)) (n_cs : ¬ cs = 0) (S_d1 : Sta Z Z.heap "java/lang/Integer" "DigitOnes" "[B" (.ref d1)) (V_d1 : Arv Z Z.heap d1 kd1 .byte (100 : Int32) own_ones (.int 0)) (S_d2 : Sta Z Z.heap "java/lang/Integer" "DigitTens" "[B" (.ref d2)) (V_d2 : Arv Z Z.heap d2 kd2 .byte (100 : Int32) own_tens (.int 0)) :
    MetFree l (⟨"com/example/entries_to_nodes/entriestonodes/component/ServerAddress", "toString", "()Ljava/lang/String;"⟩ : MethodName) (head1 (Jvm.Cond.code (⟨"com/example/entries_to_nodes/entriestonodes/component/ServerAddress", "toString", "()Ljava/lang/String;"⟩ : MethodName) prog_6_method_5_code 1 (some (.object "java/lang/String")) :: ws) ({ frames := 6, cells := 16, slots := 112, locals := 114 } : Room)) (fun as' U => as' = #[(.ref a)] ∧ Z.Warmed39 U.vm ∧ U.heap = h0 ∧ CHv Z own_EL U.vm h0) (fun _ _ _ _ _ => True) (fun _ U o U' => ∃ v L, o = .returned v ∧ Q_rmTs Z a hs sv ks pv hl cs d1 d2 kd1 kd2 h0 n0 v U'.heap L ∧ CHr Z own_EL U.vm U.heap U'.vm U'.heap ∧ ReturnedEndW U o U' L ({ frames := 6, cells := 16, slots := 112, locals := 114 } : Room).cells ({ frames := 6, cells := 16, slots := 112, locals := 114 } : Room).slots) := by
  refine MetFree.of_bodySF (plainFor_of_name pn_534) hisR ?_
  intro p e s m args below meth c s₁ Bd hml0 hP hK
  obtain ⟨rfl, hZ, hh, hH⟩ := hP
  have hx := Bd.exec
  have hby := Bd.bytes
  have hml : c.maxLocals = 1 := hml0
  have hown : s.vm.findClass "com/example/entries_to_nodes/entriestonodes/component/ServerAddress" = some m.cls := findClass_of_methodNamed Bd.named
  have hnm := (name_of_methodNamed Bd.named Bd.method).1
  have X0 : Stand p l e ({ frames := 6, cells := 16, slots := 112, locals := 114 } : Room) (s.setVm s.vm) m #[(.ref a)] below meth c s₁ [] 0 0 := Stand.of_body Bd
  have e0 : s₁.heap = h0 := by rw [← hh, Bd.state]; rfl
  have N0 := Fr.nil n0
  have hS0 : s.Since s.vm s.heap.size := (State.WarmedH.refl s).since _
  have hk0 : s.heap.size ≤ h0.size := Nat.le_of_eq (by rw [hh])
  have C0 : CHr Z own_EL s.vm h0 s.vm h0 := CHr.refl hH
  have hEL := own_EW hw
  have hSA := own_SA hw
  refine Go.enter (F := EndW Z own_EL s (Q_rmTs Z a hs sv ks pv hl cs d1 d2 kd1 kd2 h0 n0) ({ frames := 6, cells := 16, slots := 112, locals := 114 } : Room).cells ({ frames := 6, cells := 16, slots := 112, locals := 114 } : Room).slots) (ef_4 m a) ?_
  show Go _ _ _ _ s₁ (mkF m 0 #[rv a] [])
  have hlen3 := own_host3 hho
  obtain ⟨s1, g1⟩ : ∃ z, z = h0.size := ⟨_, rfl⟩
  have ge_s1 : n0 ≤ s1 := Nat.le_trans Z0 (Nat.le_of_eq g1.symm)
  have sz_s1 : h0.size ≤ s1 := Nat.le_trans (Keep.refl h0 []).1 (Nat.le_of_eq g1.symm)
  have ne_a_s1 : a ≠ s1 := Nat.ne_of_lt (Nat.lt_of_lt_of_le E_a.lt (Nat.le_of_eq g1.symm))
  have ne_hs_s1 : hs ≠ s1 := Nat.ne_of_lt (Nat.lt_of_lt_of_le E_hs.lt (Nat.le_of_eq g1.symm))
  have ne_sv_s1 : sv ≠ s1 := Nat.ne_of_lt (Nat.lt_of_lt_of_le V_sv.lt (Nat.le_of_eq g1.symm))
  obtain ⟨T1, h1, X1, e1, E1, A1, D1, -, st1⟩ := newO X0 hx hZ hown (ow hw 58 rfl) (ow hw 59 rfl) (ow hw 60 rfl) e0 (g := (mkF m 0 #[rv a] [])) rfl (hb hby d10_0) (by decide) (by decide)
  rw [← g1] at A1 D1 st1
  have C2 : CHr Z own_EL s.vm h0 s.vm h1 := C0.trans (CHr.ext E1 C0.1)
  have F_value_s1 : Fld Z h1 s1 "java/lang/AbstractStringBuilder" "value" "[B" .null := D1 (Or.inl (ow hw 73 rfl)) (ty := (.array .byte)) (by decide)
  have F_coder_s1 : Fld Z h1 s1 "java/lang/AbstractStringBuilder" "coder" "B" (.int 0) := D1 (Or.inl (ow hw 75 rfl)) (ty := .byte) (by decide)
  have F_count_s1 : Fld Z h1 s1 "java/lang/AbstractStringBuilder" "count" "I" (.int 0) := D1 (Or.inl (ow hw 132 rfl)) (ty := .int) (by decide)
  refine Go.by st1 ?_
  show Go _ _ _ _ T1 (mkF m 3 #[rv a] [(.ref s1)])
  refine Go.dup 4 X1 hx (hb hby d10_3) rfl rfl ?_
  have F3 : Old Z n0 h1 := O0.ext E1
  have F4 : n0 ≤ h1.size := Nat.le_trans Z0 E1.1
  have F5 : Keep h0 h1 [] := (Keep.refl h0 []).ext E1
  have F6 : Exa Z h1 a "com/example/entries_to_nodes/entriestonodes/component/ServerAddress" := E_a.ext E1
  have F7 : Exa Z h1 hs "java/lang/String" := E_hs.ext E1
  have F8 : Arv Z h1 sv ks .byte (Int32.ofNat hl.length) hl (.int 0) := V_sv.ext E1
  obtain ⟨_, _, ⟨T9, L9, k9, n9⟩, -, X9, ⟨Lc9, hQ9, l9, y9, z9⟩, st9⟩ := X1.specialBack hx (y := (⟨"java/lang/StringBuilder", "<init>", "()V"⟩ : MethodName)) rfl hown (mvT hZ (ow hw 61 rfl)) (mvT hZ (ow hw 62 rfl)) (mvT hZ (ow hw 63 rfl)) (by decide) (backOf (W := 1) (rmSbInit l Z a0 hw [] s1 cs h1 n0 F4 F3 A1 F_coder_s1 F_value_s1 F_count_s1 ge_s1 S_cs n_cs) hZ (ow hw 63 rfl) (ow hw 60 rfl) (by decide) (by decide)) (g := (mkF m 4 #[rv a] [(.ref s1), (.ref s1)])) rfl (by rw [hml]; rfl) (Steps.refl _) (a := s1) (argsL := []) (rest := [(.ref s1)]) (lenOf pd_556 rfl) rfl (by show 2 * 0 + _ ≤ _; exact Nat.le_of_eq rfl) (hb hby d10_4) (fun _ _ => ⟨rfl, e1, (by decide : 1 + 1 ≤ _), (by decide : 4 + 16 ≤ _)⟩)
  dsimp only [Pt.U, Pt.locs, Pt.cells, Pt.slots] at X9 l9 y9 z9 st9 hQ9
  subst l9 y9 z9
  obtain ⟨b1, kb1, rfl, N9q, K9, Q9_0, Q9_1, Q9_2, Q9_3, Q9_4, Q9_5⟩ := hQ9
  have N9 := Fr.app N0 N9q
  have C10 : CHr Z own_EL s.vm h0 s.vm T9.heap := C2.trans (CHr.keep K9 (sfS (Safe.exa hZ.alike A1 (by decide) (by decide)) sf0) C2.1)
  refine Go.to st9 ?_
  show Go _ _ _ _ T9 (mkF m 7 #[rv a] [(.ref s1)])
  have ge_b1 : n0 ≤ b1 := Nat.le_trans F4 Q9_5
  have sz_b1 : h0.size ≤ b1 := Nat.le_trans F5.1 Q9_5
  have ne_a_b1 : a ≠ b1 := Nat.ne_of_lt (Nat.lt_of_lt_of_le F6.lt Q9_5)
  have ne_hs_b1 : hs ≠ b1 := Nat.ne_of_lt (Nat.lt_of_lt_of_le F7.lt Q9_5)
  have ne_s1_b1 : s1 ≠ b1 := Nat.ne_of_lt (Nat.lt_of_lt_of_le A1.lt Q9_5)
  have ne_sv_b1 : sv ≠ b1 := Nat.ne_of_lt (Nat.lt_of_lt_of_le F8.lt Q9_5)
  have Sf11 : Safe Z own_EL s.vm T9.heap b1 := Safe.keep K9 (sfS (Safe.exa hZ.alike A1 (by decide) (by decide)) sf0) C2.1 (Safe.new Q9_5)
  refine Go.aload1 8 X9 hx (hb hby d10_7) rfl rfl rfl ?_
  have F12 : Fld Z h1 a "com/example/entries_to_nodes/entriestonodes/component/ServerAddress" "host" "Ljava/lang/String;" (.ref hs) := F_a_host.ext E1
  have F13 : Fld Z T9.heap a "com/example/entries_to_nodes/entriestonodes/component/ServerAddress" "host" "Ljava/lang/String;" (.ref hs) := F12.keep K9 (ninS ne_a_s1 nin0)
  obtain ⟨T14, X14, e14, st14⟩ := getF X9 hx hZ hown (host := "") (Or.inl (ow hw 49 rfl)) Via.refl rfl F13 (g := (mkF m 8 #[rv a] [(.ref a), (.ref s1)])) rfl rfl (hb hby d10_8)
  refine Go.by st14 ?_
  show Go _ _ _ _ T14 (mkF m 11 #[rv a] [(.ref hs), (.ref s1)])
  have F16 : s.heap.size ≤ h1.size := Nat.le_trans hk0 E1.1
  have F17 : s.heap.size ≤ T9.heap.size := Nat.le_trans F16 K9.1
  obtain ⟨q0, T15, h15, kq15, q0b, k15, X15, e15, E15, hS15, hk15, hZ15, hown15, Ea15, Fc15, Fv15, Va15, -, -, CH15, -, sf15, st15⟩ := ldcCH X14 hx hZ hown (ow hw 76 rfl) hSA e14 hS0 F17 hEL (List.mem_of_getElem? (i := 2) rfl) C10.1 (vs := [(.int 58)]) (z := (1 : Int32)) ⟨by decide, by decide⟩ (by decide) rfl (g := (mkF m 11 #[rv a] [(.ref hs), (.ref s1)])) rfl (hb hby d10_11) (n := 4) (by decide) (by decide) (by decide) (by decide)
  have C18 : CHr Z own_EL s.vm h0 T15.vm h15 := C10.trans CH15
  have Sf19 : Safe Z own_EL T15.vm h15 b1 := CH15.safe Q9_4.lt Sf11
  obtain ⟨ne_b1_q0, ne_b1_q0b⟩ := sf15 _ Sf19
  refine Go.by st15 ?_
  show Go _ _ _ _ T15 (mkF m 13 #[rv a] [(.ref q0), (.ref hs), (.ref s1)])
  have F20 : Old Z n0 T9.heap := F3.keep K9 (allS ge_s1 all0)
  have F21 : Old Z n0 h15 := F20.ext E15
  have F22 : Exa Z T9.heap hs "java/lang/String" := F7.keep K9
  have F23 : Exa Z h15 hs "java/lang/String" := F22.ext E15
  have F24 : Fld Z h1 hs "java/lang/String" "coder" "B" (.int 0) := F_hs_coder.ext E1
  have F25 : Fld Z T9.heap hs "java/lang/String" "coder" "B" (.int 0) := F24.keep K9 (ninS ne_hs_s1 nin0)
  have F26 : Fld Z h15 hs "java/lang/String" "coder" "B" (.int 0) := F25.ext E15
  have F27 : Fld Z h1 hs "java/lang/String" "value" "[B" (.ref sv) := F_hs_value.ext E1
  have F28 : Fld Z T9.heap hs "java/lang/String" "value" "[B" (.ref sv) := F27.keep K9 (ninS ne_hs_s1 nin0)
  have F29 : Fld Z h15 hs "java/lang/String" "value" "[B" (.ref sv) := F28.ext E15
  have F30 : Arv Z T9.heap sv ks .byte (Int32.ofNat hl.length) hl (.int 0) := F8.keep K9 (ninS ne_sv_s1 nin0)
  have F31 : Arv Z h15 sv ks .byte (Int32.ofNat hl.length) hl (.int 0) := F30.ext E15
  have F32 : n0 ≤ T9.heap.size := Nat.le_trans F4 K9.1
  have F33 : n0 ≤ h15.size := Nat.le_trans F32 E15.1
  obtain ⟨cq34, kq34, q34a, q34b, q34c⟩ := isOf hZ15 e15 F23
  obtain ⟨_, _, ⟨T34, L34, k34, n34⟩, -, X34, ⟨Lc34, hQ34, l34, y34, z34⟩, st34⟩ := X15.virtualBack hx (y := (⟨"java/lang/String", "contains", "(Ljava/lang/CharSequence;)Z"⟩ : MethodName)) (z := (⟨"java/lang/String", "contains", "(Ljava/lang/CharSequence;)Z"⟩ : MethodName)) hown15 (mvT hZ15 (ow hw 79 rfl)) (mvT hZ15 (ow hw 80 rfl)) (notFace_of_selects (args := #[]) (mvT hZ15 (ow hw 82 rfl))) (mvT hZ15 (ow hw 82 rfl)) (mvT hZ15 (ow hw 81 rfl)) (by decide) (backOf (W := 1) (rmContains l Z a0 hw [] hs q0 sv ks q0b k15 hl cs h15 n0 F33 F21 F23 F26 F29 F31 Ea15 Fc15 Fv15 Va15 hho S_cs n_cs) hZ15 (ow hw 83 rfl) (ow hw 8 rfl) (by decide) (by decide)) q34a q34c (g := (mkF m 13 #[rv a] [(.ref q0), (.ref hs), (.ref s1)])) rfl (by rw [hml]; rfl) (Steps.refl _) (argsL := [(.ref q0)]) (rest := [(.ref s1)]) (lenOf pd_561 rfl) rfl (by show 2 * 0 + _ ≤ _; exact Nat.le_of_eq rfl) (hb hby d10_13) (fun _ _ => ⟨rfl, e15, (by decide : 4 + 0 ≤ _), (by decide : 28 + 0 ≤ _)⟩)
  dsimp only [Pt.U, Pt.locs, Pt.cells, Pt.slots] at X34 l34 y34 z34 st34 hQ34
  subst l34 y34 z34
  obtain ⟨rc, rfl, N34q, e34, Q34_0⟩ := hQ34
  have N34 := Fr.app N9 N34q
  refine Go.to st34 ?_
  show Go _ _ _ _ T34 (mkF m 16 #[rv a] [(.int rc), (.ref s1)])
  rcases Q34_0 with ⟨rfl, hC⟩ | ⟨rfl, hC⟩
  · show Go _ _ _ _ T34 (mkF m 16 #[rv a] [(.int 1), (.ref s1)])
    refine Go.ifN 19 X34 hx (hb hby d10_16) (XT.i0_eq_f (by decide)) rfl ?_
    obtain ⟨s2, g35⟩ : ∃ z, z = h15.size := ⟨_, rfl⟩
    have ge_s2 : n0 ≤ s2 := Nat.le_trans F33 (Nat.le_of_eq g35.symm)
    have F36 : Keep h0 T9.heap [] := F5.trans K9 (allS (Or.inr sz_s1) all0)
    have F37 : Keep h0 h15 [] := F36.ext E15
    have sz_s2 : h0.size ≤ s2 := Nat.le_trans F37.1 (Nat.le_of_eq g35.symm)
    have F38 : Exa Z T9.heap a "com/example/entries_to_nodes/entriestonodes/component/ServerAddress" := F6.keep K9
    have F39 : Exa Z h15 a "com/example/entries_to_nodes/entriestonodes/component/ServerAddress" := F38.ext E15
    have ne_a_s2 : a ≠ s2 := Nat.ne_of_lt (Nat.lt_of_lt_of_le F39.lt (Nat.le_of_eq g35.symm))
    have F40 : Arv Z h15 b1 kb1 .byte (16 : Int32) ([] : List Value) (.int 0) := Q9_4.ext E15
    have ne_b1_s2 : b1 ≠ s2 := Nat.ne_of_lt (Nat.lt_of_lt_of_le F40.lt (Nat.le_of_eq g35.symm))
    have ne_hs_s2 : hs ≠ s2 := Nat.ne_of_lt (Nat.lt_of_lt_of_le F23.lt (Nat.le_of_eq g35.symm))
    have ne_q0_s2 : q0 ≠ s2 := Nat.ne_of_lt (Nat.lt_of_lt_of_le Ea15.lt (Nat.le_of_eq g35.symm))
    have ne_q0b_s2 : q0b ≠ s2 := Nat.ne_of_lt (Nat.lt_of_lt_of_le Va15.lt (Nat.le_of_eq g35.symm))
    have F41 : Exa Z h15 s1 "java/lang/StringBuilder" := Q9_0.ext E15
    have ne_s1_s2 : s1 ≠ s2 := Nat.ne_of_lt (Nat.lt_of_lt_of_le F41.lt (Nat.le_of_eq g35.symm))
    have ne_sv_s2 : sv ≠ s2 := Nat.ne_of_lt (Nat.lt_of_lt_of_le F31.lt (Nat.le_of_eq g35.symm))
    obtain ⟨T35, h35, X35, e35, E35, A35, D35, -, st35⟩ := newO X34 hx hZ15 hown15 (ow hw 58 rfl) (ow hw 59 rfl) (ow hw 60 rfl) e34 (g := (mkF m 19 #[rv a] [(.ref s1)])) rfl (hb hby d10_19) (by decide) (by decide)
    rw [← g35] at A35 D35 st35
    have C42 : CHr Z own_EL s.vm h0 T15.vm h35 := C18.trans (CHr.ext E35 C18.1)
    have Sf43 : Safe Z own_EL T15.vm h35 b1 := Safe.ext E35 C18.1 Sf19
    have F_value_s2 : Fld Z h35 s2 "java/lang/AbstractStringBuilder" "value" "[B" .null := D35 (Or.inl (ow hw 73 rfl)) (ty := (.array .byte)) (by decide)
    have F_coder_s2 : Fld Z h35 s2 "java/lang/AbstractStringBuilder" "coder" "B" (.int 0) := D35 (Or.inl (ow hw 75 rfl)) (ty := .byte) (by decide)
    have F_count_s2 : Fld Z h35 s2 "java/lang/AbstractStringBuilder" "count" "I" (.int 0) := D35 (Or.inl (ow hw 132 rfl)) (ty := .int) (by decide)
    refine Go.by st35 ?_
    show Go _ _ _ _ T35 (mkF m 22 #[rv a] [(.ref s2), (.ref s1)])
    refine Go.dup 23 X35 hx (hb hby d10_22) rfl rfl ?_
    have F44 : Old Z n0 h35 := F21.ext E35
    have F45 : n0 ≤ h35.size := Nat.le_trans F33 E35.1
    have F46 : Keep h0 h35 [] := F37.ext E35
    have F47 : Exa Z h35 a "com/example/entries_to_nodes/entriestonodes/component/ServerAddress" := F39.ext E35
    have F48 : Arv Z h35 b1 kb1 .byte (16 : Int32) ([] : List Value) (.int 0) := F40.ext E35
    have F49 : Exa Z h35 hs "java/lang/String" := F23.ext E35
    have F50 : Exa Z h35 q0 "java/lang/String" := Ea15.ext E35
    have F51 : Arv Z h35 q0b k15 .byte (1 : Int32) [(.int 58)] (.int 0) := Va15.ext E35
    have F52 : Exa Z h35 s1 "java/lang/StringBuilder" := F41.ext E35
    have F53 : Arv Z h35 sv ks .byte (Int32.ofNat hl.length) hl (.int 0) := F31.ext E35
    obtain ⟨_, _, ⟨T54, L54, k54, n54⟩, -, X54, ⟨Lc54, hQ54, l54, y54, z54⟩, st54⟩ := X35.specialBack hx (y := (⟨"java/lang/StringBuilder", "<init>", "()V"⟩ : MethodName)) rfl hown15 (mvT hZ15 (ow hw 61 rfl)) (mvT hZ15 (ow hw 62 rfl)) (mvT hZ15 (ow hw 63 rfl)) (by decide) (backOf (W := 2) (rmSbInit l Z a0 hw [] s2 cs h35 n0 F45 F44 A35 F_coder_s2 F_value_s2 F_count_s2 ge_s2 S_cs n_cs) hZ15 (ow hw 63 rfl) (ow hw 60 rfl) (by decide) (by decide)) (g := (mkF m 23 #[rv a] [(.ref s2), (.ref s2), (.ref s1)])) rfl (by rw [hml]; rfl) (Steps.refl _) (a := s2) (argsL := []) (rest := [(.ref s2), (.ref s1)]) (lenOf pd_556 rfl) rfl (by show 2 * 0 + _ ≤ _; exact Nat.le_of_eq rfl) (hb hby d10_23) (fun _ _ => ⟨rfl, e35, (by decide : 5 + 1 ≤ _), (by decide : 32 + 16 ≤ _)⟩)
    dsimp only [Pt.U, Pt.locs, Pt.cells, Pt.slots] at X54 l54 y54 z54 st54 hQ54
    subst l54 y54 z54
    obtain ⟨b2, kb2, rfl, N54q, K54, Q54_0, Q54_1, Q54_2, Q54_3, Q54_4, Q54_5⟩ := hQ54
    have N54 := Fr.app N34 N54q
    have C55 : CHr Z own_EL s.vm h0 T15.vm T54.heap := C42.trans (CHr.keep K54 (sfS (Safe.exa hZ15.alike A35 (by decide) (by decide)) sf0) C42.1)
    have Sf56 : Safe Z own_EL T15.vm T54.heap b1 := Safe.keep K54 (sfS (Safe.exa hZ15.alike A35 (by decide) (by decide)) sf0) C42.1 Sf43
    refine Go.to st54 ?_
    show Go _ _ _ _ T54 (mkF m 26 #[rv a] [(.ref s2), (.ref s1)])
    have ge_b2 : n0 ≤ b2 := Nat.le_trans F45 Q54_5
    have sz_b2 : h0.size ≤ b2 := Nat.le_trans F46.1 Q54_5
    have ne_a_b2 : a ≠ b2 := Nat.ne_of_lt (Nat.lt_of_lt_of_le F47.lt Q54_5)
    have ne_b1_b2 : b1 ≠ b2 := Nat.ne_of_lt (Nat.lt_of_lt_of_le F48.lt Q54_5)
    have ne_hs_b2 : hs ≠ b2 := Nat.ne_of_lt (Nat.lt_of_lt_of_le F49.lt Q54_5)
    have ne_q0_b2 : q0 ≠ b2 := Nat.ne_of_lt (Nat.lt_of_lt_of_le F50.lt Q54_5)
    have ne_q0b_b2 : q0b ≠ b2 := Nat.ne_of_lt (Nat.lt_of_lt_of_le F51.lt Q54_5)
    have ne_s1_b2 : s1 ≠ b2 := Nat.ne_of_lt (Nat.lt_of_lt_of_le F52.lt Q54_5)
    have ne_s2_b2 : s2 ≠ b2 := Nat.ne_of_lt (Nat.lt_of_lt_of_le A35.lt Q54_5)
    have ne_sv_b2 : sv ≠ b2 := Nat.ne_of_lt (Nat.lt_of_lt_of_le F53.lt Q54_5)
    have Sf57 : Safe Z own_EL T15.vm T54.heap b2 := Safe.keep K54 (sfS (Safe.exa hZ15.alike A35 (by decide) (by decide)) sf0) C42.1 (Safe.new Q54_5)
    have F59 : kq15 ≤ h35.size := Nat.le_trans hk15 E35.1
    have F60 : kq15 ≤ T54.heap.size := Nat.le_trans F59 K54.1
    have F61 : Arv Z T54.heap b1 kb1 .byte (16 : Int32) ([] : List Value) (.int 0) := F48.keep K54 (ninS ne_b1_s2 nin0)
    obtain ⟨q1, T58, h58, kq58, q1b, k58, X58, e58, E58, hS58, hk58, hZ58, hown58, Ea58, Fc58, Fv58, Va58, -, -, CH58, -, sf58, st58⟩ := ldcCH X54 hx hZ15 hown15 (ow hw 115 rfl) hSA rfl hS15 F60 hEL (List.mem_of_getElem? (i := 0) rfl) C55.1 (vs := [(.int 91)]) (z := (1 : Int32)) ⟨by decide, by decide⟩ (by decide) rfl (g := (mkF m 26 #[rv a] [(.ref s2), (.ref s1)])) rfl (hb hby d10_26) (n := 4) (by decide) (by decide) (by decide) (by decide)
    have C62 : CHr Z own_EL s.vm h0 T58.vm h58 := C55.trans CH58
    have Sf63 : Safe Z own_EL T58.vm h58 b1 := CH58.safe F61.lt Sf56
    have Sf64 : Safe Z own_EL T58.vm h58 b2 := CH58.safe Q54_4.lt Sf57
    obtain ⟨ne_b1_q1, ne_b1_q1b⟩ := sf58 _ Sf63
    obtain ⟨ne_b2_q1, ne_b2_q1b⟩ := sf58 _ Sf64
    refine Go.by st58 ?_
    show Go _ _ _ _ T58 (mkF m 28 #[rv a] [(.ref q1), (.ref s2), (.ref s1)])
    have F65 : Old Z n0 T54.heap := F44.keep K54 (allS ge_s2 all0)
    have F66 : Old Z n0 h58 := F65.ext E58
    have F67 : Exa Z h58 s2 "java/lang/StringBuilder" := Q54_0.ext E58
    have F68 : Fld Z h58 s2 "java/lang/AbstractStringBuilder" "coder" "B" (.int 0) := Q54_1.ext E58
    have F69 : Fld Z h58 s2 "java/lang/AbstractStringBuilder" "value" "[B" (.ref b2) := Q54_2.ext E58
    have F70 : Fld Z h58 s2 "java/lang/AbstractStringBuilder" "count" "I" (.int 0) := Q54_3.ext E58
    have F71 : Arv Z h58 b2 kb2 .byte (16 : Int32) ([] : List Value) (.int 0) := Q54_4.ext E58
    have F72 : n0 ≤ T54.heap.size := Nat.le_trans F45 K54.1
    have F73 : n0 ≤ h58.size := Nat.le_trans F72 E58.1
    obtain ⟨cq74, kq74, q74a, q74b, q74c⟩ := isOf hZ58 e58 F67
    obtain ⟨_, _, ⟨T74, L74, k74, n74⟩, -, X74, ⟨Lc74, hQ74, l74, y74, z74⟩, st74⟩ := X58.virtualBack hx (y := (⟨"java/lang/StringBuilder", "append", "(Ljava/lang/String;)Ljava/lang/StringBuilder;"⟩ : MethodName)) (z := (⟨"java/lang/StringBuilder", "append", "(Ljava/lang/String;)Ljava/lang/StringBuilder;"⟩ : MethodName)) hown58 (mvT hZ58 (ow hw 116 rfl)) (mvT hZ58 (ow hw 117 rfl)) (notFace_of_selects (args := #[]) (mvT hZ58 (ow hw 119 rfl))) (mvT hZ58 (ow hw 119 rfl)) (mvT hZ58 (ow hw 118 rfl)) (by decide) (backOf (W := 1) (rmAppS l Z a0 hw [] s2 b2 kb2 q1 q1b k58 ([] : List Value) ([(.int 91)]) ([(.int 91)]) cs h58 n0 F73 F66 F67 F68 F69 F70 F71 ge_s2 ge_b2 ne_s2_b2 Ea58 Fc58 Fv58 Va58 rfl (Nat.le_of_ble_eq_true rfl) S_cs n_cs) hZ58 (ow hw 120 rfl) (ow hw 60 rfl) (by decide) (by decide)) q74a q74c (g := (mkF m 28 #[rv a] [(.ref q1), (.ref s2), (.ref s1)])) rfl (by rw [hml]; rfl) (Steps.refl _) (argsL := [(.ref q1)]) (rest := [(.ref s1)]) (lenOf pd_568 rfl) rfl (by show 2 * 0 + _ ≤ _; exact Nat.le_of_eq rfl) (hb hby d10_28) (fun _ _ => ⟨rfl, e58, (by decide : 8 + 0 ≤ _), (by decide : 56 + 0 ≤ _)⟩)
    dsimp only [Pt.U, Pt.locs, Pt.cells, Pt.slots] at X74 l74 y74 z74 st74 hQ74
    subst l74 y74 z74
    obtain ⟨rfl, N74q, K74, Q74_0, Q74_1, Q74_2, Q74_3, Q74_4⟩ := hQ74
    have N74 := Fr.app N54 N74q
    have C75 : CHr Z own_EL s.vm h0 T58.vm T74.heap := C62.trans (CHr.keep K74 (sfS (Safe.exa hZ58.alike F67 (by decide) (by decide)) (sfS Sf64 sf0)) C62.1)
    have Sf76 : Safe Z own_EL T58.vm T74.heap b1 := Safe.keep K74 (sfS (Safe.exa hZ58.alike F67 (by decide) (by decide)) (sfS Sf64 sf0)) C62.1 Sf63
    have Sf77 : Safe Z own_EL T58.vm T74.heap b2 := Safe.keep K74 (sfS (Safe.exa hZ58.alike F67 (by decide) (by decide)) (sfS Sf64 sf0)) C62.1 Sf64
    refine Go.to st74 ?_
    show Go _ _ _ _ T74 (mkF m 31 #[rv a] [(.ref s2), (.ref s1)])
    refine Go.aload1 32 X74 hx (hb hby d10_31) rfl rfl rfl ?_
    have F78 : Fld Z h15 a "com/example/entries_to_nodes/entriestonodes/component/ServerAddress" "host" "Ljava/lang/String;" (.ref hs) := F13.ext E15
    have F79 : Fld Z h35 a "com/example/entries_to_nodes/entriestonodes/component/ServerAddress" "host" "Ljava/lang/String;" (.ref hs) := F78.ext E35
    have F80 : Fld Z T54.heap a "com/example/entries_to_nodes/entriestonodes/component/ServerAddress" "host" "Ljava/lang/String;" (.ref hs) := F79.keep K54 (ninS ne_a_s2 nin0)
    have F81 : Fld Z h58 a "com/example/entries_to_nodes/entriestonodes/component/ServerAddress" "host" "Ljava/lang/String;" (.ref hs) := F80.ext E58
    have F82 : Fld Z T74.heap a "com/example/entries_to_nodes/entriestonodes/component/ServerAddress" "host" "Ljava/lang/String;" (.ref hs) := F81.keep K74 (ninS ne_a_s2 (ninS ne_a_b2 nin0))
    obtain ⟨T83, X83, e83, st83⟩ := getF X74 hx hZ58 hown58 (host := "") (Or.inl (ow hw 49 rfl)) Via.refl rfl F82 (g := (mkF m 32 #[rv a] [(.ref a), (.ref s2), (.ref s1)])) rfl rfl (hb hby d10_32)
    refine Go.by st83 ?_
    show Go _ _ _ _ T83 (mkF m 35 #[rv a] [(.ref hs), (.ref s2), (.ref s1)])
    have F84 : Old Z n0 T74.heap := F66.keep K74 (allS ge_s2 (allS ge_b2 all0))
    have F85 : Exa Z T54.heap hs "java/lang/String" := F49.keep K54
    have F86 : Exa Z h58 hs "java/lang/String" := F85.ext E58
    have F87 : Exa Z T74.heap hs "java/lang/String" := F86.keep K74
    have F88 : Fld Z h35 hs "java/lang/String" "coder" "B" (.int 0) := F26.ext E35
    have F89 : Fld Z T54.heap hs "java/lang/String" "coder" "B" (.int 0) := F88.keep K54 (ninS ne_hs_s2 nin0)
    have F90 : Fld Z h58 hs "java/lang/String" "coder" "B" (.int 0) := F89.ext E58
    have F91 : Fld Z T74.heap hs "java/lang/String" "coder" "B" (.int 0) := F90.keep K74 (ninS ne_hs_s2 (ninS ne_hs_b2 nin0))
    have F92 : Fld Z h35 hs "java/lang/String" "value" "[B" (.ref sv) := F29.ext E35
    have F93 : Fld Z T54.heap hs "java/lang/String" "value" "[B" (.ref sv) := F92.keep K54 (ninS ne_hs_s2 nin0)
    have F94 : Fld Z h58 hs "java/lang/String" "value" "[B" (.ref sv) := F93.ext E58
    have F95 : Fld Z T74.heap hs "java/lang/String" "value" "[B" (.ref sv) := F94.keep K74 (ninS ne_hs_s2 (ninS ne_hs_b2 nin0))
    have F96 : Arv Z T54.heap sv ks .byte (Int32.ofNat hl.length) hl (.int 0) := F53.keep K54 (ninS ne_sv_s2 nin0)
    have F97 : Arv Z h58 sv ks .byte (Int32.ofNat hl.length) hl (.int 0) := F96.ext E58
    have F98 : Arv Z T74.heap sv ks .byte (Int32.ofNat hl.length) hl (.int 0) := F97.keep K74 (ninS ne_sv_s2 (ninS ne_sv_b2 nin0))
    have F99 : n0 ≤ T74.heap.size := Nat.le_trans F73 K74.1
    obtain ⟨cq100, kq100, q100a, q100b, q100c⟩ := isOf hZ58 e83 Q74_0
    obtain ⟨_, _, ⟨T100, L100, k100, n100⟩, -, X100, ⟨Lc100, hQ100, l100, y100, z100⟩, st100⟩ := X83.virtualBack hx (y := (⟨"java/lang/StringBuilder", "append", "(Ljava/lang/String;)Ljava/lang/StringBuilder;"⟩ : MethodName)) (z := (⟨"java/lang/StringBuilder", "append", "(Ljava/lang/String;)Ljava/lang/StringBuilder;"⟩ : MethodName)) hown58 (mvT hZ58 (ow hw 116 rfl)) (mvT hZ58 (ow hw 117 rfl)) (notFace_of_selects (args := #[]) (mvT hZ58 (ow hw 119 rfl))) (mvT hZ58 (ow hw 119 rfl)) (mvT hZ58 (ow hw 118 rfl)) (by decide) (backOf (W := 1) (rmAppS l Z a0 hw [] s2 b2 kb2 hs sv ks ([(.int 91)]) hl (([(.int 91)] : List Value) ++ hl) cs T74.heap n0 F99 F84 Q74_0 Q74_1 Q74_2 Q74_3 Q74_4 ge_s2 ge_b2 ne_s2_b2 F87 F91 F95 F98 rfl (Nat.le_trans (own_le_app (xs := [(.int 91)]) (Nat.le_refl 1) hlen3) (by decide : _ ≤ 16)) S_cs n_cs) hZ58 (ow hw 120 rfl) (ow hw 60 rfl) (by decide) (by decide)) q100a q100c (g := (mkF m 35 #[rv a] [(.ref hs), (.ref s2), (.ref s1)])) rfl (by rw [hml]; rfl) (Steps.refl _) (argsL := [(.ref hs)]) (rest := [(.ref s1)]) (lenOf pd_568 rfl) rfl (by show 2 * 0 + _ ≤ _; exact Nat.le_of_eq rfl) (hb hby d10_35) (fun _ _ => ⟨rfl, e83, (by decide : 8 + 0 ≤ _), (by decide : 56 + 0 ≤ _)⟩)
    dsimp only [Pt.U, Pt.locs, Pt.cells, Pt.slots] at X100 l100 y100 z100 st100 hQ100
    subst l100 y100 z100
    obtain ⟨rfl, N100q, K100, Q100_0, Q100_1, Q100_2, Q100_3, Q100_4⟩ := hQ100
    have N100 := Fr.app N74 N100q
    have C101 : CHr Z own_EL s.vm h0 T58.vm T100.heap := C75.trans (CHr.keep K100 (sfS (Safe.exa hZ58.alike Q74_0 (by decide) (by decide)) (sfS Sf77 sf0)) C75.1)
    have Sf102 : Safe Z own_EL T58.vm T100.heap b1 := Safe.keep K100 (sfS (Safe.exa hZ58.alike Q74_0 (by decide) (by decide)) (sfS Sf77 sf0)) C75.1 Sf76
    have Sf103 : Safe Z own_EL T58.vm T100.heap b2 := Safe.keep K100 (sfS (Safe.exa hZ58.alike Q74_0 (by decide) (by decide)) (sfS Sf77 sf0)) C75.1 Sf77
    refine Go.to st100 ?_
    show Go _ _ _ _ T100 (mkF m 38 #[rv a] [(.ref s2), (.ref s1)])
    have F105 : kq58 ≤ T74.heap.size := Nat.le_trans hk58 K74.1
    have F106 : kq58 ≤ T100.heap.size := Nat.le_trans F105 K100.1
    have F107 : Arv Z h58 b1 kb1 .byte (16 : Int32) ([] : List Value) (.int 0) := F61.ext E58
    have F108 : Arv Z T74.heap b1 kb1 .byte (16 : Int32) ([] : List Value) (.int 0) := F107.keep K74 (ninS ne_b1_s2 (ninS ne_b1_b2 nin0))
    have F109 : Arv Z T100.heap b1 kb1 .byte (16 : Int32) ([] : List Value) (.int 0) := F108.keep K100 (ninS ne_b1_s2 (ninS ne_b1_b2 nin0))
    obtain ⟨q2, T104, h104, kq104, q2b, k104, X104, e104, E104, hS104, hk104, hZ104, hown104, Ea104, Fc104, Fv104, Va104, -, -, CH104, -, sf104, st104⟩ := ldcCH X100 hx hZ58 hown58 (ow hw 158 rfl) hSA rfl hS58 F106 hEL (List.mem_of_getElem? (i := 1) rfl) C101.1 (vs := [(.int 93)]) (z := (1 : Int32)) ⟨by decide, by decide⟩ (by decide) rfl (g := (mkF m 38 #[rv a] [(.ref s2), (.ref s1)])) rfl (hb hby d10_38) (n := 4) (by decide) (by decide) (by decide) (by decide)
    have C110 : CHr Z own_EL s.vm h0 T104.vm h104 := C101.trans CH104
    have Sf111 : Safe Z own_EL T104.vm h104 b1 := CH104.safe F109.lt Sf102
    have Sf112 : Safe Z own_EL T104.vm h104 b2 := CH104.safe Q100_4.lt Sf103
    obtain ⟨ne_b1_q2, ne_b1_q2b⟩ := sf104 _ Sf111
    obtain ⟨ne_b2_q2, ne_b2_q2b⟩ := sf104 _ Sf112
    refine Go.by st104 ?_
    show Go _ _ _ _ T104 (mkF m 40 #[rv a] [(.ref q2), (.ref s2), (.ref s1)])
    have F113 : Old Z n0 T100.heap := F84.keep K100 (allS ge_s2 (allS ge_b2 all0))
    have F114 : Old Z n0 h104 := F113.ext E104
    have F115 : Exa Z h104 s2 "java/lang/StringBuilder" := Q100_0.ext E104
    have F116 : Fld Z h104 s2 "java/lang/AbstractStringBuilder" "coder" "B" (.int 0) := Q100_1.ext E104
    have F117 : Fld Z h104 s2 "java/lang/AbstractStringBuilder" "value" "[B" (.ref b2) := Q100_2.ext E104
    have F118 : Fld Z h104 s2 "java/lang/AbstractStringBuilder" "count" "I" (.int (Int32.ofNat (([(.int 91)] : List Value) ++ hl).length)) := Q100_3.ext E104
    have F119 : Arv Z h104 b2 kb2 .byte (16 : Int32) (([(.int 91)] : List Value) ++ hl) (.int 0) := Q100_4.ext E104
    have F120 : n0 ≤ T100.heap.size := Nat.le_trans F99 K100.1
    have F121 : n0 ≤ h104.size := Nat.le_trans F120 E104.1
    obtain ⟨cq122, kq122, q122a, q122b, q122c⟩ := isOf hZ104 e104 F115
    obtain ⟨_, _, ⟨T122, L122, k122, n122⟩, -, X122, ⟨Lc122, hQ122, l122, y122, z122⟩, st122⟩ := X104.virtualBack hx (y := (⟨"java/lang/StringBuilder", "append", "(Ljava/lang/String;)Ljava/lang/StringBuilder;"⟩ : MethodName)) (z := (⟨"java/lang/StringBuilder", "append", "(Ljava/lang/String;)Ljava/lang/StringBuilder;"⟩ : MethodName)) hown104 (mvT hZ104 (ow hw 116 rfl)) (mvT hZ104 (ow hw 117 rfl)) (notFace_of_selects (args := #[]) (mvT hZ104 (ow hw 119 rfl))) (mvT hZ104 (ow hw 119 rfl)) (mvT hZ104 (ow hw 118 rfl)) (by decide) (backOf (W := 1) (rmAppS l Z a0 hw [] s2 b2 kb2 q2 q2b k104 (([(.int 91)] : List Value) ++ hl) ([(.int 93)]) ((([(.int 91)] : List Value) ++ hl) ++ ([(.int 93)] : List Value)) cs h104 n0 F121 F114 F115 F116 F117 F118 F119 ge_s2 ge_b2 ne_s2_b2 Ea104 Fc104 Fv104 Va104 rfl (Nat.le_trans (own_le_app (ys := [(.int 93)]) (own_le_app (xs := [(.int 91)]) (Nat.le_refl 1) hlen3) (Nat.le_refl 1)) (by decide : _ ≤ 16)) S_cs n_cs) hZ104 (ow hw 120 rfl) (ow hw 60 rfl) (by decide) (by decide)) q122a q122c (g := (mkF m 40 #[rv a] [(.ref q2), (.ref s2), (.ref s1)])) rfl (by rw [hml]; rfl) (Steps.refl _) (argsL := [(.ref q2)]) (rest := [(.ref s1)]) (lenOf pd_568 rfl) rfl (by show 2 * 0 + _ ≤ _; exact Nat.le_of_eq rfl) (hb hby d10_40) (fun _ _ => ⟨rfl, e104, (by decide : 10 + 0 ≤ _), (by decide : 64 + 0 ≤ _)⟩)
    dsimp only [Pt.U, Pt.locs, Pt.cells, Pt.slots] at X122 l122 y122 z122 st122 hQ122
    subst l122 y122 z122
    obtain ⟨rfl, N122q, K122, Q122_0, Q122_1, Q122_2, Q122_3, Q122_4⟩ := hQ122
    have N122 := Fr.app N100 N122q
    have C123 : CHr Z own_EL s.vm h0 T104.vm T122.heap := C110.trans (CHr.keep K122 (sfS (Safe.exa hZ104.alike F115 (by decide) (by decide)) (sfS Sf112 sf0)) C110.1)
    have Sf124 : Safe Z own_EL T104.vm T122.heap b1 := Safe.keep K122 (sfS (Safe.exa hZ104.alike F115 (by decide) (by decide)) (sfS Sf112 sf0)) C110.1 Sf111
    have Sf125 : Safe Z own_EL T104.vm T122.heap b2 := Safe.keep K122 (sfS (Safe.exa hZ104.alike F115 (by decide) (by decide)) (sfS Sf112 sf0)) C110.1 Sf112
    refine Go.to st122 ?_
    show Go _ _ _ _ T122 (mkF m 43 #[rv a] [(.ref s2), (.ref s1)])
    have F126 : Old Z n0 T122.heap := F114.keep K122 (allS ge_s2 (allS ge_b2 all0))
    have F127 : n0 ≤ T122.heap.size := Nat.le_trans F121 K122.1
    have F128 : Keep h0 T54.heap [] := F46.trans K54 (allS (Or.inr sz_s2) all0)
    have F129 : Keep h0 h58 [] := F128.ext E58
    have F130 : Keep h0 T74.heap [] := F129.trans K74 (allS (Or.inr sz_s2) (allS (Or.inr sz_b2) all0))
    have F131 : Keep h0 T100.heap [] := F130.trans K100 (allS (Or.inr sz_s2) (allS (Or.inr sz_b2) all0))
    have F132 : Keep h0 h104 [] := F131.ext E104
    have F133 : Keep h0 T122.heap [] := F132.trans K122 (allS (Or.inr sz_s2) (allS (Or.inr sz_b2) all0))
    have F134 : Exa Z T54.heap a "com/example/entries_to_nodes/entriestonodes/component/ServerAddress" := F47.keep K54
    have F135 : Exa Z h58 a "com/example/entries_to_nodes/entriestonodes/component/ServerAddress" := F134.ext E58
    have F136 : Exa Z T74.heap a "com/example/entries_to_nodes/entriestonodes/component/ServerAddress" := F135.keep K74
    have F137 : Exa Z T100.heap a "com/example/entries_to_nodes/entriestonodes/component/ServerAddress" := F136.keep K100
    have F138 : Exa Z h104 a "com/example/entries_to_nodes/entriestonodes/component/ServerAddress" := F137.ext E104
    have F139 : Exa Z T122.heap a "com/example/entries_to_nodes/entriestonodes/component/ServerAddress" := F138.keep K122
    have F140 : Arv Z h104 b1 kb1 .byte (16 : Int32) ([] : List Value) (.int 0) := F109.ext E104
    have F141 : Arv Z T122.heap b1 kb1 .byte (16 : Int32) ([] : List Value) (.int 0) := F140.keep K122 (ninS ne_b1_s2 (ninS ne_b1_b2 nin0))
    have F142 : Exa Z T100.heap hs "java/lang/String" := F87.keep K100
    have F143 : Exa Z h104 hs "java/lang/String" := F142.ext E104
    have F144 : Exa Z T122.heap hs "java/lang/String" := F143.keep K122
    have F145 : Exa Z T54.heap q0 "java/lang/String" := F50.keep K54
    have F146 : Exa Z h58 q0 "java/lang/String" := F145.ext E58
    have F147 : Exa Z T74.heap q0 "java/lang/String" := F146.keep K74
    have F148 : Exa Z T100.heap q0 "java/lang/String" := F147.keep K100
    have F149 : Exa Z h104 q0 "java/lang/String" := F148.ext E104
    have F150 : Exa Z T122.heap q0 "java/lang/String" := F149.keep K122
    have F151 : Arv Z T54.heap q0b k15 .byte (1 : Int32) [(.int 58)] (.int 0) := F51.keep K54 (ninS ne_q0b_s2 nin0)
    have F152 : Arv Z h58 q0b k15 .byte (1 : Int32) [(.int 58)] (.int 0) := F151.ext E58
    have F153 : Arv Z T74.heap q0b k15 .byte (1 : Int32) [(.int 58)] (.int 0) := F152.keep K74 (ninS ne_q0b_s2 (ninS ne_q0b_b2 nin0))
    have F154 : Arv Z T100.heap q0b k15 .byte (1 : Int32) [(.int 58)] (.int 0) := F153.keep K100 (ninS ne_q0b_s2 (ninS ne_q0b_b2 nin0))
    have F155 : Arv Z h104 q0b k15 .byte (1 : Int32) [(.int 58)] (.int 0) := F154.ext E104
    have F156 : Arv Z T122.heap q0b k15 .byte (1 : Int32) [(.int 58)] (.int 0) := F155.keep K122 (ninS ne_q0b_s2 (ninS ne_q0b_b2 nin0))
    have F157 : Exa Z T74.heap q1 "java/lang/String" := Ea58.keep K74
    have F158 : Exa Z T100.heap q1 "java/lang/String" := F157.keep K100
    have F159 : Exa Z h104 q1 "java/lang/String" := F158.ext E104
    have F160 : Exa Z T122.heap q1 "java/lang/String" := F159.keep K122
    have F161 : Arv Z T74.heap q1b k58 .byte (1 : Int32) [(.int 91)] (.int 0) := Va58.keep K74 (ninS (Ne.symm (Exa.neArv F67 Va58 (ow hw 59 rfl))) (ninS (Ne.symm ne_b2_q1b) nin0))
    have F162 : Arv Z T100.heap q1b k58 .byte (1 : Int32) [(.int 91)] (.int 0) := F161.keep K100 (ninS (Ne.symm (Exa.neArv Q74_0 F161 (ow hw 59 rfl))) (ninS (Ne.symm ne_b2_q1b) nin0))
    have F163 : Arv Z h104 q1b k58 .byte (1 : Int32) [(.int 91)] (.int 0) := F162.ext E104
    have F164 : Arv Z T122.heap q1b k58 .byte (1 : Int32) [(.int 91)] (.int 0) := F163.keep K122 (ninS (Ne.symm (Exa.neArv F115 F163 (ow hw 59 rfl))) (ninS (Ne.symm ne_b2_q1b) nin0))
    have F165 : Exa Z T122.heap q2 "java/lang/String" := Ea104.keep K122
    have F166 : Arv Z T122.heap q2b k104 .byte (1 : Int32) [(.int 93)] (.int 0) := Va104.keep K122 (ninS (Ne.symm (Exa.neArv F115 Va104 (ow hw 59 rfl))) (ninS (Ne.symm ne_b2_q2b) nin0))
    have F167 : Exa Z T54.heap s1 "java/lang/StringBuilder" := F52.keep K54
    have F168 : Exa Z h58 s1 "java/lang/StringBuilder" := F167.ext E58
    have F169 : Exa Z T74.heap s1 "java/lang/StringBuilder" := F168.keep K74
    have F170 : Exa Z T100.heap s1 "java/lang/StringBuilder" := F169.keep K100
    have F171 : Exa Z h104 s1 "java/lang/StringBuilder" := F170.ext E104
    have F172 : Exa Z T122.heap s1 "java/lang/StringBuilder" := F171.keep K122
    have F173 : Arv Z T100.heap sv ks .byte (Int32.ofNat hl.length) hl (.int 0) := F98.keep K100 (ninS ne_sv_s2 (ninS ne_sv_b2 nin0))
    have F174 : Arv Z h104 sv ks .byte (Int32.ofNat hl.length) hl (.int 0) := F173.ext E104
    have F175 : Arv Z T122.heap sv ks .byte (Int32.ofNat hl.length) hl (.int 0) := F174.keep K122 (ninS ne_sv_s2 (ninS ne_sv_b2 nin0))
    obtain ⟨cq176, kq176, q176a, q176b, q176c⟩ := isOf hZ104 rfl Q122_0
    obtain ⟨_, _, ⟨T176, L176, k176, n176⟩, -, X176, ⟨Lc176, hQ176, l176, y176, z176⟩, st176⟩ := X122.virtualBack hx (y := (⟨"java/lang/StringBuilder", "toString", "()Ljava/lang/String;"⟩ : MethodName)) (z := (⟨"java/lang/StringBuilder", "toString", "()Ljava/lang/String;"⟩ : MethodName)) hown104 (mvT hZ104 (ow hw 159 rfl)) (mvT hZ104 (ow hw 160 rfl)) (notFace_of_selects (args := #[]) (mvT hZ104 (ow hw 162 rfl))) (mvT hZ104 (ow hw 162 rfl)) (mvT hZ104 (ow hw 161 rfl)) (by decide) (backOf (W := 1) (rmSbTs l Z a0 hw [] s2 b2 kb2 ((([(.int 91)] : List Value) ++ hl) ++ ([(.int 93)] : List Value)) cs T122.heap n0 F127 F126 Q122_0 Q122_1 Q122_2 Q122_3 Q122_4 (Nat.lt_of_le_of_lt (own_le_app (ys := [(.int 93)]) (own_le_app (xs := [(.int 91)]) (Nat.le_refl 1) hlen3) (Nat.le_refl 1)) (by decide : 1 + 3 + 1 < 16)) S_cs n_cs) hZ104 (ow hw 163 rfl) (ow hw 60 rfl) (by decide) (by decide)) q176a q176c (g := (mkF m 43 #[rv a] [(.ref s2), (.ref s1)])) rfl (by rw [hml]; rfl) (Steps.refl _) (argsL := []) (rest := [(.ref s1)]) (lenOf pd_525 rfl) rfl (by show 2 * 0 + _ ≤ _; exact Nat.le_of_eq rfl) (hb hby d10_43) (fun _ _ => ⟨rfl, rfl, (by decide : 10 + 2 ≤ _), (by decide : 64 + 20 ≤ _)⟩)
    dsimp only [Pt.U, Pt.locs, Pt.cells, Pt.slots] at X176 l176 y176 z176 st176 hQ176
    subst l176 y176 z176
    obtain ⟨s3, s3v, ks3, rfl, N176q, K176, Q176_0, Q176_1, Q176_2, Q176_3, Q176_4, Q176_5⟩ := hQ176
    have N176 := Fr.app N122 N176q
    have C177 : CHr Z own_EL s.vm h0 T104.vm T176.heap := C123.trans (CHr.keep K176 sf0 C123.1)
    have Sf178 : Safe Z own_EL T104.vm T176.heap b1 := Safe.keep K176 sf0 C123.1 Sf124
    have Sf179 : Safe Z own_EL T104.vm T176.heap b2 := Safe.keep K176 sf0 C123.1 Sf125
    refine Go.to st176 ?_
    show Go _ _ _ _ T176 (mkF m 46 #[rv a] [(.ref s3), (.ref s1)])
    have ge_s3 : n0 ≤ s3 := Nat.le_trans F127 Q176_4
    have sz_s3 : h0.size ≤ s3 := Nat.le_trans F133.1 Q176_4
    have ne_a_s3 : a ≠ s3 := Nat.ne_of_lt (Nat.lt_of_lt_of_le F139.lt Q176_4)
    have ne_b1_s3 : b1 ≠ s3 := Nat.ne_of_lt (Nat.lt_of_lt_of_le F141.lt Q176_4)
    have ne_b2_s3 : b2 ≠ s3 := Nat.ne_of_lt (Nat.lt_of_lt_of_le Q122_4.lt Q176_4)
    have ne_hs_s3 : hs ≠ s3 := Nat.ne_of_lt (Nat.lt_of_lt_of_le F144.lt Q176_4)
    have ne_q0_s3 : q0 ≠ s3 := Nat.ne_of_lt (Nat.lt_of_lt_of_le F150.lt Q176_4)
    have ne_q0b_s3 : q0b ≠ s3 := Nat.ne_of_lt (Nat.lt_of_lt_of_le F156.lt Q176_4)
    have ne_q1_s3 : q1 ≠ s3 := Nat.ne_of_lt (Nat.lt_of_lt_of_le F160.lt Q176_4)
    have ne_q1b_s3 : q1b ≠ s3 := Nat.ne_of_lt (Nat.lt_of_lt_of_le F164.lt Q176_4)
    have ne_q2_s3 : q2 ≠ s3 := Nat.ne_of_lt (Nat.lt_of_lt_of_le F165.lt Q176_4)
    have ne_q2b_s3 : q2b ≠ s3 := Nat.ne_of_lt (Nat.lt_of_lt_of_le F166.lt Q176_4)
    have ne_s1_s3 : s1 ≠ s3 := Nat.ne_of_lt (Nat.lt_of_lt_of_le F172.lt Q176_4)
    have ne_s2_s3 : s2 ≠ s3 := Nat.ne_of_lt (Nat.lt_of_lt_of_le Q122_0.lt Q176_4)
    have ne_sv_s3 : sv ≠ s3 := Nat.ne_of_lt (Nat.lt_of_lt_of_le F175.lt Q176_4)
    have ge_s3v : n0 ≤ s3v := Nat.le_trans F127 Q176_5
    have sz_s3v : h0.size ≤ s3v := Nat.le_trans F133.1 Q176_5
    have ne_a_s3v : a ≠ s3v := Nat.ne_of_lt (Nat.lt_of_lt_of_le F139.lt Q176_5)
    have ne_b1_s3v : b1 ≠ s3v := Nat.ne_of_lt (Nat.lt_of_lt_of_le F141.lt Q176_5)
    have ne_b2_s3v : b2 ≠ s3v := Nat.ne_of_lt (Nat.lt_of_lt_of_le Q122_4.lt Q176_5)
    have ne_hs_s3v : hs ≠ s3v := Nat.ne_of_lt (Nat.lt_of_lt_of_le F144.lt Q176_5)
    have ne_q0_s3v : q0 ≠ s3v := Nat.ne_of_lt (Nat.lt_of_lt_of_le F150.lt Q176_5)
    have ne_q0b_s3v : q0b ≠ s3v := Nat.ne_of_lt (Nat.lt_of_lt_of_le F156.lt Q176_5)
    have ne_q1_s3v : q1 ≠ s3v := Nat.ne_of_lt (Nat.lt_of_lt_of_le F160.lt Q176_5)
    have ne_q1b_s3v : q1b ≠ s3v := Nat.ne_of_lt (Nat.lt_of_lt_of_le F164.lt Q176_5)
    have ne_q2_s3v : q2 ≠ s3v := Nat.ne_of_lt (Nat.lt_of_lt_of_le F165.lt Q176_5)
    have ne_q2b_s3v : q2b ≠ s3v := Nat.ne_of_lt (Nat.lt_of_lt_of_le F166.lt Q176_5)
    have ne_s1_s3v : s1 ≠ s3v := Nat.ne_of_lt (Nat.lt_of_lt_of_le F172.lt Q176_5)
    have ne_s2_s3v : s2 ≠ s3v := Nat.ne_of_lt (Nat.lt_of_lt_of_le Q122_0.lt Q176_5)
    have ne_sv_s3v : sv ≠ s3v := Nat.ne_of_lt (Nat.lt_of_lt_of_le F175.lt Q176_5)
    refine Go.goto 53 X176 hx (hb hby d10_46) (by decide) (by decide) ?_
    have F180 : Old Z n0 T176.heap := F126.keep K176 all0
    have F181 : Exa Z T176.heap s1 "java/lang/StringBuilder" := F172.keep K176
    have F182 : Fld Z h15 s1 "java/lang/AbstractStringBuilder" "coder" "B" (.int 0) := Q9_1.ext E15
    have F183 : Fld Z h35 s1 "java/lang/AbstractStringBuilder" "coder" "B" (.int 0) := F182.ext E35
    have F184 : Fld Z T54.heap s1 "java/lang/AbstractStringBuilder" "coder" "B" (.int 0) := F183.keep K54 (ninS ne_s1_s2 nin0)
    have F185 : Fld Z h58 s1 "java/lang/AbstractStringBuilder" "coder" "B" (.int 0) := F184.ext E58
    have F186 : Fld Z T74.heap s1 "java/lang/AbstractStringBuilder" "coder" "B" (.int 0) := F185.keep K74 (ninS ne_s1_s2 (ninS ne_s1_b2 nin0))
    have F187 : Fld Z T100.heap s1 "java/lang/AbstractStringBuilder" "coder" "B" (.int 0) := F186.keep K100 (ninS ne_s1_s2 (ninS ne_s1_b2 nin0))
    have F188 : Fld Z h104 s1 "java/lang/AbstractStringBuilder" "coder" "B" (.int 0) := F187.ext E104
    have F189 : Fld Z T122.heap s1 "java/lang/AbstractStringBuilder" "coder" "B" (.int 0) := F188.keep K122 (ninS ne_s1_s2 (ninS ne_s1_b2 nin0))
    have F190 : Fld Z T176.heap s1 "java/lang/AbstractStringBuilder" "coder" "B" (.int 0) := F189.keep K176 nin0
    have F191 : Fld Z h15 s1 "java/lang/AbstractStringBuilder" "value" "[B" (.ref b1) := Q9_2.ext E15
    have F192 : Fld Z h35 s1 "java/lang/AbstractStringBuilder" "value" "[B" (.ref b1) := F191.ext E35
    have F193 : Fld Z T54.heap s1 "java/lang/AbstractStringBuilder" "value" "[B" (.ref b1) := F192.keep K54 (ninS ne_s1_s2 nin0)
    have F194 : Fld Z h58 s1 "java/lang/AbstractStringBuilder" "value" "[B" (.ref b1) := F193.ext E58
    have F195 : Fld Z T74.heap s1 "java/lang/AbstractStringBuilder" "value" "[B" (.ref b1) := F194.keep K74 (ninS ne_s1_s2 (ninS ne_s1_b2 nin0))
    have F196 : Fld Z T100.heap s1 "java/lang/AbstractStringBuilder" "value" "[B" (.ref b1) := F195.keep K100 (ninS ne_s1_s2 (ninS ne_s1_b2 nin0))
    have F197 : Fld Z h104 s1 "java/lang/AbstractStringBuilder" "value" "[B" (.ref b1) := F196.ext E104
    have F198 : Fld Z T122.heap s1 "java/lang/AbstractStringBuilder" "value" "[B" (.ref b1) := F197.keep K122 (ninS ne_s1_s2 (ninS ne_s1_b2 nin0))
    have F199 : Fld Z T176.heap s1 "java/lang/AbstractStringBuilder" "value" "[B" (.ref b1) := F198.keep K176 nin0
    have F200 : Fld Z h15 s1 "java/lang/AbstractStringBuilder" "count" "I" (.int 0) := Q9_3.ext E15
    have F201 : Fld Z h35 s1 "java/lang/AbstractStringBuilder" "count" "I" (.int 0) := F200.ext E35
    have F202 : Fld Z T54.heap s1 "java/lang/AbstractStringBuilder" "count" "I" (.int 0) := F201.keep K54 (ninS ne_s1_s2 nin0)
    have F203 : Fld Z h58 s1 "java/lang/AbstractStringBuilder" "count" "I" (.int 0) := F202.ext E58
    have F204 : Fld Z T74.heap s1 "java/lang/AbstractStringBuilder" "count" "I" (.int 0) := F203.keep K74 (ninS ne_s1_s2 (ninS ne_s1_b2 nin0))
    have F205 : Fld Z T100.heap s1 "java/lang/AbstractStringBuilder" "count" "I" (.int 0) := F204.keep K100 (ninS ne_s1_s2 (ninS ne_s1_b2 nin0))
    have F206 : Fld Z h104 s1 "java/lang/AbstractStringBuilder" "count" "I" (.int 0) := F205.ext E104
    have F207 : Fld Z T122.heap s1 "java/lang/AbstractStringBuilder" "count" "I" (.int 0) := F206.keep K122 (ninS ne_s1_s2 (ninS ne_s1_b2 nin0))
    have F208 : Fld Z T176.heap s1 "java/lang/AbstractStringBuilder" "count" "I" (.int 0) := F207.keep K176 nin0
    have F209 : Arv Z T176.heap b1 kb1 .byte (16 : Int32) ([] : List Value) (.int 0) := F141.keep K176 nin0
    have F210 : n0 ≤ T176.heap.size := Nat.le_trans F127 K176.1
    obtain ⟨cq211, kq211, q211a, q211b, q211c⟩ := isOf hZ104 rfl F181
    obtain ⟨_, _, ⟨T211, L211, k211, n211⟩, -, X211, ⟨Lc211, hQ211, l211, y211, z211⟩, st211⟩ := X176.virtualBack hx (y := (⟨"java/lang/StringBuilder", "append", "(Ljava/lang/String;)Ljava/lang/StringBuilder;"⟩ : MethodName)) (z := (⟨"java/lang/StringBuilder", "append", "(Ljava/lang/String;)Ljava/lang/StringBuilder;"⟩ : MethodName)) hown104 (mvT hZ104 (ow hw 116 rfl)) (mvT hZ104 (ow hw 117 rfl)) (notFace_of_selects (args := #[]) (mvT hZ104 (ow hw 119 rfl))) (mvT hZ104 (ow hw 119 rfl)) (mvT hZ104 (ow hw 118 rfl)) (by decide) (backOf (W := 0) (rmAppS l Z a0 hw [] s1 b1 kb1 s3 s3v ks3 ([] : List Value) ((([(.int 91)] : List Value) ++ hl) ++ ([(.int 93)] : List Value)) ((([(.int 91)] : List Value) ++ hl) ++ ([(.int 93)] : List Value)) cs T176.heap n0 F210 F180 F181 F190 F199 F208 F209 ge_s1 ge_b1 ne_s1_b1 Q176_0 Q176_1 Q176_2 Q176_3 rfl (Nat.le_trans (own_le_app (ys := [(.int 93)]) (own_le_app (xs := [(.int 91)]) (Nat.le_refl 1) hlen3) (Nat.le_refl 1)) (by decide : _ ≤ 16)) S_cs n_cs) hZ104 (ow hw 120 rfl) (ow hw 60 rfl) (by decide) (by decide)) q211a q211c (g := (mkF m 53 #[rv a] [(.ref s3), (.ref s1)])) rfl (by rw [hml]; rfl) (Steps.refl _) (argsL := [(.ref s3)]) (rest := []) (lenOf pd_568 rfl) rfl (by show 2 * 0 + _ ≤ _; exact Nat.le_of_eq rfl) (hb hby d10_53) (fun _ _ => ⟨rfl, rfl, (by decide : 12 + 0 ≤ _), (by decide : 84 + 0 ≤ _)⟩)
    dsimp only [Pt.U, Pt.locs, Pt.cells, Pt.slots] at X211 l211 y211 z211 st211 hQ211
    subst l211 y211 z211
    obtain ⟨rfl, N211q, K211, Q211_0, Q211_1, Q211_2, Q211_3, Q211_4⟩ := hQ211
    have N211 := Fr.app N176 N211q
    have C212 : CHr Z own_EL s.vm h0 T104.vm T211.heap := C177.trans (CHr.keep K211 (sfS (Safe.exa hZ104.alike F181 (by decide) (by decide)) (sfS Sf178 sf0)) C177.1)
    have Sf213 : Safe Z own_EL T104.vm T211.heap b1 := Safe.keep K211 (sfS (Safe.exa hZ104.alike F181 (by decide) (by decide)) (sfS Sf178 sf0)) C177.1 Sf178
    refine Go.to st211 ?_
    show Go _ _ _ _ T211 (mkF m 56 #[rv a] [(.ref s1)])
    have F215 : kq104 ≤ T122.heap.size := Nat.le_trans hk104 K122.1
    have F216 : kq104 ≤ T176.heap.size := Nat.le_trans F215 K176.1
    have F217 : kq104 ≤ T211.heap.size := Nat.le_trans F216 K211.1
    obtain ⟨q3, T214, h214, kq214, q3b, k214, X214, e214, E214, hS214, hk214, hZ214, hown214, Ea214, Fc214, Fv214, Va214, -, -, CH214, -, sf214, st214⟩ := ldcCH X211 hx hZ104 hown104 (ow hw 76 rfl) hSA rfl hS104 F217 hEL (List.mem_of_getElem? (i := 2) rfl) C212.1 (vs := [(.int 58)]) (z := (1 : Int32)) ⟨by decide, by decide⟩ (by decide) rfl (g := (mkF m 56 #[rv a] [(.ref s1)])) rfl (hb hby d10_56) (n := 4) (by decide) (by decide) (by decide) (by decide)
    have C218 : CHr Z own_EL s.vm h0 T214.vm h214 := C212.trans CH214
    have Sf219 : Safe Z own_EL T214.vm h214 b1 := CH214.safe Q211_4.lt Sf213
    obtain ⟨ne_b1_q3, ne_b1_q3b⟩ := sf214 _ Sf219
    refine Go.by st214 ?_
    show Go _ _ _ _ T214 (mkF m 58 #[rv a] [(.ref q3), (.ref s1)])
    have F220 : Old Z n0 T211.heap := F180.keep K211 (allS ge_s1 (allS ge_b1 all0))
    have F221 : Old Z n0 h214 := F220.ext E214
    have F222 : Exa Z h214 s1 "java/lang/StringBuilder" := Q211_0.ext E214
    have F223 : Fld Z h214 s1 "java/lang/AbstractStringBuilder" "coder" "B" (.int 0) := Q211_1.ext E214
    have F224 : Fld Z h214 s1 "java/lang/AbstractStringBuilder" "value" "[B" (.ref b1) := Q211_2.ext E214
    have F225 : Fld Z h214 s1 "java/lang/AbstractStringBuilder" "count" "I" (.int (Int32.ofNat ((([(.int 91)] : List Value) ++ hl) ++ ([(.int 93)] : List Value)).length)) := Q211_3.ext E214
    have F226 : Arv Z h214 b1 kb1 .byte (16 : Int32) ((([(.int 91)] : List Value) ++ hl) ++ ([(.int 93)] : List Value)) (.int 0) := Q211_4.ext E214
    have F227 : n0 ≤ T211.heap.size := Nat.le_trans F210 K211.1
    have F228 : n0 ≤ h214.size := Nat.le_trans F227 E214.1
    obtain ⟨cq229, kq229, q229a, q229b, q229c⟩ := isOf hZ214 e214 F222
    obtain ⟨_, _, ⟨T229, L229, k229, n229⟩, -, X229, ⟨Lc229, hQ229, l229, y229, z229⟩, st229⟩ := X214.virtualBack hx (y := (⟨"java/lang/StringBuilder", "append", "(Ljava/lang/String;)Ljava/lang/StringBuilder;"⟩ : MethodName)) (z := (⟨"java/lang/StringBuilder", "append", "(Ljava/lang/String;)Ljava/lang/StringBuilder;"⟩ : MethodName)) hown214 (mvT hZ214 (ow hw 116 rfl)) (mvT hZ214 (ow hw 117 rfl)) (notFace_of_selects (args := #[]) (mvT hZ214 (ow hw 119 rfl))) (mvT hZ214 (ow hw 119 rfl)) (mvT hZ214 (ow hw 118 rfl)) (by decide) (backOf (W := 0) (rmAppS l Z a0 hw [] s1 b1 kb1 q3 q3b k214 ((([(.int 91)] : List Value) ++ hl) ++ ([(.int 93)] : List Value)) ([(.int 58)]) (((([(.int 91)] : List Value) ++ hl) ++ ([(.int 93)] : List Value)) ++ ([(.int 58)] : List Value)) cs h214 n0 F228 F221 F222 F223 F224 F225 F226 ge_s1 ge_b1 ne_s1_b1 Ea214 Fc214 Fv214 Va214 rfl (Nat.le_trans (own_le_app (ys := [(.int 58)]) (own_le_app (ys := [(.int 93)]) (own_le_app (xs := [(.int 91)]) (Nat.le_refl 1) hlen3) (Nat.le_refl 1)) (Nat.le_refl 1)) (by decide : _ ≤ 16)) S_cs n_cs) hZ214 (ow hw 120 rfl) (ow hw 60 rfl) (by decide) (by decide)) q229a q229c (g := (mkF m 58 #[rv a] [(.ref q3), (.ref s1)])) rfl (by rw [hml]; rfl) (Steps.refl _) (argsL := [(.ref q3)]) (rest := []) (lenOf pd_568 rfl) rfl (by show 2 * 0 + _ ≤ _; exact Nat.le_of_eq rfl) (hb hby d10_58) (fun _ _ => ⟨rfl, e214, (by decide : 14 + 0 ≤ _), (by decide : 92 + 0 ≤ _)⟩)
    dsimp only [Pt.U, Pt.locs, Pt.cells, Pt.slots] at X229 l229 y229 z229 st229 hQ229
    subst l229 y229 z229
    obtain ⟨rfl, N229q, K229, Q229_0, Q229_1, Q229_2, Q229_3, Q229_4⟩ := hQ229
    have N229 := Fr.app N211 N229q
    have C230 : CHr Z own_EL s.vm h0 T214.vm T229.heap := C218.trans (CHr.keep K229 (sfS (Safe.exa hZ214.alike F222 (by decide) (by decide)) (sfS Sf219 sf0)) C218.1)
    have Sf231 : Safe Z own_EL T214.vm T229.heap b1 := Safe.keep K229 (sfS (Safe.exa hZ214.alike F222 (by decide) (by decide)) (sfS Sf219 sf0)) C218.1 Sf219
    refine Go.to st229 ?_
    show Go _ _ _ _ T229 (mkF m 61 #[rv a] [(.ref s1)])
    refine Go.aload1 62 X229 hx (hb hby d10_61) rfl rfl rfl ?_
    have F232 : Fld Z h1 a "com/example/entries_to_nodes/entriestonodes/component/ServerAddress" "port" "I" (.int pv) := F_a_port.ext E1
    have F233 : Fld Z T9.heap a "com/example/entries_to_nodes/entriestonodes/component/ServerAddress" "port" "I" (.int pv) := F232.keep K9 (ninS ne_a_s1 nin0)
    have F234 : Fld Z h15 a "com/example/entries_to_nodes/entriestonodes/component/ServerAddress" "port" "I" (.int pv) := F233.ext E15
    have F235 : Fld Z h35 a "com/example/entries_to_nodes/entriestonodes/component/ServerAddress" "port" "I" (.int pv) := F234.ext E35
    have F236 : Fld Z T54.heap a "com/example/entries_to_nodes/entriestonodes/component/ServerAddress" "port" "I" (.int pv) := F235.keep K54 (ninS ne_a_s2 nin0)
    have F237 : Fld Z h58 a "com/example/entries_to_nodes/entriestonodes/component/ServerAddress" "port" "I" (.int pv) := F236.ext E58
    have F238 : Fld Z T74.heap a "com/example/entries_to_nodes/entriestonodes/component/ServerAddress" "port" "I" (.int pv) := F237.keep K74 (ninS ne_a_s2 (ninS ne_a_b2 nin0))
    have F239 : Fld Z T100.heap a "com/example/entries_to_nodes/entriestonodes/component/ServerAddress" "port" "I" (.int pv) := F238.keep K100 (ninS ne_a_s2 (ninS ne_a_b2 nin0))
    have F240 : Fld Z h104 a "com/example/entries_to_nodes/entriestonodes/component/ServerAddress" "port" "I" (.int pv) := F239.ext E104
    have F241 : Fld Z T122.heap a "com/example/entries_to_nodes/entriestonodes/component/ServerAddress" "port" "I" (.int pv) := F240.keep K122 (ninS ne_a_s2 (ninS ne_a_b2 nin0))
    have F242 : Fld Z T176.heap a "com/example/entries_to_nodes/entriestonodes/component/ServerAddress" "port" "I" (.int pv) := F241.keep K176 nin0
    have F243 : Fld Z T211.heap a "com/example/entries_to_nodes/entriestonodes/component/ServerAddress" "port" "I" (.int pv) := F242.keep K211 (ninS ne_a_s1 (ninS ne_a_b1 nin0))
    have F244 : Fld Z h214 a "com/example/entries_to_nodes/entriestonodes/component/ServerAddress" "port" "I" (.int pv) := F243.ext E214
    have F245 : Fld Z T229.heap a "com/example/entries_to_nodes/entriestonodes/component/ServerAddress" "port" "I" (.int pv) := F244.keep K229 (ninS ne_a_s1 (ninS ne_a_b1 nin0))
    obtain ⟨T246, X246, e246, st246⟩ := getF X229 hx hZ214 hown214 (host := "") (Or.inl (ow hw 51 rfl)) Via.refl rfl F245 (g := (mkF m 62 #[rv a] [(.ref a), (.ref s1)])) rfl rfl (hb hby d10_62)
    refine Go.by st246 ?_
    show Go _ _ _ _ T246 (mkF m 65 #[rv a] [(.int pv), (.ref s1)])
    have F247 : Old Z n0 T229.heap := F221.keep K229 (allS ge_s1 (allS ge_b1 all0))
    have F248 : n0 ≤ T229.heap.size := Nat.le_trans F228 K229.1
    obtain ⟨cq249, kq249, q249a, q249b, q249c⟩ := isOf hZ214 e246 Q229_0
    obtain ⟨_, _, ⟨T249, L249, k249, n249⟩, -, X249, ⟨Lc249, hQ249, l249, y249, z249⟩, st249⟩ := X246.virtualBack hx (y := (⟨"java/lang/StringBuilder", "append", "(I)Ljava/lang/StringBuilder;"⟩ : MethodName)) (z := (⟨"java/lang/StringBuilder", "append", "(I)Ljava/lang/StringBuilder;"⟩ : MethodName)) hown214 (mvT hZ214 (ow hw 204 rfl)) (mvT hZ214 (ow hw 205 rfl)) (notFace_of_selects (args := #[]) (mvT hZ214 (ow hw 207 rfl))) (mvT hZ214 (ow hw 207 rfl)) (mvT hZ214 (ow hw 206 rfl)) (by decide) (backOf (W := 0) (rmAppI l Z a0 hw [] s1 b1 kb1 (((([(.int 91)] : List Value) ++ hl) ++ ([(.int 93)] : List Value)) ++ ([(.int 58)] : List Value)) pv cs d1 d2 kd1 kd2 T229.heap n0 F248 F247 Q229_0 Q229_1 Q229_2 Q229_3 Q229_4 ge_s1 ge_b1 ne_s1_b1 hp (own_app16 (Nat.le_trans (own_le_app (ys := [(.int 58)]) (own_le_app (ys := [(.int 93)]) (own_le_app (xs := [(.int 91)]) (Nat.le_refl 1) hlen3) (Nat.le_refl 1)) (Nat.le_refl 1)) (by decide : _ ≤ 11))) S_cs n_cs S_d1 V_d1 S_d2 V_d2) hZ214 (ow hw 208 rfl) (ow hw 60 rfl) (by decide) (by decide)) q249a q249c (g := (mkF m 65 #[rv a] [(.int pv), (.ref s1)])) rfl (by rw [hml]; rfl) (Steps.refl _) (argsL := [(.int pv)]) (rest := []) (lenOf pd_582 rfl) rfl (by show 2 * 0 + _ ≤ _; exact Nat.le_of_eq rfl) (hb hby d10_65) (fun _ _ => ⟨rfl, e246, (by decide : 14 + 0 ≤ _), (by decide : 92 + 0 ≤ _)⟩)
    dsimp only [Pt.U, Pt.locs, Pt.cells, Pt.slots] at X249 l249 y249 z249 st249 hQ249
    subst l249 y249 z249
    obtain ⟨rfl, N249q, K249, Q249_0, Q249_1, Q249_2, Q249_3, Q249_4⟩ := hQ249
    have N249 := Fr.app N229 N249q
    have C250 : CHr Z own_EL s.vm h0 T214.vm T249.heap := C230.trans (CHr.keep K249 (sfS (Safe.exa hZ214.alike Q229_0 (by decide) (by decide)) (sfS Sf231 sf0)) C230.1)
    have Sf251 : Safe Z own_EL T214.vm T249.heap b1 := Safe.keep K249 (sfS (Safe.exa hZ214.alike Q229_0 (by decide) (by decide)) (sfS Sf231 sf0)) C230.1 Sf231
    refine Go.to st249 ?_
    show Go _ _ _ _ T249 (mkF m 68 #[rv a] [(.ref s1)])
    have F252 : Old Z n0 T249.heap := F247.keep K249 (allS ge_s1 (allS ge_b1 all0))
    have F253 : n0 ≤ T249.heap.size := Nat.le_trans F248 K249.1
    have F254 : Keep h0 T176.heap [] := F133.trans K176 all0
    have F255 : Keep h0 T211.heap [] := F254.trans K211 (allS (Or.inr sz_s1) (allS (Or.inr sz_b1) all0))
    have F256 : Keep h0 h214 [] := F255.ext E214
    have F257 : Keep h0 T229.heap [] := F256.trans K229 (allS (Or.inr sz_s1) (allS (Or.inr sz_b1) all0))
    have F258 : Keep h0 T249.heap [] := F257.trans K249 (allS (Or.inr sz_s1) (allS (Or.inr sz_b1) all0))
    have F259 : Exa Z T176.heap a "com/example/entries_to_nodes/entriestonodes/component/ServerAddress" := F139.keep K176
    have F260 : Exa Z T211.heap a "com/example/entries_to_nodes/entriestonodes/component/ServerAddress" := F259.keep K211
    have F261 : Exa Z h214 a "com/example/entries_to_nodes/entriestonodes/component/ServerAddress" := F260.ext E214
    have F262 : Exa Z T229.heap a "com/example/entries_to_nodes/entriestonodes/component/ServerAddress" := F261.keep K229
    have F263 : Exa Z T249.heap a "com/example/entries_to_nodes/entriestonodes/component/ServerAddress" := F262.keep K249
    have F264 : Arv Z T176.heap b2 kb2 .byte (16 : Int32) ((([(.int 91)] : List Value) ++ hl) ++ ([(.int 93)] : List Value)) (.int 0) := Q122_4.keep K176 nin0
    have F265 : Arv Z T211.heap b2 kb2 .byte (16 : Int32) ((([(.int 91)] : List Value) ++ hl) ++ ([(.int 93)] : List Value)) (.int 0) := F264.keep K211 (ninS (Ne.symm ne_s1_b2) (ninS (Ne.symm ne_b1_b2) nin0))
    have F266 : Arv Z h214 b2 kb2 .byte (16 : Int32) ((([(.int 91)] : List Value) ++ hl) ++ ([(.int 93)] : List Value)) (.int 0) := F265.ext E214
    have F267 : Arv Z T229.heap b2 kb2 .byte (16 : Int32) ((([(.int 91)] : List Value) ++ hl) ++ ([(.int 93)] : List Value)) (.int 0) := F266.keep K229 (ninS (Ne.symm ne_s1_b2) (ninS (Ne.symm ne_b1_b2) nin0))
    have F268 : Arv Z T249.heap b2 kb2 .byte (16 : Int32) ((([(.int 91)] : List Value) ++ hl) ++ ([(.int 93)] : List Value)) (.int 0) := F267.keep K249 (ninS (Ne.symm ne_s1_b2) (ninS (Ne.symm ne_b1_b2) nin0))
    have F269 : Exa Z T176.heap hs "java/lang/String" := F144.keep K176
    have F270 : Exa Z T211.heap hs "java/lang/String" := F269.keep K211
    have F271 : Exa Z h214 hs "java/lang/String" := F270.ext E214
    have F272 : Exa Z T229.heap hs "java/lang/String" := F271.keep K229
    have F273 : Exa Z T249.heap hs "java/lang/String" := F272.keep K249
    have F274 : Exa Z T176.heap q0 "java/lang/String" := F150.keep K176
    have F275 : Exa Z T211.heap q0 "java/lang/String" := F274.keep K211
    have F276 : Exa Z h214 q0 "java/lang/String" := F275.ext E214
    have F277 : Exa Z T229.heap q0 "java/lang/String" := F276.keep K229
    have F278 : Exa Z T249.heap q0 "java/lang/String" := F277.keep K249
    have F279 : Arv Z T176.heap q0b k15 .byte (1 : Int32) [(.int 58)] (.int 0) := F156.keep K176 nin0
    have F280 : Arv Z T211.heap q0b k15 .byte (1 : Int32) [(.int 58)] (.int 0) := F279.keep K211 (ninS (Ne.symm (Exa.neArv F181 F279 (ow hw 59 rfl))) (ninS (Ne.symm ne_b1_q0b) nin0))
    have F281 : Arv Z h214 q0b k15 .byte (1 : Int32) [(.int 58)] (.int 0) := F280.ext E214
    have F282 : Arv Z T229.heap q0b k15 .byte (1 : Int32) [(.int 58)] (.int 0) := F281.keep K229 (ninS (Ne.symm (Exa.neArv F222 F281 (ow hw 59 rfl))) (ninS (Ne.symm ne_b1_q0b) nin0))
    have F283 : Arv Z T249.heap q0b k15 .byte (1 : Int32) [(.int 58)] (.int 0) := F282.keep K249 (ninS (Ne.symm (Exa.neArv Q229_0 F282 (ow hw 59 rfl))) (ninS (Ne.symm ne_b1_q0b) nin0))
    have F284 : Exa Z T176.heap q1 "java/lang/String" := F160.keep K176
    have F285 : Exa Z T211.heap q1 "java/lang/String" := F284.keep K211
    have F286 : Exa Z h214 q1 "java/lang/String" := F285.ext E214
    have F287 : Exa Z T229.heap q1 "java/lang/String" := F286.keep K229
    have F288 : Exa Z T249.heap q1 "java/lang/String" := F287.keep K249
    have F289 : Arv Z T176.heap q1b k58 .byte (1 : Int32) [(.int 91)] (.int 0) := F164.keep K176 nin0
    have F290 : Arv Z T211.heap q1b k58 .byte (1 : Int32) [(.int 91)] (.int 0) := F289.keep K211 (ninS (Ne.symm (Exa.neArv F181 F289 (ow hw 59 rfl))) (ninS (Ne.symm ne_b1_q1b) nin0))
    have F291 : Arv Z h214 q1b k58 .byte (1 : Int32) [(.int 91)] (.int 0) := F290.ext E214
    have F292 : Arv Z T229.heap q1b k58 .byte (1 : Int32) [(.int 91)] (.int 0) := F291.keep K229 (ninS (Ne.symm (Exa.neArv F222 F291 (ow hw 59 rfl))) (ninS (Ne.symm ne_b1_q1b) nin0))
    have F293 : Arv Z T249.heap q1b k58 .byte (1 : Int32) [(.int 91)] (.int 0) := F292.keep K249 (ninS (Ne.symm (Exa.neArv Q229_0 F292 (ow hw 59 rfl))) (ninS (Ne.symm ne_b1_q1b) nin0))
    have F294 : Exa Z T176.heap q2 "java/lang/String" := F165.keep K176
    have F295 : Exa Z T211.heap q2 "java/lang/String" := F294.keep K211
    have F296 : Exa Z h214 q2 "java/lang/String" := F295.ext E214
    have F297 : Exa Z T229.heap q2 "java/lang/String" := F296.keep K229
    have F298 : Exa Z T249.heap q2 "java/lang/String" := F297.keep K249
    have F299 : Arv Z T176.heap q2b k104 .byte (1 : Int32) [(.int 93)] (.int 0) := F166.keep K176 nin0
    have F300 : Arv Z T211.heap q2b k104 .byte (1 : Int32) [(.int 93)] (.int 0) := F299.keep K211 (ninS (Ne.symm (Exa.neArv F181 F299 (ow hw 59 rfl))) (ninS (Ne.symm ne_b1_q2b) nin0))
    have F301 : Arv Z h214 q2b k104 .byte (1 : Int32) [(.int 93)] (.int 0) := F300.ext E214
    have F302 : Arv Z T229.heap q2b k104 .byte (1 : Int32) [(.int 93)] (.int 0) := F301.keep K229 (ninS (Ne.symm (Exa.neArv F222 F301 (ow hw 59 rfl))) (ninS (Ne.symm ne_b1_q2b) nin0))
    have F303 : Arv Z T249.heap q2b k104 .byte (1 : Int32) [(.int 93)] (.int 0) := F302.keep K249 (ninS (Ne.symm (Exa.neArv Q229_0 F302 (ow hw 59 rfl))) (ninS (Ne.symm ne_b1_q2b) nin0))
    have F304 : Exa Z T229.heap q3 "java/lang/String" := Ea214.keep K229
    have F305 : Exa Z T249.heap q3 "java/lang/String" := F304.keep K249
    have F306 : Arv Z T229.heap q3b k214 .byte (1 : Int32) [(.int 58)] (.int 0) := Va214.keep K229 (ninS (Ne.symm (Exa.neArv F222 Va214 (ow hw 59 rfl))) (ninS (Ne.symm ne_b1_q3b) nin0))
    have F307 : Arv Z T249.heap q3b k214 .byte (1 : Int32) [(.int 58)] (.int 0) := F306.keep K249 (ninS (Ne.symm (Exa.neArv Q229_0 F306 (ow hw 59 rfl))) (ninS (Ne.symm ne_b1_q3b) nin0))
    have F308 : Exa Z T176.heap s2 "java/lang/StringBuilder" := Q122_0.keep K176
    have F309 : Exa Z T211.heap s2 "java/lang/StringBuilder" := F308.keep K211
    have F310 : Exa Z h214 s2 "java/lang/StringBuilder" := F309.ext E214
    have F311 : Exa Z T229.heap s2 "java/lang/StringBuilder" := F310.keep K229
    have F312 : Exa Z T249.heap s2 "java/lang/StringBuilder" := F311.keep K249
    have F313 : Exa Z T211.heap s3 "java/lang/String" := Q176_0.keep K211
    have F314 : Exa Z h214 s3 "java/lang/String" := F313.ext E214
    have F315 : Exa Z T229.heap s3 "java/lang/String" := F314.keep K229
    have F316 : Exa Z T249.heap s3 "java/lang/String" := F315.keep K249
    have F317 : Arv Z T211.heap s3v ks3 .byte (Int32.ofNat ((([(.int 91)] : List Value) ++ hl) ++ ([(.int 93)] : List Value)).length) ((([(.int 91)] : List Value) ++ hl) ++ ([(.int 93)] : List Value)) (.int 0) := Q176_3.keep K211 (ninS (Ne.symm ne_s1_s3v) (ninS (Ne.symm ne_b1_s3v) nin0))
    have F318 : Arv Z h214 s3v ks3 .byte (Int32.ofNat ((([(.int 91)] : List Value) ++ hl) ++ ([(.int 93)] : List Value)).length) ((([(.int 91)] : List Value) ++ hl) ++ ([(.int 93)] : List Value)) (.int 0) := F317.ext E214
    have F319 : Arv Z T229.heap s3v ks3 .byte (Int32.ofNat ((([(.int 91)] : List Value) ++ hl) ++ ([(.int 93)] : List Value)).length) ((([(.int 91)] : List Value) ++ hl) ++ ([(.int 93)] : List Value)) (.int 0) := F318.keep K229 (ninS (Ne.symm ne_s1_s3v) (ninS (Ne.symm ne_b1_s3v) nin0))
    have F320 : Arv Z T249.heap s3v ks3 .byte (Int32.ofNat ((([(.int 91)] : List Value) ++ hl) ++ ([(.int 93)] : List Value)).length) ((([(.int 91)] : List Value) ++ hl) ++ ([(.int 93)] : List Value)) (.int 0) := F319.keep K249 (ninS (Ne.symm ne_s1_s3v) (ninS (Ne.symm ne_b1_s3v) nin0))
    have F321 : Arv Z T176.heap sv ks .byte (Int32.ofNat hl.length) hl (.int 0) := F175.keep K176 nin0
    have F322 : Arv Z T211.heap sv ks .byte (Int32.ofNat hl.length) hl (.int 0) := F321.keep K211 (ninS ne_sv_s1 (ninS ne_sv_b1 nin0))
    have F323 : Arv Z h214 sv ks .byte (Int32.ofNat hl.length) hl (.int 0) := F322.ext E214
    have F324 : Arv Z T229.heap sv ks .byte (Int32.ofNat hl.length) hl (.int 0) := F323.keep K229 (ninS ne_sv_s1 (ninS ne_sv_b1 nin0))
    have F325 : Arv Z T249.heap sv ks .byte (Int32.ofNat hl.length) hl (.int 0) := F324.keep K249 (ninS ne_sv_s1 (ninS ne_sv_b1 nin0))
    obtain ⟨cq326, kq326, q326a, q326b, q326c⟩ := isOf hZ214 rfl Q249_0
    obtain ⟨_, _, ⟨T326, L326, k326, n326⟩, -, X326, ⟨Lc326, hQ326, l326, y326, z326⟩, st326⟩ := X249.virtualBack hx (y := (⟨"java/lang/StringBuilder", "toString", "()Ljava/lang/String;"⟩ : MethodName)) (z := (⟨"java/lang/StringBuilder", "toString", "()Ljava/lang/String;"⟩ : MethodName)) hown214 (mvT hZ214 (ow hw 159 rfl)) (mvT hZ214 (ow hw 160 rfl)) (notFace_of_selects (args := #[]) (mvT hZ214 (ow hw 162 rfl))) (mvT hZ214 (ow hw 162 rfl)) (mvT hZ214 (ow hw 161 rfl)) (by decide) (backOf (W := 0) (rmSbTs l Z a0 hw [] s1 b1 kb1 ((((([(.int 91)] : List Value) ++ hl) ++ ([(.int 93)] : List Value)) ++ ([(.int 58)] : List Value)) ++ own_dg pv) cs T249.heap n0 F253 F252 Q249_0 Q249_1 Q249_2 Q249_3 Q249_4 (own_app15 (Nat.le_trans (own_le_app (ys := [(.int 58)]) (own_le_app (ys := [(.int 93)]) (own_le_app (xs := [(.int 91)]) (Nat.le_refl 1) hlen3) (Nat.le_refl 1)) (Nat.le_refl 1)) (by decide : _ ≤ 10))) S_cs n_cs) hZ214 (ow hw 163 rfl) (ow hw 60 rfl) (by decide) (by decide)) q326a q326c (g := (mkF m 68 #[rv a] [(.ref s1)])) rfl (by rw [hml]; rfl) (Steps.refl _) (argsL := []) (rest := []) (lenOf pd_525 rfl) rfl (by show 2 * 0 + _ ≤ _; exact Nat.le_of_eq rfl) (hb hby d10_68) (fun _ _ => ⟨rfl, rfl, (by decide : 14 + 2 ≤ _), (by decide : 92 + 20 ≤ _)⟩)
    dsimp only [Pt.U, Pt.locs, Pt.cells, Pt.slots] at X326 l326 y326 z326 st326 hQ326
    subst l326 y326 z326
    obtain ⟨st, sv9, ks9, rfl, N326q, K326, Q326_0, Q326_1, Q326_2, Q326_3, Q326_4, Q326_5⟩ := hQ326
    have N326 := Fr.app N249 N326q
    have C327 : CHr Z own_EL s.vm h0 T214.vm T326.heap := C250.trans (CHr.keep K326 sf0 C250.1)
    have Sf328 : Safe Z own_EL T214.vm T326.heap b1 := Safe.keep K326 sf0 C250.1 Sf251
    refine Go.to st326 ?_
    show Go _ _ _ _ T326 (mkF m 71 #[rv a] [(.ref st)])
    have ge_st : n0 ≤ st := Nat.le_trans F253 Q326_4
    have sz_st : h0.size ≤ st := Nat.le_trans F258.1 Q326_4
    have ne_a_st : a ≠ st := Nat.ne_of_lt (Nat.lt_of_lt_of_le F263.lt Q326_4)
    have ne_b1_st : b1 ≠ st := Nat.ne_of_lt (Nat.lt_of_lt_of_le Q249_4.lt Q326_4)
    have ne_b2_st : b2 ≠ st := Nat.ne_of_lt (Nat.lt_of_lt_of_le F268.lt Q326_4)
    have ne_hs_st : hs ≠ st := Nat.ne_of_lt (Nat.lt_of_lt_of_le F273.lt Q326_4)
    have ne_q0_st : q0 ≠ st := Nat.ne_of_lt (Nat.lt_of_lt_of_le F278.lt Q326_4)
    have ne_q0b_st : q0b ≠ st := Nat.ne_of_lt (Nat.lt_of_lt_of_le F283.lt Q326_4)
    have ne_q1_st : q1 ≠ st := Nat.ne_of_lt (Nat.lt_of_lt_of_le F288.lt Q326_4)
    have ne_q1b_st : q1b ≠ st := Nat.ne_of_lt (Nat.lt_of_lt_of_le F293.lt Q326_4)
    have ne_q2_st : q2 ≠ st := Nat.ne_of_lt (Nat.lt_of_lt_of_le F298.lt Q326_4)
    have ne_q2b_st : q2b ≠ st := Nat.ne_of_lt (Nat.lt_of_lt_of_le F303.lt Q326_4)
    have ne_q3_st : q3 ≠ st := Nat.ne_of_lt (Nat.lt_of_lt_of_le F305.lt Q326_4)
    have ne_q3b_st : q3b ≠ st := Nat.ne_of_lt (Nat.lt_of_lt_of_le F307.lt Q326_4)
    have ne_s1_st : s1 ≠ st := Nat.ne_of_lt (Nat.lt_of_lt_of_le Q249_0.lt Q326_4)
    have ne_s2_st : s2 ≠ st := Nat.ne_of_lt (Nat.lt_of_lt_of_le F312.lt Q326_4)
    have ne_s3_st : s3 ≠ st := Nat.ne_of_lt (Nat.lt_of_lt_of_le F316.lt Q326_4)
    have ne_s3v_st : s3v ≠ st := Nat.ne_of_lt (Nat.lt_of_lt_of_le F320.lt Q326_4)
    have ne_sv_st : sv ≠ st := Nat.ne_of_lt (Nat.lt_of_lt_of_le F325.lt Q326_4)
    have ge_sv9 : n0 ≤ sv9 := Nat.le_trans F253 Q326_5
    have sz_sv9 : h0.size ≤ sv9 := Nat.le_trans F258.1 Q326_5
    have ne_a_sv9 : a ≠ sv9 := Nat.ne_of_lt (Nat.lt_of_lt_of_le F263.lt Q326_5)
    have ne_b1_sv9 : b1 ≠ sv9 := Nat.ne_of_lt (Nat.lt_of_lt_of_le Q249_4.lt Q326_5)
    have ne_b2_sv9 : b2 ≠ sv9 := Nat.ne_of_lt (Nat.lt_of_lt_of_le F268.lt Q326_5)
    have ne_hs_sv9 : hs ≠ sv9 := Nat.ne_of_lt (Nat.lt_of_lt_of_le F273.lt Q326_5)
    have ne_q0_sv9 : q0 ≠ sv9 := Nat.ne_of_lt (Nat.lt_of_lt_of_le F278.lt Q326_5)
    have ne_q0b_sv9 : q0b ≠ sv9 := Nat.ne_of_lt (Nat.lt_of_lt_of_le F283.lt Q326_5)
    have ne_q1_sv9 : q1 ≠ sv9 := Nat.ne_of_lt (Nat.lt_of_lt_of_le F288.lt Q326_5)
    have ne_q1b_sv9 : q1b ≠ sv9 := Nat.ne_of_lt (Nat.lt_of_lt_of_le F293.lt Q326_5)
    have ne_q2_sv9 : q2 ≠ sv9 := Nat.ne_of_lt (Nat.lt_of_lt_of_le F298.lt Q326_5)
    have ne_q2b_sv9 : q2b ≠ sv9 := Nat.ne_of_lt (Nat.lt_of_lt_of_le F303.lt Q326_5)
    have ne_q3_sv9 : q3 ≠ sv9 := Nat.ne_of_lt (Nat.lt_of_lt_of_le F305.lt Q326_5)
    have ne_q3b_sv9 : q3b ≠ sv9 := Nat.ne_of_lt (Nat.lt_of_lt_of_le F307.lt Q326_5)
    have ne_s1_sv9 : s1 ≠ sv9 := Nat.ne_of_lt (Nat.lt_of_lt_of_le Q249_0.lt Q326_5)
    have ne_s2_sv9 : s2 ≠ sv9 := Nat.ne_of_lt (Nat.lt_of_lt_of_le F312.lt Q326_5)
    have ne_s3_sv9 : s3 ≠ sv9 := Nat.ne_of_lt (Nat.lt_of_lt_of_le F316.lt Q326_5)
    have ne_s3v_sv9 : s3v ≠ sv9 := Nat.ne_of_lt (Nat.lt_of_lt_of_le F320.lt Q326_5)
    have ne_sv_sv9 : sv ≠ sv9 := Nat.ne_of_lt (Nat.lt_of_lt_of_le F325.lt Q326_5)
    have F329 : Keep h0 T326.heap [] := F258.trans K326 all0
    have F330 : kq214 ≤ T229.heap.size := Nat.le_trans hk214 K229.1
    have F331 : kq214 ≤ T249.heap.size := Nat.le_trans F330 K249.1
    have F332 : kq214 ≤ T326.heap.size := Nat.le_trans F331 K326.1
    exact Go.retAW X326 hx Bd.notSynchronized hS214 (by exact F332) hZ214 hEL (by rw [hh]; exact C327) Bd.returns rfl rfl (hb hby d10_71) ⟨st, sv9, ks9, ((((([(.int 91)] : List Value) ++ hl) ++ ([(.int 93)] : List Value)) ++ ([(.int 58)] : List Value)) ++ own_dg pv), rfl, N326, F329, Q326_0, Q326_1, Q326_2, Q326_3, Or.inl ⟨hC, rfl⟩, sz_st, sz_sv9⟩ (by decide) (by decide)
  · show Go _ _ _ _ T34 (mkF m 16 #[rv a] [(.int 0), (.ref s1)])
    refine Go.ifY 49 X34 hx (hb hby d10_16) (XT.i0_eq_t rfl) (by decide) (by decide) ?_
    refine Go.aload1 50 X34 hx (hb hby d10_49) rfl rfl rfl ?_
    have F333 : Fld Z h15 a "com/example/entries_to_nodes/entriestonodes/component/ServerAddress" "host" "Ljava/lang/String;" (.ref hs) := F13.ext E15
    obtain ⟨T334, X334, e334, st334⟩ := getF X34 hx hZ15 hown15 (host := "") (Or.inl (ow hw 49 rfl)) Via.refl e34 F333 (g := (mkF m 50 #[rv a] [(.ref a), (.ref s1)])) rfl rfl (hb hby d10_50)
    refine Go.by st334 ?_
    show Go _ _ _ _ T334 (mkF m 53 #[rv a] [(.ref hs), (.ref s1)])
    have F335 : Exa Z h15 s1 "java/lang/StringBuilder" := Q9_0.ext E15
    have F336 : Fld Z h15 s1 "java/lang/AbstractStringBuilder" "coder" "B" (.int 0) := Q9_1.ext E15
    have F337 : Fld Z h15 s1 "java/lang/AbstractStringBuilder" "value" "[B" (.ref b1) := Q9_2.ext E15
    have F338 : Fld Z h15 s1 "java/lang/AbstractStringBuilder" "count" "I" (.int 0) := Q9_3.ext E15
    have F339 : Arv Z h15 b1 kb1 .byte (16 : Int32) ([] : List Value) (.int 0) := Q9_4.ext E15
    obtain ⟨cq340, kq340, q340a, q340b, q340c⟩ := isOf hZ15 e334 F335
    obtain ⟨_, _, ⟨T340, L340, k340, n340⟩, -, X340, ⟨Lc340, hQ340, l340, y340, z340⟩, st340⟩ := X334.virtualBack hx (y := (⟨"java/lang/StringBuilder", "append", "(Ljava/lang/String;)Ljava/lang/StringBuilder;"⟩ : MethodName)) (z := (⟨"java/lang/StringBuilder", "append", "(Ljava/lang/String;)Ljava/lang/StringBuilder;"⟩ : MethodName)) hown15 (mvT hZ15 (ow hw 116 rfl)) (mvT hZ15 (ow hw 117 rfl)) (notFace_of_selects (args := #[]) (mvT hZ15 (ow hw 119 rfl))) (mvT hZ15 (ow hw 119 rfl)) (mvT hZ15 (ow hw 118 rfl)) (by decide) (backOf (W := 0) (rmAppS l Z a0 hw [] s1 b1 kb1 hs sv ks ([] : List Value) hl hl cs h15 n0 F33 F21 F335 F336 F337 F338 F339 ge_s1 ge_b1 ne_s1_b1 F23 F26 F29 F31 rfl (Nat.le_trans hlen3 (by decide : _ ≤ 16)) S_cs n_cs) hZ15 (ow hw 120 rfl) (ow hw 60 rfl) (by decide) (by decide)) q340a q340c (g := (mkF m 53 #[rv a] [(.ref hs), (.ref s1)])) rfl (by rw [hml]; rfl) (Steps.refl _) (argsL := [(.ref hs)]) (rest := []) (lenOf pd_568 rfl) rfl (by show 2 * 0 + _ ≤ _; exact Nat.le_of_eq rfl) (hb hby d10_53) (fun _ _ => ⟨rfl, e334, (by decide : 4 + 0 ≤ _), (by decide : 28 + 0 ≤ _)⟩)
    dsimp only [Pt.U, Pt.locs, Pt.cells, Pt.slots] at X340 l340 y340 z340 st340 hQ340
    subst l340 y340 z340
    obtain ⟨rfl, N340q, K340, Q340_0, Q340_1, Q340_2, Q340_3, Q340_4⟩ := hQ340
    have N340 := Fr.app N34 N340q
    have C341 : CHr Z own_EL s.vm h0 T15.vm T340.heap := C18.trans (CHr.keep K340 (sfS (Safe.exa hZ15.alike F335 (by decide) (by decide)) (sfS Sf19 sf0)) C18.1)
    have Sf342 : Safe Z own_EL T15.vm T340.heap b1 := Safe.keep K340 (sfS (Safe.exa hZ15.alike F335 (by decide) (by decide)) (sfS Sf19 sf0)) C18.1 Sf19
    refine Go.to st340 ?_
    show Go _ _ _ _ T340 (mkF m 56 #[rv a] [(.ref s1)])
    have F344 : kq15 ≤ T340.heap.size := Nat.le_trans hk15 K340.1
    obtain ⟨q3, T343, h343, kq343, q3b, k343, X343, e343, E343, hS343, hk343, hZ343, hown343, Ea343, Fc343, Fv343, Va343, -, -, CH343, -, sf343, st343⟩ := ldcCH X340 hx hZ15 hown15 (ow hw 76 rfl) hSA rfl hS15 F344 hEL (List.mem_of_getElem? (i := 2) rfl) C341.1 (vs := [(.int 58)]) (z := (1 : Int32)) ⟨by decide, by decide⟩ (by decide) rfl (g := (mkF m 56 #[rv a] [(.ref s1)])) rfl (hb hby d10_56) (n := 4) (by decide) (by decide) (by decide) (by decide)
    have C345 : CHr Z own_EL s.vm h0 T343.vm h343 := C341.trans CH343
    have Sf346 : Safe Z own_EL T343.vm h343 b1 := CH343.safe Q340_4.lt Sf342
    obtain ⟨ne_b1_q3, ne_b1_q3b⟩ := sf343 _ Sf346
    refine Go.by st343 ?_
    show Go _ _ _ _ T343 (mkF m 58 #[rv a] [(.ref q3), (.ref s1)])
    have F347 : Old Z n0 T340.heap := F21.keep K340 (allS ge_s1 (allS ge_b1 all0))
    have F348 : Old Z n0 h343 := F347.ext E343
    have F349 : Exa Z h343 s1 "java/lang/StringBuilder" := Q340_0.ext E343
    have F350 : Fld Z h343 s1 "java/lang/AbstractStringBuilder" "coder" "B" (.int 0) := Q340_1.ext E343
    have F351 : Fld Z h343 s1 "java/lang/AbstractStringBuilder" "value" "[B" (.ref b1) := Q340_2.ext E343
    have F352 : Fld Z h343 s1 "java/lang/AbstractStringBuilder" "count" "I" (.int (Int32.ofNat hl.length)) := Q340_3.ext E343
    have F353 : Arv Z h343 b1 kb1 .byte (16 : Int32) hl (.int 0) := Q340_4.ext E343
    have F354 : n0 ≤ T340.heap.size := Nat.le_trans F33 K340.1
    have F355 : n0 ≤ h343.size := Nat.le_trans F354 E343.1
    obtain ⟨cq356, kq356, q356a, q356b, q356c⟩ := isOf hZ343 e343 F349
    obtain ⟨_, _, ⟨T356, L356, k356, n356⟩, -, X356, ⟨Lc356, hQ356, l356, y356, z356⟩, st356⟩ := X343.virtualBack hx (y := (⟨"java/lang/StringBuilder", "append", "(Ljava/lang/String;)Ljava/lang/StringBuilder;"⟩ : MethodName)) (z := (⟨"java/lang/StringBuilder", "append", "(Ljava/lang/String;)Ljava/lang/StringBuilder;"⟩ : MethodName)) hown343 (mvT hZ343 (ow hw 116 rfl)) (mvT hZ343 (ow hw 117 rfl)) (notFace_of_selects (args := #[]) (mvT hZ343 (ow hw 119 rfl))) (mvT hZ343 (ow hw 119 rfl)) (mvT hZ343 (ow hw 118 rfl)) (by decide) (backOf (W := 0) (rmAppS l Z a0 hw [] s1 b1 kb1 q3 q3b k343 hl ([(.int 58)]) (hl ++ ([(.int 58)] : List Value)) cs h343 n0 F355 F348 F349 F350 F351 F352 F353 ge_s1 ge_b1 ne_s1_b1 Ea343 Fc343 Fv343 Va343 rfl (Nat.le_trans (own_le_app (ys := [(.int 58)]) hlen3 (Nat.le_refl 1)) (by decide : _ ≤ 16)) S_cs n_cs) hZ343 (ow hw 120 rfl) (ow hw 60 rfl) (by decide) (by decide)) q356a q356c (g := (mkF m 58 #[rv a] [(.ref q3), (.ref s1)])) rfl (by rw [hml]; rfl) (Steps.refl _) (argsL := [(.ref q3)]) (rest := []) (lenOf pd_568 rfl) rfl (by show 2 * 0 + _ ≤ _; exact Nat.le_of_eq rfl) (hb hby d10_58) (fun _ _ => ⟨rfl, e343, (by decide : 6 + 0 ≤ _), (by decide : 36 + 0 ≤ _)⟩)
    dsimp only [Pt.U, Pt.locs, Pt.cells, Pt.slots] at X356 l356 y356 z356 st356 hQ356
    subst l356 y356 z356
    obtain ⟨rfl, N356q, K356, Q356_0, Q356_1, Q356_2, Q356_3, Q356_4⟩ := hQ356
    have N356 := Fr.app N340 N356q
    have C357 : CHr Z own_EL s.vm h0 T343.vm T356.heap := C345.trans (CHr.keep K356 (sfS (Safe.exa hZ343.alike F349 (by decide) (by decide)) (sfS Sf346 sf0)) C345.1)
    have Sf358 : Safe Z own_EL T343.vm T356.heap b1 := Safe.keep K356 (sfS (Safe.exa hZ343.alike F349 (by decide) (by decide)) (sfS Sf346 sf0)) C345.1 Sf346
    refine Go.to st356 ?_
    show Go _ _ _ _ T356 (mkF m 61 #[rv a] [(.ref s1)])
    refine Go.aload1 62 X356 hx (hb hby d10_61) rfl rfl rfl ?_
    have F359 : Fld Z h1 a "com/example/entries_to_nodes/entriestonodes/component/ServerAddress" "port" "I" (.int pv) := F_a_port.ext E1
    have F360 : Fld Z T9.heap a "com/example/entries_to_nodes/entriestonodes/component/ServerAddress" "port" "I" (.int pv) := F359.keep K9 (ninS ne_a_s1 nin0)
    have F361 : Fld Z h15 a "com/example/entries_to_nodes/entriestonodes/component/ServerAddress" "port" "I" (.int pv) := F360.ext E15
    have F362 : Fld Z T340.heap a "com/example/entries_to_nodes/entriestonodes/component/ServerAddress" "port" "I" (.int pv) := F361.keep K340 (ninS ne_a_s1 (ninS ne_a_b1 nin0))
    have F363 : Fld Z h343 a "com/example/entries_to_nodes/entriestonodes/component/ServerAddress" "port" "I" (.int pv) := F362.ext E343
    have F364 : Fld Z T356.heap a "com/example/entries_to_nodes/entriestonodes/component/ServerAddress" "port" "I" (.int pv) := F363.keep K356 (ninS ne_a_s1 (ninS ne_a_b1 nin0))
    obtain ⟨T365, X365, e365, st365⟩ := getF X356 hx hZ343 hown343 (host := "") (Or.inl (ow hw 51 rfl)) Via.refl rfl F364 (g := (mkF m 62 #[rv a] [(.ref a), (.ref s1)])) rfl rfl (hb hby d10_62)
    refine Go.by st365 ?_
    show Go _ _ _ _ T365 (mkF m 65 #[rv a] [(.int pv), (.ref s1)])
    have F366 : Old Z n0 T356.heap := F348.keep K356 (allS ge_s1 (allS ge_b1 all0))
    have F367 : n0 ≤ T356.heap.size := Nat.le_trans F355 K356.1
    obtain ⟨cq368, kq368, q368a, q368b, q368c⟩ := isOf hZ343 e365 Q356_0
    obtain ⟨_, _, ⟨T368, L368, k368, n368⟩, -, X368, ⟨Lc368, hQ368, l368, y368, z368⟩, st368⟩ := X365.virtualBack hx (y := (⟨"java/lang/StringBuilder", "append", "(I)Ljava/lang/StringBuilder;"⟩ : MethodName)) (z := (⟨"java/lang/StringBuilder", "append", "(I)Ljava/lang/StringBuilder;"⟩ : MethodName)) hown343 (mvT hZ343 (ow hw 204 rfl)) (mvT hZ343 (ow hw 205 rfl)) (notFace_of_selects (args := #[]) (mvT hZ343 (ow hw 207 rfl))) (mvT hZ343 (ow hw 207 rfl)) (mvT hZ343 (ow hw 206 rfl)) (by decide) (backOf (W := 0) (rmAppI l Z a0 hw [] s1 b1 kb1 (hl ++ ([(.int 58)] : List Value)) pv cs d1 d2 kd1 kd2 T356.heap n0 F367 F366 Q356_0 Q356_1 Q356_2 Q356_3 Q356_4 ge_s1 ge_b1 ne_s1_b1 hp (own_app16 (Nat.le_trans (own_le_app (ys := [(.int 58)]) hlen3 (Nat.le_refl 1)) (by decide : _ ≤ 11))) S_cs n_cs S_d1 V_d1 S_d2 V_d2) hZ343 (ow hw 208 rfl) (ow hw 60 rfl) (by decide) (by decide)) q368a q368c (g := (mkF m 65 #[rv a] [(.int pv), (.ref s1)])) rfl (by rw [hml]; rfl) (Steps.refl _) (argsL := [(.int pv)]) (rest := []) (lenOf pd_582 rfl) rfl (by show 2 * 0 + _ ≤ _; exact Nat.le_of_eq rfl) (hb hby d10_65) (fun _ _ => ⟨rfl, e365, (by decide : 6 + 0 ≤ _), (by decide : 36 + 0 ≤ _)⟩)
    dsimp only [Pt.U, Pt.locs, Pt.cells, Pt.slots] at X368 l368 y368 z368 st368 hQ368
    subst l368 y368 z368
    obtain ⟨rfl, N368q, K368, Q368_0, Q368_1, Q368_2, Q368_3, Q368_4⟩ := hQ368
    have N368 := Fr.app N356 N368q
    have C369 : CHr Z own_EL s.vm h0 T343.vm T368.heap := C357.trans (CHr.keep K368 (sfS (Safe.exa hZ343.alike Q356_0 (by decide) (by decide)) (sfS Sf358 sf0)) C357.1)
    have Sf370 : Safe Z own_EL T343.vm T368.heap b1 := Safe.keep K368 (sfS (Safe.exa hZ343.alike Q356_0 (by decide) (by decide)) (sfS Sf358 sf0)) C357.1 Sf358
    refine Go.to st368 ?_
    show Go _ _ _ _ T368 (mkF m 68 #[rv a] [(.ref s1)])
    have F371 : Old Z n0 T368.heap := F366.keep K368 (allS ge_s1 (allS ge_b1 all0))
    have F372 : n0 ≤ T368.heap.size := Nat.le_trans F367 K368.1
    have F373 : Keep h0 T9.heap [] := F5.trans K9 (allS (Or.inr sz_s1) all0)
    have F374 : Keep h0 h15 [] := F373.ext E15
    have F375 : Keep h0 T340.heap [] := F374.trans K340 (allS (Or.inr sz_s1) (allS (Or.inr sz_b1) all0))
    have F376 : Keep h0 h343 [] := F375.ext E343
    have F377 : Keep h0 T356.heap [] := F376.trans K356 (allS (Or.inr sz_s1) (allS (Or.inr sz_b1) all0))
    have F378 : Keep h0 T368.heap [] := F377.trans K368 (allS (Or.inr sz_s1) (allS (Or.inr sz_b1) all0))
    have F379 : Exa Z T9.heap a "com/example/entries_to_nodes/entriestonodes/component/ServerAddress" := F6.keep K9
    have F380 : Exa Z h15 a "com/example/entries_to_nodes/entriestonodes/component/ServerAddress" := F379.ext E15
    have F381 : Exa Z T340.heap a "com/example/entries_to_nodes/entriestonodes/component/ServerAddress" := F380.keep K340
    have F382 : Exa Z h343 a "com/example/entries_to_nodes/entriestonodes/component/ServerAddress" := F381.ext E343
    have F383 : Exa Z T356.heap a "com/example/entries_to_nodes/entriestonodes/component/ServerAddress" := F382.keep K356
    have F384 : Exa Z T368.heap a "com/example/entries_to_nodes/entriestonodes/component/ServerAddress" := F383.keep K368
    have F385 : Exa Z T340.heap hs "java/lang/String" := F23.keep K340
    have F386 : Exa Z h343 hs "java/lang/String" := F385.ext E343
    have F387 : Exa Z T356.heap hs "java/lang/String" := F386.keep K356
    have F388 : Exa Z T368.heap hs "java/lang/String" := F387.keep K368
    have F389 : Exa Z T340.heap q0 "java/lang/String" := Ea15.keep K340
    have F390 : Exa Z h343 q0 "java/lang/String" := F389.ext E343
    have F391 : Exa Z T356.heap q0 "java/lang/String" := F390.keep K356
    have F392 : Exa Z T368.heap q0 "java/lang/String" := F391.keep K368
    have F393 : Arv Z T340.heap q0b k15 .byte (1 : Int32) [(.int 58)] (.int 0) := Va15.keep K340 (ninS (Ne.symm (Exa.neArv F335 Va15 (ow hw 59 rfl))) (ninS (Ne.symm ne_b1_q0b) nin0))
    have F394 : Arv Z h343 q0b k15 .byte (1 : Int32) [(.int 58)] (.int 0) := F393.ext E343
    have F395 : Arv Z T356.heap q0b k15 .byte (1 : Int32) [(.int 58)] (.int 0) := F394.keep K356 (ninS (Ne.symm (Exa.neArv F349 F394 (ow hw 59 rfl))) (ninS (Ne.symm ne_b1_q0b) nin0))
    have F396 : Arv Z T368.heap q0b k15 .byte (1 : Int32) [(.int 58)] (.int 0) := F395.keep K368 (ninS (Ne.symm (Exa.neArv Q356_0 F395 (ow hw 59 rfl))) (ninS (Ne.symm ne_b1_q0b) nin0))
    have F397 : Exa Z T356.heap q3 "java/lang/String" := Ea343.keep K356
    have F398 : Exa Z T368.heap q3 "java/lang/String" := F397.keep K368
    have F399 : Arv Z T356.heap q3b k343 .byte (1 : Int32) [(.int 58)] (.int 0) := Va343.keep K356 (ninS (Ne.symm (Exa.neArv F349 Va343 (ow hw 59 rfl))) (ninS (Ne.symm ne_b1_q3b) nin0))
    have F400 : Arv Z T368.heap q3b k343 .byte (1 : Int32) [(.int 58)] (.int 0) := F399.keep K368 (ninS (Ne.symm (Exa.neArv Q356_0 F399 (ow hw 59 rfl))) (ninS (Ne.symm ne_b1_q3b) nin0))
    have F401 : Arv Z T340.heap sv ks .byte (Int32.ofNat hl.length) hl (.int 0) := F31.keep K340 (ninS ne_sv_s1 (ninS ne_sv_b1 nin0))
    have F402 : Arv Z h343 sv ks .byte (Int32.ofNat hl.length) hl (.int 0) := F401.ext E343
    have F403 : Arv Z T356.heap sv ks .byte (Int32.ofNat hl.length) hl (.int 0) := F402.keep K356 (ninS ne_sv_s1 (ninS ne_sv_b1 nin0))
    have F404 : Arv Z T368.heap sv ks .byte (Int32.ofNat hl.length) hl (.int 0) := F403.keep K368 (ninS ne_sv_s1 (ninS ne_sv_b1 nin0))
    obtain ⟨cq405, kq405, q405a, q405b, q405c⟩ := isOf hZ343 rfl Q368_0
    obtain ⟨_, _, ⟨T405, L405, k405, n405⟩, -, X405, ⟨Lc405, hQ405, l405, y405, z405⟩, st405⟩ := X368.virtualBack hx (y := (⟨"java/lang/StringBuilder", "toString", "()Ljava/lang/String;"⟩ : MethodName)) (z := (⟨"java/lang/StringBuilder", "toString", "()Ljava/lang/String;"⟩ : MethodName)) hown343 (mvT hZ343 (ow hw 159 rfl)) (mvT hZ343 (ow hw 160 rfl)) (notFace_of_selects (args := #[]) (mvT hZ343 (ow hw 162 rfl))) (mvT hZ343 (ow hw 162 rfl)) (mvT hZ343 (ow hw 161 rfl)) (by decide) (backOf (W := 0) (rmSbTs l Z a0 hw [] s1 b1 kb1 ((hl ++ ([(.int 58)] : List Value)) ++ own_dg pv) cs T368.heap n0 F372 F371 Q368_0 Q368_1 Q368_2 Q368_3 Q368_4 (own_app15 (Nat.le_trans (own_le_app (ys := [(.int 58)]) hlen3 (Nat.le_refl 1)) (by decide : _ ≤ 10))) S_cs n_cs) hZ343 (ow hw 163 rfl) (ow hw 60 rfl) (by decide) (by decide)) q405a q405c (g := (mkF m 68 #[rv a] [(.ref s1)])) rfl (by rw [hml]; rfl) (Steps.refl _) (argsL := []) (rest := []) (lenOf pd_525 rfl) rfl (by show 2 * 0 + _ ≤ _; exact Nat.le_of_eq rfl) (hb hby d10_68) (fun _ _ => ⟨rfl, rfl, (by decide : 6 + 2 ≤ _), (by decide : 36 + 20 ≤ _)⟩)
    dsimp only [Pt.U, Pt.locs, Pt.cells, Pt.slots] at X405 l405 y405 z405 st405 hQ405
    subst l405 y405 z405
    obtain ⟨st, sv9, ks9, rfl, N405q, K405, Q405_0, Q405_1, Q405_2, Q405_3, Q405_4, Q405_5⟩ := hQ405
    have N405 := Fr.app N368 N405q
    have C406 : CHr Z own_EL s.vm h0 T343.vm T405.heap := C369.trans (CHr.keep K405 sf0 C369.1)
    have Sf407 : Safe Z own_EL T343.vm T405.heap b1 := Safe.keep K405 sf0 C369.1 Sf370
    refine Go.to st405 ?_
    show Go _ _ _ _ T405 (mkF m 71 #[rv a] [(.ref st)])
    have ge_st : n0 ≤ st := Nat.le_trans F372 Q405_4
    have sz_st : h0.size ≤ st := Nat.le_trans F378.1 Q405_4
    have ne_a_st : a ≠ st := Nat.ne_of_lt (Nat.lt_of_lt_of_le F384.lt Q405_4)
    have ne_b1_st : b1 ≠ st := Nat.ne_of_lt (Nat.lt_of_lt_of_le Q368_4.lt Q405_4)
    have ne_hs_st : hs ≠ st := Nat.ne_of_lt (Nat.lt_of_lt_of_le F388.lt Q405_4)
    have ne_q0_st : q0 ≠ st := Nat.ne_of_lt (Nat.lt_of_lt_of_le F392.lt Q405_4)
    have ne_q0b_st : q0b ≠ st := Nat.ne_of_lt (Nat.lt_of_lt_of_le F396.lt Q405_4)
    have ne_q3_st : q3 ≠ st := Nat.ne_of_lt (Nat.lt_of_lt_of_le F398.lt Q405_4)
    have ne_q3b_st : q3b ≠ st := Nat.ne_of_lt (Nat.lt_of_lt_of_le F400.lt Q405_4)
    have ne_s1_st : s1 ≠ st := Nat.ne_of_lt (Nat.lt_of_lt_of_le Q368_0.lt Q405_4)
    have ne_sv_st : sv ≠ st := Nat.ne_of_lt (Nat.lt_of_lt_of_le F404.lt Q405_4)
    have ge_sv9 : n0 ≤ sv9 := Nat.le_trans F372 Q405_5
    have sz_sv9 : h0.size ≤ sv9 := Nat.le_trans F378.1 Q405_5
    have ne_a_sv9 : a ≠ sv9 := Nat.ne_of_lt (Nat.lt_of_lt_of_le F384.lt Q405_5)
    have ne_b1_sv9 : b1 ≠ sv9 := Nat.ne_of_lt (Nat.lt_of_lt_of_le Q368_4.lt Q405_5)
    have ne_hs_sv9 : hs ≠ sv9 := Nat.ne_of_lt (Nat.lt_of_lt_of_le F388.lt Q405_5)
    have ne_q0_sv9 : q0 ≠ sv9 := Nat.ne_of_lt (Nat.lt_of_lt_of_le F392.lt Q405_5)
    have ne_q0b_sv9 : q0b ≠ sv9 := Nat.ne_of_lt (Nat.lt_of_lt_of_le F396.lt Q405_5)
    have ne_q3_sv9 : q3 ≠ sv9 := Nat.ne_of_lt (Nat.lt_of_lt_of_le F398.lt Q405_5)
    have ne_q3b_sv9 : q3b ≠ sv9 := Nat.ne_of_lt (Nat.lt_of_lt_of_le F400.lt Q405_5)
    have ne_s1_sv9 : s1 ≠ sv9 := Nat.ne_of_lt (Nat.lt_of_lt_of_le Q368_0.lt Q405_5)
    have ne_sv_sv9 : sv ≠ sv9 := Nat.ne_of_lt (Nat.lt_of_lt_of_le F404.lt Q405_5)
    have F408 : Keep h0 T405.heap [] := F378.trans K405 all0
    have F409 : kq343 ≤ T356.heap.size := Nat.le_trans hk343 K356.1
    have F410 : kq343 ≤ T368.heap.size := Nat.le_trans F409 K368.1
    have F411 : kq343 ≤ T405.heap.size := Nat.le_trans F410 K405.1
    exact Go.retAW X405 hx Bd.notSynchronized hS343 (by exact F411) hZ343 hEL (by rw [hh]; exact C406) Bd.returns rfl rfl (hb hby d10_71) ⟨st, sv9, ks9, ((hl ++ ([(.int 58)] : List Value)) ++ own_dg pv), rfl, N405, F408, Q405_0, Q405_1, Q405_2, Q405_3, Or.inr ⟨hC, rfl⟩, sz_st, sz_sv9⟩ (by decide) (by decide)
theorem ef_588 (m : MethodId) (x0 : Int32) : entryFrame m #[(.int x0)] 1 = mkF m 0 #[iv x0] [] := by (first | (simp [entryFrame, mkF, argsToLocals, Value.category]; done) | rfl)
theorem d1_0 : decode method_2_code 0 = .ok (.iload_n 0, 1) := by decide +kernel
theorem d1_1 : decode method_2_code 1 = .ok (.bipush 8, 2) := by decide +kernel
theorem d1_3 : decode method_2_code 3 = .ok (.iushr, 1) := by decide +kernel
theorem d1_4 : decode method_2_code 4 = .ok (.iconst 3, 1) := by decide +kernel
theorem d1_5 : decode method_2_code 5 = .ok (.iand, 1) := by decide +kernel
theorem d1_6 : decode method_2_code 6 = .ok (.ifCond .ne 8, 3) := by decide +kernel
theorem d1_9 : decode method_2_code 9 = .ok (.bipush 58, 2) := by decide +kernel
theorem d1_11 : decode method_2_code 11 = .ok (.goto 9, 3) := by decide +kernel
theorem d1_20 : decode method_2_code 20 = .ok (.ireturn, 1) := by decide +kernel
theorem d1_14 : decode method_2_code 14 = .ok (.iload_n 0, 1) := by decide +kernel
theorem d1_15 : decode method_2_code 15 = .ok (.sipush 255, 3) := by decide +kernel
theorem d1_18 : decode method_2_code 18 = .ok (.iand, 1) := by decide +kernel
theorem d1_19 : decode method_2_code 19 = .ok (.i2c, 1) := by decide +kernel
def Q_rmDraw (Z : State) (x0 : Int32) (h0 : Heap) (n0 : Nat) (v : Option Value) (h : Heap) (L : List Loc) : Prop := ∃ r : Int32, v = some (.int r) ∧ Fr n0 L ∧ h = h0 ∧ (¬ r < 0 ∧ ¬ (255 : Int32) < r)
theorem rmDraw (l : Launch) (Z : State) (a0 : Array Value) (hw : ∀ d ∈ tables_1, d.before a0 Z = true) (ws : List Jvm.Cond) (x0 : Int32) (h0 : Heap) (n0 : Nat) (Z0 : n0 ≤ h0.size)  :
    MetN l Z ws (⟨"com/example/entries_to_nodes/entriestonodes/component/ServerAddressToStringPinLaw", "draw", "(I)C"⟩ : MethodName) method_2_code 1 (some .char) ({ frames := 0, cells := 0, slots := 0, locals := 0 } : Room) #[(.int x0)] h0 (Q_rmDraw Z x0 h0 n0) := by
  refine MetN.go (plainFor_of_name pn_76) n0 fun p e s m below meth c s₁ Bd hx hby hml hZ hh hown hnm X0 e0 N0 => ?_
  have hown : s.vm.findClass "com/example/entries_to_nodes/entriestonodes/component/ServerAddressToStringPinLaw" = some m.cls := hown
  refine Go.ent (ef_588 m x0) ?_
  show Go _ _ _ _ s₁ (mkF m 0 #[iv x0] [])
  refine Go.iload1 1 X0 hx (hb hby d1_0) rfl rfl ?_
  refine Go.bipush 3 X0 hx (8 : Int32) (hb hby d1_1) (by decide) rfl ?_
  refine Go.iushr 4 X0 hx (hb hby d1_3) rfl ?_
  refine Go.iconst 5 X0 hx (3 : Int32) (hb hby d1_4) (by decide) rfl ?_
  refine Go.iand 6 X0 hx (hb hby d1_5) rfl ?_
  by_cases hb1 : ((XT.ushr x0 (8 : Int32)) &&& (3 : Int32)) = 0
  · refine Go.ifN 9 X0 hx (hb hby d1_6) (XT.i0_ne_f hb1) rfl ?_
    refine Go.bipush 11 X0 hx (58 : Int32) (hb hby d1_9) (by decide) rfl ?_
    refine Go.goto 20 X0 hx (hb hby d1_11) (by decide) (by decide) ?_
    exact Go.retI X0 hx Bd.notSynchronized Bd.returns rfl (by simp) (hb hby d1_20) (by rw [e0]; exact ⟨(58 : Int32), rfl, N0, rfl, ⟨by decide, by decide⟩⟩) (by decide) (by decide)
  · refine Go.ifY 14 X0 hx (hb hby d1_6) (XT.i0_ne_t hb1) (by decide) (by decide) ?_
    refine Go.iload1 15 X0 hx (hb hby d1_14) rfl rfl ?_
    refine Go.sipush 18 X0 hx (255 : Int32) (hb hby d1_15) (by decide) rfl ?_
    refine Go.iand 19 X0 hx (hb hby d1_18) rfl ?_
    refine Go.i2c 20 X0 hx (hb hby d1_19) rfl ?_
    rw [i2c_mask _]
    show Go _ _ _ _ s₁ (mkF m 20 #[iv x0] [(.int (x0 &&& (255 : Int32)))])
    exact Go.retI X0 hx Bd.notSynchronized Bd.returns (congrArg Value.int (i2c_mask x0)) (by simp) (hb hby d1_20) (by rw [e0]; exact ⟨(x0 &&& (255 : Int32)), rfl, N0, rfl, own_bd rfl⟩) (by decide) (by decide)
theorem ef_602 (m : MethodId) (x0 : Int32) (x1 : Int32) (x2 : Int32) (x3 : Int32) (x4 : Int32) : entryFrame m #[(.int x0), (.int x1), (.int x2), (.int x3), (.int x4)] 19 = mkF m 0 #[iv x0, iv x1, iv x2, iv x3, iv x4, un, un, un, un, un, un, un, un, un, un, un, un, un, un] [] := by (first | (simp [entryFrame, mkF, argsToLocals, Value.category]; done) | rfl)
theorem pd_603 : parseMethodDescriptor "(Ljava/lang/String;[CII)Z" = some ⟨[(.object "java/lang/String"), (.array .char), .int, .int], some .boolean⟩ := by decide +kernel
theorem pd_604 : parseMethodDescriptor "(Ljava/lang/String;I)V" = some ⟨[(.object "java/lang/String"), .int], none⟩ := by decide +kernel
theorem pn_605 : plainName "java/lang/StringUTF16" = true := by first | (simp [plainName, overriddenIn]; done) | decide +kernel
theorem ef_606 (m : MethodId) (x0 : Addr) (x1 : Int32) (x2 : Addr) (x3 : Int32) (x4 : Int32) : entryFrame m #[(.ref x0), (.int x1), (.ref x2), (.int x3), (.int x4)] 7 = mkF m 0 #[rv x0, iv x1, rv x2, iv x3, iv x4, un, un] [] := by (first | (simp [entryFrame, mkF, argsToLocals, Value.category]; done) | rfl)
theorem d6_0 : decode jdk_52_method_21_code 0 = .ok (.iconst 0, 1) := by decide +kernel
theorem d6_1 : decode jdk_52_method_21_code 1 = .ok (.istore 5, 2) := by decide +kernel
theorem d6_3 : decode jdk_52_method_21_code 3 = .ok (.iload 5, 2) := by decide +kernel
theorem d6_5 : decode jdk_52_method_21_code 5 = .ok (.iload 4, 2) := by decide +kernel
theorem d6_7 : decode jdk_52_method_21_code 7 = .ok (.if_icmp .ge 37, 3) := by decide +kernel
theorem d6_10 : decode jdk_52_method_21_code 10 = .ok (.aload_n 0, 1) := by decide +kernel
theorem d6_11 : decode jdk_52_method_21_code 11 = .ok (.iload_n 1, 1) := by decide +kernel
theorem d6_12 : decode jdk_52_method_21_code 12 = .ok (.caload, 1) := by decide +kernel
theorem d6_13 : decode jdk_52_method_21_code 13 = .ok (.istore 6, 2) := by decide +kernel
theorem d6_15 : decode jdk_52_method_21_code 15 = .ok (.iload 6, 2) := by decide +kernel
theorem d6_17 : decode jdk_52_method_21_code 17 = .ok (.sipush 255, 3) := by decide +kernel
theorem d6_20 : decode jdk_52_method_21_code 20 = .ok (.if_icmp .le 6, 3) := by decide +kernel
theorem d6_26 : decode jdk_52_method_21_code 26 = .ok (.aload_n 2, 1) := by decide +kernel
theorem d6_27 : decode jdk_52_method_21_code 27 = .ok (.iload_n 3, 1) := by decide +kernel
theorem d6_28 : decode jdk_52_method_21_code 28 = .ok (.iload 6, 2) := by decide +kernel
theorem d6_30 : decode jdk_52_method_21_code 30 = .ok (.i2b, 1) := by decide +kernel
theorem d6_31 : decode jdk_52_method_21_code 31 = .ok (.bastore, 1) := by decide +kernel
theorem d6_32 : decode jdk_52_method_21_code 32 = .ok (.iinc 1 1, 3) := by decide +kernel
theorem d6_35 : decode jdk_52_method_21_code 35 = .ok (.iinc 3 1, 3) := by decide +kernel
theorem d6_38 : decode jdk_52_method_21_code 38 = .ok (.iinc 5 1, 3) := by decide +kernel
theorem d6_41 : decode jdk_52_method_21_code 41 = .ok (.goto (-38), 3) := by decide +kernel
theorem d6_44 : decode jdk_52_method_21_code 44 = .ok (.iload 4, 2) := by decide +kernel
theorem d6_46 : decode jdk_52_method_21_code 46 = .ok (.ireturn, 1) := by decide +kernel
def Q_rmC5_1 (Z : State) (va : Addr) (da : Addr) (kv : ClassId) (kd : ClassId) (c0 : Int32) (h0 : Heap) (n0 : Nat) (v : Option Value) (h : Heap) (L : List Loc) : Prop := v = some (.int 1) ∧ Fr n0 L ∧ Keep h0 h [da] ∧ Arv Z h da kd .byte (1 : Int32) ([(.int (own_b c0))]) (.int 0)
theorem rmC5_1 (l : Launch) (Z : State) (a0 : Array Value) (hw : ∀ d ∈ tables_1, d.before a0 Z = true) (ws : List Jvm.Cond) (va : Addr) (da : Addr) (kv : ClassId) (kd : ClassId) (c0 : Int32) (h0 : Heap) (n0 : Nat) (Z0 : n0 ≤ h0.size) (V_va : Arv Z h0 va kv .char (1 : Int32) ([(.int c0)]) (.int 0)) (V_da : Arv Z h0 da kd .byte (1 : Int32) ([(.int 0)]) (.int 0)) (g_da : n0 ≤ da) (ne_va_da : va ≠ da) (hc0 : (¬ (255 : Int32) < c0)) :
    MetN l Z ws (⟨"java/lang/StringUTF16", "compress", "([CI[BII)I"⟩ : MethodName) jdk_52_method_21_code 7 (some .int) ({ frames := 0, cells := 0, slots := 0, locals := 0 } : Room) #[(.ref va), (.int 0), (.ref da), (.int 0), (.int 1)] h0 (Q_rmC5_1 Z va da kv kd c0 h0 n0) := by
  refine MetN.go (plainFor_of_name pn_605) n0 fun p e s m below meth c s₁ Bd hx hby hml hZ hh hown hnm X0 e0 N0 => ?_
  have hown : s.vm.findClass "java/lang/StringUTF16" = some m.cls := hown
  refine Go.ent (ef_606 m va (0 : Int32) da (0 : Int32) (1 : Int32)) ?_
  show Go _ _ _ _ s₁ (mkF m 0 #[rv va, iv 0, rv da, iv 0, iv 1, un, un] [])
  refine Go.iconst 1 X0 hx (0 : Int32) (hb hby d6_0) (by decide) rfl ?_
  refine Go.istore2 3 X0 hx (L' := #[rv va, iv 0, rv da, iv 0, iv 1, iv 0, un]) (hb hby d6_1) rfl rfl ?_
  refine Go.iload2 5 X0 hx (hb hby d6_3) rfl rfl ?_
  refine Go.iload2 7 X0 hx (hb hby d6_5) rfl rfl ?_
  refine Go.icmpN 10 X0 hx (hb hby d6_7) (XT.ii_ge_f (by decide)) rfl ?_
  refine Go.aload1 11 X0 hx (hb hby d6_10) rfl rfl rfl ?_
  refine Go.iload1 12 X0 hx (hb hby d6_11) rfl rfl ?_
  obtain ⟨cl1, Ar1, -, S1, M1, H1, -⟩ := id V_va
  have hin1 : ¬ ((0 : Int32) < 0 ∨ cl1.slots.size ≤ (0 : Int32).toNatClampNeg) := inb_of S1 ⟨by decide, by decide⟩
  refine Go.by (fun _ gk => X0.caload hx (j := (0 : Int32)) (v := (.int c0)) (by rw [e0]; exact Ar1.1) (State.isArrayOf_alike hZ.alike Ar1.2.1) Ar1.2.2 hin1 (Has.at H1 hin1 rfl) (g := (mkF m 12 #[rv va, iv 0, rv da, iv 0, iv 1, iv 0, un] [(.int 0), (.ref va)])) rfl rfl (hb hby d6_12) _ gk) ?_
  show Go _ _ _ _ s₁ (mkF m 13 #[rv va, iv 0, rv da, iv 0, iv 1, iv 0, un] [(.int c0)])
  refine Go.istore2 15 X0 hx (L' := #[rv va, iv 0, rv da, iv 0, iv 1, iv 0, iv c0]) (hb hby d6_13) rfl rfl ?_
  refine Go.iload2 17 X0 hx (hb hby d6_15) rfl rfl ?_
  refine Go.sipush 20 X0 hx (255 : Int32) (hb hby d6_17) (by decide) rfl ?_
  refine Go.icmpY 26 X0 hx (hb hby d6_20) (XT.ii_le_t hc0) (by decide) (by decide) ?_
  refine Go.aload1 27 X0 hx (hb hby d6_26) rfl rfl rfl ?_
  refine Go.iload1 28 X0 hx (hb hby d6_27) rfl rfl ?_
  refine Go.iload2 30 X0 hx (hb hby d6_28) rfl rfl ?_
  refine Go.i2b 31 X0 hx (hb hby d6_30) rfl ?_
  obtain ⟨cl2, Ar2, q2, S2, M2, H2, G2⟩ := id V_da
  have hin2 : ¬ ((0 : Int32) < 0 ∨ cl2.slots.size ≤ (0 : Int32).toNatClampNeg) := inb_of S2 ⟨by decide, by decide⟩
  obtain ⟨T2, h2, X2, e2, W2, st2⟩ := stB X0 hx hZ e0 Ar2 (j := (0 : Int32)) hin2 (g := (mkF m 31 #[rv va, iv 0, rv da, iv 0, iv 1, iv 0, iv c0] [(.int (c0.toInt8.toInt32)), (.int 0), (.ref da)])) rfl rfl (hb hby d6_31)
  have N2 := Fr.snoc X2 N0 g_da
  have V2 : Arv Z h2 da kd .byte (1 : Int32) [(.int (nar .byte (c0.toInt8.toInt32)))] (.int 0) := Arv.set Ar2 q2 S2 M2 H2 G2 (fits_nar_byte _) W2 0 rfl (Nat.le_of_ble_eq_true rfl)
  refine Go.by st2 ?_
  show Go _ _ _ _ T2 (mkF m 32 #[rv va, iv 0, rv da, iv 0, iv 1, iv 0, iv c0] [])
  rw [own_bn] at V2
  refine Go.iinc 35 X2 hx (1 : Int32) (L' := #[rv va, iv 1, rv da, iv 0, iv 1, iv 0, iv c0]) (hb hby d6_32) (by decide) rfl rfl rfl ?_
  refine Go.iinc 38 X2 hx (1 : Int32) (L' := #[rv va, iv 1, rv da, iv 1, iv 1, iv 0, iv c0]) (hb hby d6_35) (by decide) rfl rfl rfl ?_
  refine Go.iinc 41 X2 hx (1 : Int32) (L' := #[rv va, iv 1, rv da, iv 1, iv 1, iv 1, iv c0]) (hb hby d6_38) (by decide) rfl rfl rfl ?_
  refine Go.goto 3 X2 hx (hb hby d6_41) (by decide) (by decide) ?_
  refine Go.iload2 5 X2 hx (hb hby d6_3) rfl rfl ?_
  refine Go.iload2 7 X2 hx (hb hby d6_5) rfl rfl ?_
  refine Go.icmpY 44 X2 hx (hb hby d6_7) (XT.ii_ge_t (by decide)) (by decide) (by decide) ?_
  refine Go.iload2 46 X2 hx (hb hby d6_44) rfl rfl ?_
  have F3 : Keep h0 h2 [da] := (Keep.refl h0 [da]).wr W2 (Or.inl (List.mem_of_getElem? (i := 0) rfl))
  exact Go.retI X2 hx Bd.notSynchronized Bd.returns rfl (by simp) (hb hby d6_46) (by rw [e2]; exact ⟨rfl, N2, F3, V2⟩) (by decide) (by decide)
theorem ef_630 (m : MethodId) (x0 : Addr) (x1 : Int32) (x2 : Int32) : entryFrame m #[(.ref x0), (.int x1), (.int x2)] 6 = mkF m 0 #[rv x0, iv x1, iv x2, un, un, un] [] := by (first | (simp [entryFrame, mkF, argsToLocals, Value.category]; done) | rfl)
theorem d5_0 : decode jdk_52_method_16_code 0 = .ok (.iload_n 2, 1) := by decide +kernel
theorem d5_1 : decode jdk_52_method_16_code 1 = .ok (.newarray .byte, 2) := by decide +kernel
theorem d5_3 : decode jdk_52_method_16_code 3 = .ok (.astore_n 3, 1) := by decide +kernel
theorem d5_4 : decode jdk_52_method_16_code 4 = .ok (.aload_n 0, 1) := by decide +kernel
theorem d5_5 : decode jdk_52_method_16_code 5 = .ok (.iload_n 1, 1) := by decide +kernel
theorem d5_6 : decode jdk_52_method_16_code 6 = .ok (.aload_n 3, 1) := by decide +kernel
theorem d5_7 : decode jdk_52_method_16_code 7 = .ok (.iconst 0, 1) := by decide +kernel
theorem d5_8 : decode jdk_52_method_16_code 8 = .ok (.iload_n 2, 1) := by decide +kernel
theorem pd_639 : parseMethodDescriptor "([CI[BII)I" = some ⟨[(.array .char), .int, (.array .byte), .int, .int], some .int⟩ := by decide +kernel
theorem d5_9 : decode jdk_52_method_16_code 9 = .ok (.invokestatic 115, 3) := by decide +kernel
theorem d5_12 : decode jdk_52_method_16_code 12 = .ok (.istore 4, 2) := by decide +kernel
theorem d5_14 : decode jdk_52_method_16_code 14 = .ok (.iload 4, 2) := by decide +kernel
theorem d5_16 : decode jdk_52_method_16_code 16 = .ok (.iload_n 2, 1) := by decide +kernel
theorem d5_17 : decode jdk_52_method_16_code 17 = .ok (.if_icmp .eq 40, 3) := by decide +kernel
theorem d5_57 : decode jdk_52_method_16_code 57 = .ok (.aload_n 3, 1) := by decide +kernel
theorem d5_58 : decode jdk_52_method_16_code 58 = .ok (.areturn, 1) := by decide +kernel
def Q_rmC3_1 (Z : State) (va : Addr) (kv : ClassId) (c0 : Int32) (h0 : Heap) (n0 : Nat) (v : Option Value) (h : Heap) (L : List Loc) : Prop := ∃ da : Addr, ∃ kd : ClassId, v = some (.ref da) ∧ Fr n0 L ∧ Keep h0 h [] ∧ Arv Z h da kd .byte (1 : Int32) ([(.int (own_b c0))]) (.int 0) ∧ h0.size ≤ da
theorem rmC3_1 (l : Launch) (Z : State) (a0 : Array Value) (hw : ∀ d ∈ tables_1, d.before a0 Z = true) (ws : List Jvm.Cond) (va : Addr) (kv : ClassId) (c0 : Int32) (h0 : Heap) (n0 : Nat) (Z0 : n0 ≤ h0.size) (V_va : Arv Z h0 va kv .char (1 : Int32) ([(.int c0)]) (.int 0)) (hc0 : (¬ (255 : Int32) < c0)) :
    MetN l Z ws (⟨"java/lang/StringUTF16", "compress", "([CII)[B"⟩ : MethodName) jdk_52_method_16_code 6 (some (.array .byte)) ({ frames := 1, cells := 1, slots := 1, locals := 18 } : Room) #[(.ref va), (.int 0), (.int 1)] h0 (Q_rmC3_1 Z va kv c0 h0 n0) := by
  refine MetN.go (plainFor_of_name pn_605) n0 fun p e s m below meth c s₁ Bd hx hby hml hZ hh hown hnm X0 e0 N0 => ?_
  have hown : s.vm.findClass "java/lang/StringUTF16" = some m.cls := hown
  refine Go.ent (ef_630 m va (0 : Int32) (1 : Int32)) ?_
  show Go _ _ _ _ s₁ (mkF m 0 #[rv va, iv 0, iv 1, un, un, un] [])
  refine Go.iload1 1 X0 hx (hb hby d5_0) rfl rfl ?_
  obtain ⟨da, g1⟩ : ∃ z, z = h0.size := ⟨_, rfl⟩
  have ge_da : n0 ≤ da := Nat.le_trans Z0 (Nat.le_of_eq g1.symm)
  have sz_da : h0.size ≤ da := Nat.le_trans (Keep.refl h0 []).1 (Nat.le_of_eq g1.symm)
  have ne_va_da : va ≠ da := Nat.ne_of_lt (Nat.lt_of_lt_of_le V_va.lt (Nat.le_of_eq g1.symm))
  obtain ⟨T1, h1, k1, X1, e1, E1, A1, Ea1, st1⟩ := newPE X0 hx hZ (ow hw 24 rfl) e0 (g := (mkF m 1 #[rv va, iv 0, iv 1, un, un, un] [(.int 1)])) rfl (hb hby d5_1) rfl (by decide) (cap := 1) (by decide) (by decide) (by decide) (by decide) (ad := "[B") rfl
  rw [← g1] at A1 Ea1 st1
  have V_da : Arv Z h1 da k1 .byte (1 : Int32) [(.int 0)] (.int 0) := (Arv.new A1 (by decide)).pad (pad_rep [] (.int 0) 1)
  refine Go.by st1 ?_
  show Go _ _ _ _ T1 (mkF m 3 #[rv va, iv 0, iv 1, un, un, un] [(.ref da)])
  refine Go.astore1 4 X1 hx (L' := #[rv va, iv 0, iv 1, rv da, un, un]) (hb hby d5_3) rfl rfl rfl ?_
  refine Go.aload1 5 X1 hx (hb hby d5_4) rfl rfl rfl ?_
  refine Go.iload1 6 X1 hx (hb hby d5_5) rfl rfl ?_
  refine Go.aload1 7 X1 hx (hb hby d5_6) rfl rfl rfl ?_
  refine Go.iconst 8 X1 hx (0 : Int32) (hb hby d5_7) (by decide) rfl ?_
  refine Go.iload1 9 X1 hx (hb hby d5_8) rfl rfl ?_
  have F2 : Arv Z h1 va kv .char (1 : Int32) [(.int c0)] (.int 0) := V_va.ext E1
  have F3 : n0 ≤ h1.size := Nat.le_trans Z0 E1.1
  obtain ⟨_, _, ⟨T4, L4, k4, n4⟩, -, X4, ⟨Lc4, hQ4, l4, y4, z4⟩, st4⟩ := Jvm.LawKit.callS X1 hx (y := (⟨"java/lang/StringUTF16", "compress", "([CI[BII)I"⟩ : MethodName)) hown (mvT hZ (ow hw 25 rfl)) (mvT hZ (ow hw 26 rfl)) (mvT hZ (ow hw 22 rfl)) (mvT hZ (ow hw 27 rfl)) (by decide) (backOf (W := 0) (rmC5_1 l Z a0 hw [] va da kv k1 c0 h1 n0 F3 F2 V_da ge_da ne_va_da hc0) hZ (ow hw 27 rfl) (ow hw 22 rfl) (by decide) (by decide)) (g := (mkF m 9 #[rv va, iv 0, iv 1, rv da, un, un] [(.int 1), (.int 0), (.ref da), (.int 0), (.ref va)])) rfl (by rw [hml]; rfl) (argsL := [(.ref va), (.int 0), (.ref da), (.int 0), (.int 1)]) (rest := []) (lenOf pd_639 rfl) rfl (by show 2 * 0 + _ ≤ _; exact Nat.le_of_eq rfl) (hb hby d5_9) (fun _ _ => ⟨rfl, e1, (by decide : 1 + 0 ≤ _), (by decide : 1 + 0 ≤ _)⟩)
  dsimp only [Pt.U, Pt.locs, Pt.cells, Pt.slots] at X4 l4 y4 z4 st4 hQ4
  subst l4 y4 z4
  obtain ⟨rfl, N4q, K4, Q4_0⟩ := hQ4
  have N4 := Fr.app N0 N4q
  refine Go.by st4 ?_
  show Go _ _ _ _ T4 (mkF m 12 #[rv va, iv 0, iv 1, rv da, un, un] [(.int 1)])
  refine Go.istore2 14 X4 hx (L' := #[rv va, iv 0, iv 1, rv da, iv 1, un]) (hb hby d5_12) rfl rfl ?_
  refine Go.iload2 16 X4 hx (hb hby d5_14) rfl rfl ?_
  refine Go.iload1 17 X4 hx (hb hby d5_16) rfl rfl ?_
  refine Go.icmpY 57 X4 hx (hb hby d5_17) (XT.ii_eq_t rfl) (by decide) (by decide) ?_
  refine Go.aload1 58 X4 hx (hb hby d5_57) rfl rfl rfl ?_
  have F5 : Keep h0 h1 [] := (Keep.refl h0 []).ext E1
  have F6 : Keep h0 T4.heap [] := F5.trans K4 (allS (Or.inr sz_da) all0)
  exact Go.retA X4 hx Bd.notSynchronized Bd.returns rfl rfl (hb hby d5_58) ⟨da, k1, rfl, N4, F6, Q4_0, sz_da⟩ (by decide) (by decide)
theorem d7_0 : decode jdk_52_method_15_code 0 = .ok (.iload_n 1, 1) := by decide +kernel
theorem d7_1 : decode jdk_52_method_15_code 1 = .ok (.aload_n 0, 1) := by decide +kernel
theorem d7_2 : decode jdk_52_method_15_code 2 = .ok (.arraylength, 1) := by decide +kernel
theorem d7_3 : decode jdk_52_method_15_code 3 = .ok (.isub, 1) := by decide +kernel
theorem d7_4 : decode jdk_52_method_15_code 4 = .ok (.bipush 31, 2) := by decide +kernel
theorem d7_6 : decode jdk_52_method_15_code 6 = .ok (.iushr, 1) := by decide +kernel
theorem d7_7 : decode jdk_52_method_15_code 7 = .ok (.i2b, 1) := by decide +kernel
theorem d7_8 : decode jdk_52_method_15_code 8 = .ok (.ireturn, 1) := by decide +kernel
def Q_rmCoder_1 (Z : State) (da : Addr) (kd : ClassId) (vs : List Value) (h0 : Heap) (n0 : Nat) (v : Option Value) (h : Heap) (L : List Loc) : Prop := v = some (.int 0) ∧ Fr n0 L ∧ h = h0
theorem rmCoder_1 (l : Launch) (Z : State) (a0 : Array Value) (hw : ∀ d ∈ tables_1, d.before a0 Z = true) (ws : List Jvm.Cond) (da : Addr) (kd : ClassId) (vs : List Value) (h0 : Heap) (n0 : Nat) (Z0 : n0 ≤ h0.size) (V_da : Arv Z h0 da kd .byte (1 : Int32) vs (.int 0)) :
    MetN l Z ws (⟨"java/lang/StringUTF16", "coderFromArrayLen", "([BI)B"⟩ : MethodName) jdk_52_method_15_code 2 (some .byte) ({ frames := 0, cells := 0, slots := 0, locals := 0 } : Room) #[(.ref da), (.int 1)] h0 (Q_rmCoder_1 Z da kd vs h0 n0) := by
  refine MetN.go (plainFor_of_name pn_605) n0 fun p e s m below meth c s₁ Bd hx hby hml hZ hh hown hnm X0 e0 N0 => ?_
  have hown : s.vm.findClass "java/lang/StringUTF16" = some m.cls := hown
  refine Go.ent (ef_53 m da (1 : Int32)) ?_
  show Go _ _ _ _ s₁ (mkF m 0 #[rv da, iv 1] [])
  refine Go.iload1 1 X0 hx (hb hby d7_0) rfl rfl ?_
  refine Go.aload1 2 X0 hx (hb hby d7_1) rfl rfl rfl ?_
  obtain ⟨cl1, Ar1, -, S1, M1, -, -⟩ := id V_da
  refine Go.by (fun _ gk => X0.arraylength hx (by rw [e0]; exact Ar1.1) (State.isArrayOf_alike hZ.alike Ar1.2.1) (g := (mkF m 2 #[rv da, iv 1] [(.ref da), (.int 1)])) rfl rfl (hb hby d7_2) _ gk) ?_
  rw [len_of S1 M1]
  show Go _ _ _ _ s₁ (mkF m 3 #[rv da, iv 1] [(.int 1), (.int 1)])
  refine Go.isub 4 X0 hx (hb hby d7_3) rfl ?_
  rw [(by decide : ((1 : Int32) - (1 : Int32)) = (0 : Int32))]
  refine Go.bipush 6 X0 hx (31 : Int32) (hb hby d7_4) (by decide) rfl ?_
  refine Go.iushr 7 X0 hx (hb hby d7_6) rfl ?_
  rw [(by decide : (XT.ushr (0 : Int32) (31 : Int32)) = (0 : Int32))]
  refine Go.i2b 8 X0 hx (hb hby d7_7) rfl ?_
  rw [(by decide : ((0 : Int32).toInt8.toInt32) = (0 : Int32))]
  exact Go.retI X0 hx Bd.notSynchronized Bd.returns rfl (by simp) (hb hby d7_8) (by rw [e0]; exact ⟨rfl, N0, rfl⟩) (by decide) (by decide)
theorem ef_655 (m : MethodId) (x0 : Addr) (x1 : Addr) (x2 : Int32) (x3 : Int32) : entryFrame m #[(.ref x0), (.ref x1), (.int x2), (.int x3), .null] 6 = mkF m 0 #[rv x0, rv x1, iv x2, iv x3, .val .null, un] [] := by (first | (simp [entryFrame, mkF, argsToLocals, Value.category]; done) | rfl)
theorem d3_0 : decode jdk_42_method_149_code 0 = .ok (.aload_n 0, 1) := by decide +kernel
theorem d3_1 : decode jdk_42_method_149_code 1 = .ok (.invokespecial 1, 3) := by decide +kernel
theorem d3_4 : decode jdk_42_method_149_code 4 = .ok (.iload_n 3, 1) := by decide +kernel
theorem d3_5 : decode jdk_42_method_149_code 5 = .ok (.ifCond .ne 22, 3) := by decide +kernel
theorem d3_27 : decode jdk_42_method_149_code 27 = .ok (.getstatic 38, 3) := by decide +kernel
theorem d3_30 : decode jdk_42_method_149_code 30 = .ok (.ifCond .eq 28, 3) := by decide +kernel
theorem d3_33 : decode jdk_42_method_149_code 33 = .ok (.aload_n 1, 1) := by decide +kernel
theorem d3_34 : decode jdk_42_method_149_code 34 = .ok (.iload_n 2, 1) := by decide +kernel
theorem d3_35 : decode jdk_42_method_149_code 35 = .ok (.iload_n 3, 1) := by decide +kernel
theorem pd_665 : parseMethodDescriptor "([CII)[B" = some ⟨[(.array .char), .int, .int], some (.array .byte)⟩ := by decide +kernel
theorem d3_36 : decode jdk_42_method_149_code 36 = .ok (.invokestatic 177, 3) := by decide +kernel
theorem d3_39 : decode jdk_42_method_149_code 39 = .ok (.astore 5, 2) := by decide +kernel
theorem d3_41 : decode jdk_42_method_149_code 41 = .ok (.aload_n 0, 1) := by decide +kernel
theorem d3_42 : decode jdk_42_method_149_code 42 = .ok (.aload 5, 2) := by decide +kernel
theorem d3_44 : decode jdk_42_method_149_code 44 = .ok (.iload_n 3, 1) := by decide +kernel
theorem pd_671 : parseMethodDescriptor "([BI)B" = some ⟨[(.array .byte), .int], some .byte⟩ := by decide +kernel
theorem d3_45 : decode jdk_42_method_149_code 45 = .ok (.invokestatic 47, 3) := by decide +kernel
theorem d3_48 : decode jdk_42_method_149_code 48 = .ok (.putfield 15, 3) := by decide +kernel
theorem d3_51 : decode jdk_42_method_149_code 51 = .ok (.aload_n 0, 1) := by decide +kernel
theorem d3_52 : decode jdk_42_method_149_code 52 = .ok (.aload 5, 2) := by decide +kernel
theorem d3_54 : decode jdk_42_method_149_code 54 = .ok (.putfield 9, 3) := by decide +kernel
theorem d3_57 : decode jdk_42_method_149_code 57 = .ok (.return_, 1) := by decide +kernel
def Q_rmS4_1 (Z : State) (a : Addr) (va : Addr) (kv : ClassId) (c0 : Int32) (cs : Int32) (h0 : Heap) (n0 : Nat) (v : Option Value) (h : Heap) (L : List Loc) : Prop := ∃ b : Addr, ∃ kb : ClassId, v = none ∧ Fr n0 L ∧ Keep h0 h [a] ∧ Exa Z h a "java/lang/String" ∧ Fld Z h a "java/lang/String" "coder" "B" (.int 0) ∧ Fld Z h a "java/lang/String" "value" "[B" (.ref b) ∧ Arv Z h b kb .byte (1 : Int32) ([(.int (own_b c0))]) (.int 0) ∧ h0.size ≤ b
theorem rmS4_1 (l : Launch) (Z : State) (a0 : Array Value) (hw : ∀ d ∈ tables_1, d.before a0 Z = true) (ws : List Jvm.Cond) (a : Addr) (va : Addr) (kv : ClassId) (c0 : Int32) (cs : Int32) (h0 : Heap) (n0 : Nat) (Z0 : n0 ≤ h0.size) (O0 : Old Z n0 h0) (E_a : Exa Z h0 a "java/lang/String") (F_a_value : Fld Z h0 a "java/lang/String" "value" "[B" .null) (F_a_coder : Fld Z h0 a "java/lang/String" "coder" "B" (.int 0)) (g_a : n0 ≤ a) (V_va : Arv Z h0 va kv .char (1 : Int32) ([(.int c0)]) (.int 0)) (hc0 : (¬ (255 : Int32) < c0)) (S_cs : Sta Z Z.heap "java/lang/String" "COMPACT_STRINGS" "Z" (.int cs)) (n_cs : ¬ cs = 0) :
    MetN l Z ws (⟨"java/lang/String", "<init>", "([CIILjava/lang/Void;)V"⟩ : MethodName) jdk_42_method_149_code 6 none ({ frames := 2, cells := 1, slots := 1, locals := 35 } : Room) #[(.ref a), (.ref va), (.int 0), (.int 1), .null] h0 (Q_rmS4_1 Z a va kv c0 cs h0 n0) := by
  refine MetN.go (plainFor_of_name pn_3) n0 fun p e s m below meth c s₁ Bd hx hby hml hZ hh hown hnm X0 e0 N0 => ?_
  have hown : s.vm.findClass "java/lang/String" = some m.cls := hown
  refine Go.ent (ef_655 m a va (0 : Int32) (1 : Int32)) ?_
  show Go _ _ _ _ s₁ (mkF m 0 #[rv a, rv va, iv 0, iv 1, .val .null, un] [])
  refine Go.aload1 1 X0 hx (hb hby d3_0) rfl rfl rfl ?_
  obtain ⟨T1, X1, e1, st1⟩ := initO X0 hx hZ hown (ow hw 16 rfl) (ow hw 17 rfl) (ow hw 18 rfl) e0 (g := (mkF m 1 #[rv a, rv va, iv 0, iv 1, .val .null, un] [(.ref a)])) rfl (by rw [hml]; rfl) rfl (hb hby d3_1) (by decide) (W := 0) (by show 2 * 0 + _ ≤ _; exact Nat.le_of_eq rfl) (by decide)
  refine Go.by st1 ?_
  show Go _ _ _ _ T1 (mkF m 4 #[rv a, rv va, iv 0, iv 1, .val .null, un] [])
  refine Go.iload1 5 X1 hx (hb hby d3_4) rfl rfl ?_
  refine Go.ifY 27 X1 hx (hb hby d3_5) (XT.i0_ne_t (by decide)) (by decide) (by decide) ?_
  have F2 : Sta Z h0 "java/lang/String" "COMPACT_STRINGS" "Z" (.int cs) := S_cs.ext O0.2
  obtain ⟨T3, X3, e3, st3⟩ := getS2 X1 hx hZ hown (host := "") (Or.inl (ow hw 19 rfl)) Via.refl e1 F2 (g := (mkF m 27 #[rv a, rv va, iv 0, iv 1, .val .null, un] [])) rfl (hb hby d3_27)
  refine Go.by st3 ?_
  show Go _ _ _ _ T3 (mkF m 30 #[rv a, rv va, iv 0, iv 1, .val .null, un] [(.int cs)])
  refine Go.ifN 33 X3 hx (hb hby d3_30) (XT.i0_eq_f n_cs) rfl ?_
  refine Go.aload1 34 X3 hx (hb hby d3_33) rfl rfl rfl ?_
  refine Go.iload1 35 X3 hx (hb hby d3_34) rfl rfl ?_
  refine Go.iload1 36 X3 hx (hb hby d3_35) rfl rfl ?_
  obtain ⟨_, _, ⟨T4, L4, k4, n4⟩, -, X4, ⟨Lc4, hQ4, l4, y4, z4⟩, st4⟩ := Jvm.LawKit.callS X3 hx (y := (⟨"java/lang/StringUTF16", "compress", "([CII)[B"⟩ : MethodName)) hown (mvT hZ (ow hw 20 rfl)) (mvT hZ (ow hw 21 rfl)) (mvT hZ (ow hw 22 rfl)) (mvT hZ (ow hw 23 rfl)) (by decide) (backOf (W := 0) (rmC3_1 l Z a0 hw [] va kv c0 h0 n0 Z0 V_va hc0) hZ (ow hw 23 rfl) (ow hw 22 rfl) (by decide) (by decide)) (g := (mkF m 36 #[rv a, rv va, iv 0, iv 1, .val .null, un] [(.int 1), (.int 0), (.ref va)])) rfl (by rw [hml]; rfl) (argsL := [(.ref va), (.int 0), (.int 1)]) (rest := []) (lenOf pd_665 rfl) rfl (by show 2 * 0 + _ ≤ _; exact Nat.le_of_eq rfl) (hb hby d3_36) (fun _ _ => ⟨rfl, e3, (by decide : 0 + 1 ≤ _), (by decide : 0 + 1 ≤ _)⟩)
  dsimp only [Pt.U, Pt.locs, Pt.cells, Pt.slots] at X4 l4 y4 z4 st4 hQ4
  subst l4 y4 z4
  obtain ⟨b, kb, rfl, N4q, K4, Q4_0, Q4_1⟩ := hQ4
  have N4 := Fr.app N0 N4q
  refine Go.by st4 ?_
  show Go _ _ _ _ T4 (mkF m 39 #[rv a, rv va, iv 0, iv 1, .val .null, un] [(.ref b)])
  have ge_b : n0 ≤ b := Nat.le_trans Z0 Q4_1
  have sz_b : h0.size ≤ b := Nat.le_trans (Keep.refl h0 [a]).1 Q4_1
  have ne_a_b : a ≠ b := Nat.ne_of_lt (Nat.lt_of_lt_of_le E_a.lt Q4_1)
  have ne_va_b : va ≠ b := Nat.ne_of_lt (Nat.lt_of_lt_of_le V_va.lt Q4_1)
  refine Go.astore2 41 X4 hx (L' := #[rv a, rv va, iv 0, iv 1, .val .null, rv b]) (hb hby d3_39) rfl rfl rfl ?_
  refine Go.aload1 42 X4 hx (hb hby d3_41) rfl rfl rfl ?_
  refine Go.aload2 44 X4 hx (hb hby d3_42) rfl rfl rfl ?_
  refine Go.iload1 45 X4 hx (hb hby d3_44) rfl rfl ?_
  have F5 : n0 ≤ T4.heap.size := Nat.le_trans Z0 K4.1
  obtain ⟨_, _, ⟨T6, L6, k6, n6⟩, -, X6, ⟨Lc6, hQ6, l6, y6, z6⟩, st6⟩ := Jvm.LawKit.callS X4 hx (y := (⟨"java/lang/StringUTF16", "coderFromArrayLen", "([BI)B"⟩ : MethodName)) hown (mvT hZ (ow hw 28 rfl)) (mvT hZ (ow hw 29 rfl)) (mvT hZ (ow hw 22 rfl)) (mvT hZ (ow hw 30 rfl)) (by decide) (backOf (W := 1) (rmCoder_1 l Z a0 hw [] b kb ([(.int (own_b c0))]) T4.heap n0 F5 Q4_0) hZ (ow hw 30 rfl) (ow hw 22 rfl) (by decide) (by decide)) (g := (mkF m 45 #[rv a, rv va, iv 0, iv 1, .val .null, rv b] [(.int 1), (.ref b), (.ref a)])) rfl (by rw [hml]; rfl) (argsL := [(.ref b), (.int 1)]) (rest := [(.ref a)]) (lenOf pd_671 rfl) rfl (by show 2 * 0 + _ ≤ _; exact Nat.le_of_eq rfl) (hb hby d3_45) (fun _ _ => ⟨rfl, rfl, (by decide : 1 + 0 ≤ _), (by decide : 1 + 0 ≤ _)⟩)
  dsimp only [Pt.U, Pt.locs, Pt.cells, Pt.slots] at X6 l6 y6 z6 st6 hQ6
  subst l6 y6 z6
  obtain ⟨rfl, N6q, e6⟩ := hQ6
  have N6 := Fr.app N4 N6q
  refine Go.by st6 ?_
  show Go _ _ _ _ T6 (mkF m 48 #[rv a, rv va, iv 0, iv 1, .val .null, rv b] [(.int 0), (.ref a)])
  have F7 : Fld Z T4.heap a "java/lang/String" "coder" "B" (.int 0) := F_a_coder.keep K4 nin0
  have F8 : Exa Z T4.heap a "java/lang/String" := E_a.keep K4
  obtain ⟨T9, h9, X9, e9, W9, st9⟩ := putFN X6 hx hZ hown (ow hw 31 rfl) Via.refl e6 F7 F8 (Or.inr ⟨(ow hw 32 rfl), rfl, hnm⟩) (ow hw 7 rfl) (ty := .byte) (v' := (.int 0)) (by decide) rfl rfl (g := (mkF m 48 #[rv a, rv va, iv 0, iv 1, .val .null, rv b] [(.int 0), (.ref a)])) rfl rfl (hb hby d3_48)
  have N9 := Fr.snoc X9 N6 g_a
  have Fw9 : Fld Z h9 a "java/lang/String" "coder" "B" (.int 0) := F7.same W9
  refine Go.by st9 ?_
  show Go _ _ _ _ T9 (mkF m 51 #[rv a, rv va, iv 0, iv 1, .val .null, rv b] [])
  refine Go.aload1 52 X9 hx (hb hby d3_51) rfl rfl rfl ?_
  refine Go.aload2 54 X9 hx (hb hby d3_52) rfl rfl rfl ?_
  have F10 : Fld Z T4.heap a "java/lang/String" "value" "[B" .null := F_a_value.keep K4 nin0
  have F11 : Fld Z h9 a "java/lang/String" "value" "[B" .null := F10.other W9 (Or.inr (slot_ne (Or.inr (ow hw 34 rfl)) (Or.inr (ow hw 32 rfl)) (by decide) (t := (.array .byte)) (t' := .byte) (by decide) (by decide)))
  have F12 : Exa Z h9 a "java/lang/String" := F8.wr W9
  obtain ⟨T13, h13, X13, e13, W13, st13⟩ := putF X9 hx hZ hown (host := "") (Or.inl (ow hw 33 rfl)) Via.refl e9 F11 F12 (Or.inr ⟨(ow hw 34 rfl), rfl, hnm⟩) (ow hw 7 rfl) (ty := (.array .byte)) (by decide) rfl rfl (g := (mkF m 54 #[rv a, rv va, iv 0, iv 1, .val .null, rv b] [(.ref b), (.ref a)])) rfl rfl (hb hby d3_54)
  have N13 := Fr.snoc X13 N9 g_a
  have Fw13 : Fld Z h13 a "java/lang/String" "value" "[B" (.ref b) := F11.same W13
  refine Go.by st13 ?_
  show Go _ _ _ _ T13 (mkF m 57 #[rv a, rv va, iv 0, iv 1, .val .null, rv b] [])
  have F14 : Keep h0 T4.heap [a] := (Keep.refl h0 [a]).trans K4 all0
  have F15 : Keep h0 h9 [a] := F14.wr W9 (Or.inl (List.mem_of_getElem? (i := 0) rfl))
  have F16 : Keep h0 h13 [a] := F15.wr W13 (Or.inl (List.mem_of_getElem? (i := 0) rfl))
  have F17 : Exa Z h13 a "java/lang/String" := F12.wr W13
  have F18 : Fld Z h13 a "java/lang/String" "coder" "B" (.int 0) := Fw9.other W13 (Or.inr (slot_ne (Or.inr (ow hw 32 rfl)) (Or.inr (ow hw 34 rfl)) (by decide) (t := .byte) (t' := (.array .byte)) (by decide) (by decide)))
  have F19 : Arv Z h9 b kb .byte (1 : Int32) [(.int (own_b c0))] (.int 0) := Q4_0.other W9 (Ne.symm ne_a_b)
  have F20 : Arv Z h13 b kb .byte (1 : Int32) [(.int (own_b c0))] (.int 0) := F19.other W13 (Ne.symm ne_a_b)
  exact Go.retV X13 hx Bd.notSynchronized Bd.returns (hb hby d3_57) (by rw [e13]; exact ⟨b, kb, rfl, N13, F16, F17, F18, Fw13, F20, sz_b⟩) (by decide) (by decide)
theorem d2_0 : decode jdk_42_method_3_code 0 = .ok (.aload_n 0, 1) := by decide +kernel
theorem d2_1 : decode jdk_42_method_3_code 1 = .ok (.aload_n 1, 1) := by decide +kernel
theorem d2_2 : decode jdk_42_method_3_code 2 = .ok (.iconst 0, 1) := by decide +kernel
theorem d2_3 : decode jdk_42_method_3_code 3 = .ok (.aload_n 1, 1) := by decide +kernel
theorem d2_4 : decode jdk_42_method_3_code 4 = .ok (.arraylength, 1) := by decide +kernel
theorem d2_5 : decode jdk_42_method_3_code 5 = .ok (.aconst_null, 1) := by decide +kernel
theorem pd_684 : parseMethodDescriptor "([CIILjava/lang/Void;)V" = some ⟨[(.array .char), .int, .int, (.object "java/lang/Void")], none⟩ := by decide +kernel
theorem d2_6 : decode jdk_42_method_3_code 6 = .ok (.invokespecial 27, 3) := by decide +kernel
theorem d2_9 : decode jdk_42_method_3_code 9 = .ok (.return_, 1) := by decide +kernel
def Q_rmS1_1 (Z : State) (a : Addr) (va : Addr) (kv : ClassId) (c0 : Int32) (cs : Int32) (h0 : Heap) (n0 : Nat) (v : Option Value) (h : Heap) (L : List Loc) : Prop := ∃ b : Addr, ∃ kb : ClassId, v = none ∧ Fr n0 L ∧ Keep h0 h [a] ∧ Exa Z h a "java/lang/String" ∧ Fld Z h a "java/lang/String" "coder" "B" (.int 0) ∧ Fld Z h a "java/lang/String" "value" "[B" (.ref b) ∧ Arv Z h b kb .byte (1 : Int32) ([(.int (own_b c0))]) (.int 0) ∧ h0.size ≤ b
theorem rmS1_1 (l : Launch) (Z : State) (a0 : Array Value) (hw : ∀ d ∈ tables_1, d.before a0 Z = true) (ws : List Jvm.Cond) (a : Addr) (va : Addr) (kv : ClassId) (c0 : Int32) (cs : Int32) (h0 : Heap) (n0 : Nat) (Z0 : n0 ≤ h0.size) (O0 : Old Z n0 h0) (E_a : Exa Z h0 a "java/lang/String") (F_a_value : Fld Z h0 a "java/lang/String" "value" "[B" .null) (F_a_coder : Fld Z h0 a "java/lang/String" "coder" "B" (.int 0)) (g_a : n0 ≤ a) (V_va : Arv Z h0 va kv .char (1 : Int32) ([(.int c0)]) (.int 0)) (hc0 : (¬ (255 : Int32) < c0)) (S_cs : Sta Z Z.heap "java/lang/String" "COMPACT_STRINGS" "Z" (.int cs)) (n_cs : ¬ cs = 0) :
    MetN l Z ws (⟨"java/lang/String", "<init>", "([C)V"⟩ : MethodName) jdk_42_method_3_code 2 none ({ frames := 3, cells := 1, slots := 1, locals := 52 } : Room) #[(.ref a), (.ref va)] h0 (Q_rmS1_1 Z a va kv c0 cs h0 n0) := by
  refine MetN.go (plainFor_of_name pn_3) n0 fun p e s m below meth c s₁ Bd hx hby hml hZ hh hown hnm X0 e0 N0 => ?_
  have hown : s.vm.findClass "java/lang/String" = some m.cls := hown
  refine Go.ent (ef_125 m a va) ?_
  show Go _ _ _ _ s₁ (mkF m 0 #[rv a, rv va] [])
  refine Go.aload1 1 X0 hx (hb hby d2_0) rfl rfl rfl ?_
  refine Go.aload1 2 X0 hx (hb hby d2_1) rfl rfl rfl ?_
  refine Go.iconst 3 X0 hx (0 : Int32) (hb hby d2_2) (by decide) rfl ?_
  refine Go.aload1 4 X0 hx (hb hby d2_3) rfl rfl rfl ?_
  obtain ⟨cl1, Ar1, -, S1, M1, -, -⟩ := id V_va
  refine Go.by (fun _ gk => X0.arraylength hx (by rw [e0]; exact Ar1.1) (State.isArrayOf_alike hZ.alike Ar1.2.1) (g := (mkF m 4 #[rv a, rv va] [(.ref va), (.int 0), (.ref va), (.ref a)])) rfl rfl (hb hby d2_4) _ gk) ?_
  rw [len_of S1 M1]
  show Go _ _ _ _ s₁ (mkF m 5 #[rv a, rv va] [(.int 1), (.int 0), (.ref va), (.ref a)])
  refine Go.aconst_null 6 X0 hx (hb hby d2_5) rfl ?_
  obtain ⟨_, _, ⟨T2, L2, k2, n2⟩, -, X2, ⟨Lc2, hQ2, l2, y2, z2⟩, st2⟩ := X0.specialBack hx (y := (⟨"java/lang/String", "<init>", "([CIILjava/lang/Void;)V"⟩ : MethodName)) rfl hown (mvT hZ (ow hw 12 rfl)) (mvT hZ (ow hw 13 rfl)) (mvT hZ (ow hw 15 rfl)) (by decide) (backOf (W := 0) (rmS4_1 l Z a0 hw [] a va kv c0 cs h0 n0 Z0 O0 E_a F_a_value F_a_coder g_a V_va hc0 S_cs n_cs) hZ (ow hw 15 rfl) (ow hw 8 rfl) (by decide) (by decide)) (g := (mkF m 6 #[rv a, rv va] [.null, (.int 1), (.int 0), (.ref va), (.ref a)])) rfl (by rw [hml]; rfl) (Steps.refl _) (a := a) (argsL := [(.ref va), (.int 0), (.int 1), .null]) (rest := []) (lenOf pd_684 rfl) rfl (by show 2 * 0 + _ ≤ _; exact Nat.le_of_eq rfl) (hb hby d2_6) (fun _ _ => ⟨rfl, e0, (by decide : 0 + 1 ≤ _), (by decide : 0 + 1 ≤ _)⟩)
  dsimp only [Pt.U, Pt.locs, Pt.cells, Pt.slots] at X2 l2 y2 z2 st2 hQ2
  subst l2 y2 z2
  obtain ⟨b, kb, rfl, N2q, K2, Q2_0, Q2_1, Q2_2, Q2_3, Q2_4⟩ := hQ2
  have N2 := Fr.app N0 N2q
  refine Go.to st2 ?_
  show Go _ _ _ _ T2 (mkF m 9 #[rv a, rv va] [])
  have ge_b : n0 ≤ b := Nat.le_trans Z0 Q2_4
  have sz_b : h0.size ≤ b := Nat.le_trans (Keep.refl h0 [a]).1 Q2_4
  have ne_a_b : a ≠ b := Nat.ne_of_lt (Nat.lt_of_lt_of_le E_a.lt Q2_4)
  have ne_va_b : va ≠ b := Nat.ne_of_lt (Nat.lt_of_lt_of_le V_va.lt Q2_4)
  have F3 : Keep h0 T2.heap [a] := (Keep.refl h0 [a]).trans K2 (allS (Or.inl (List.mem_of_getElem? (i := 0) rfl)) all0)
  exact Go.retV X2 hx Bd.notSynchronized Bd.returns (hb hby d2_9) ⟨b, kb, rfl, N2, F3, Q2_0, Q2_1, Q2_2, Q2_3, sz_b⟩ (by decide) (by decide)
theorem pd_687 : parseMethodDescriptor "([C)V" = some ⟨[(.array .char)], none⟩ := by decide +kernel
def Q_rmC5_2 (Z : State) (va : Addr) (da : Addr) (kv : ClassId) (kd : ClassId) (c0 : Int32) (c1 : Int32) (h0 : Heap) (n0 : Nat) (v : Option Value) (h : Heap) (L : List Loc) : Prop := v = some (.int 2) ∧ Fr n0 L ∧ Keep h0 h [da] ∧ Arv Z h da kd .byte (2 : Int32) ([(.int (own_b c0)), (.int (own_b c1))]) (.int 0)
theorem rmC5_2 (l : Launch) (Z : State) (a0 : Array Value) (hw : ∀ d ∈ tables_1, d.before a0 Z = true) (ws : List Jvm.Cond) (va : Addr) (da : Addr) (kv : ClassId) (kd : ClassId) (c0 : Int32) (c1 : Int32) (h0 : Heap) (n0 : Nat) (Z0 : n0 ≤ h0.size) (V_va : Arv Z h0 va kv .char (2 : Int32) ([(.int c0), (.int c1)]) (.int 0)) (V_da : Arv Z h0 da kd .byte (2 : Int32) ([(.int 0), (.int 0)]) (.int 0)) (g_da : n0 ≤ da) (ne_va_da : va ≠ da) (hc0 : (¬ (255 : Int32) < c0)) (hc1 : (¬ (255 : Int32) < c1)) :
    MetN l Z ws (⟨"java/lang/StringUTF16", "compress", "([CI[BII)I"⟩ : MethodName) jdk_52_method_21_code 7 (some .int) ({ frames := 0, cells := 0, slots := 0, locals := 0 } : Room) #[(.ref va), (.int 0), (.ref da), (.int 0), (.int 2)] h0 (Q_rmC5_2 Z va da kv kd c0 c1 h0 n0) := by
  refine MetN.go (plainFor_of_name pn_605) n0 fun p e s m below meth c s₁ Bd hx hby hml hZ hh hown hnm X0 e0 N0 => ?_
  have hown : s.vm.findClass "java/lang/StringUTF16" = some m.cls := hown
  refine Go.ent (ef_606 m va (0 : Int32) da (0 : Int32) (2 : Int32)) ?_
  show Go _ _ _ _ s₁ (mkF m 0 #[rv va, iv 0, rv da, iv 0, iv 2, un, un] [])
  refine Go.iconst 1 X0 hx (0 : Int32) (hb hby d6_0) (by decide) rfl ?_
  refine Go.istore2 3 X0 hx (L' := #[rv va, iv 0, rv da, iv 0, iv 2, iv 0, un]) (hb hby d6_1) rfl rfl ?_
  refine Go.iload2 5 X0 hx (hb hby d6_3) rfl rfl ?_
  refine Go.iload2 7 X0 hx (hb hby d6_5) rfl rfl ?_
  refine Go.icmpN 10 X0 hx (hb hby d6_7) (XT.ii_ge_f (by decide)) rfl ?_
  refine Go.aload1 11 X0 hx (hb hby d6_10) rfl rfl rfl ?_
  refine Go.iload1 12 X0 hx (hb hby d6_11) rfl rfl ?_
  obtain ⟨cl1, Ar1, -, S1, M1, H1, -⟩ := id V_va
  have hin1 : ¬ ((0 : Int32) < 0 ∨ cl1.slots.size ≤ (0 : Int32).toNatClampNeg) := inb_of S1 ⟨by decide, by decide⟩
  refine Go.by (fun _ gk => X0.caload hx (j := (0 : Int32)) (v := (.int c0)) (by rw [e0]; exact Ar1.1) (State.isArrayOf_alike hZ.alike Ar1.2.1) Ar1.2.2 hin1 (Has.at H1 hin1 rfl) (g := (mkF m 12 #[rv va, iv 0, rv da, iv 0, iv 2, iv 0, un] [(.int 0), (.ref va)])) rfl rfl (hb hby d6_12) _ gk) ?_
  show Go _ _ _ _ s₁ (mkF m 13 #[rv va, iv 0, rv da, iv 0, iv 2, iv 0, un] [(.int c0)])
  refine Go.istore2 15 X0 hx (L' := #[rv va, iv 0, rv da, iv 0, iv 2, iv 0, iv c0]) (hb hby d6_13) rfl rfl ?_
  refine Go.iload2 17 X0 hx (hb hby d6_15) rfl rfl ?_
  refine Go.sipush 20 X0 hx (255 : Int32) (hb hby d6_17) (by decide) rfl ?_
  refine Go.icmpY 26 X0 hx (hb hby d6_20) (XT.ii_le_t hc0) (by decide) (by decide) ?_
  refine Go.aload1 27 X0 hx (hb hby d6_26) rfl rfl rfl ?_
  refine Go.iload1 28 X0 hx (hb hby d6_27) rfl rfl ?_
  refine Go.iload2 30 X0 hx (hb hby d6_28) rfl rfl ?_
  refine Go.i2b 31 X0 hx (hb hby d6_30) rfl ?_
  obtain ⟨cl2, Ar2, q2, S2, M2, H2, G2⟩ := id V_da
  have hin2 : ¬ ((0 : Int32) < 0 ∨ cl2.slots.size ≤ (0 : Int32).toNatClampNeg) := inb_of S2 ⟨by decide, by decide⟩
  obtain ⟨T2, h2, X2, e2, W2, st2⟩ := stB X0 hx hZ e0 Ar2 (j := (0 : Int32)) hin2 (g := (mkF m 31 #[rv va, iv 0, rv da, iv 0, iv 2, iv 0, iv c0] [(.int (c0.toInt8.toInt32)), (.int 0), (.ref da)])) rfl rfl (hb hby d6_31)
  have N2 := Fr.snoc X2 N0 g_da
  have V2 : Arv Z h2 da kd .byte (2 : Int32) [(.int (nar .byte (c0.toInt8.toInt32))), (.int 0)] (.int 0) := Arv.set Ar2 q2 S2 M2 H2 G2 (fits_nar_byte _) W2 0 rfl (Nat.le_of_ble_eq_true rfl)
  refine Go.by st2 ?_
  show Go _ _ _ _ T2 (mkF m 32 #[rv va, iv 0, rv da, iv 0, iv 2, iv 0, iv c0] [])
  rw [own_bn] at V2
  refine Go.iinc 35 X2 hx (1 : Int32) (L' := #[rv va, iv 1, rv da, iv 0, iv 2, iv 0, iv c0]) (hb hby d6_32) (by decide) rfl rfl rfl ?_
  refine Go.iinc 38 X2 hx (1 : Int32) (L' := #[rv va, iv 1, rv da, iv 1, iv 2, iv 0, iv c0]) (hb hby d6_35) (by decide) rfl rfl rfl ?_
  refine Go.iinc 41 X2 hx (1 : Int32) (L' := #[rv va, iv 1, rv da, iv 1, iv 2, iv 1, iv c0]) (hb hby d6_38) (by decide) rfl rfl rfl ?_
  refine Go.goto 3 X2 hx (hb hby d6_41) (by decide) (by decide) ?_
  refine Go.iload2 5 X2 hx (hb hby d6_3) rfl rfl ?_
  refine Go.iload2 7 X2 hx (hb hby d6_5) rfl rfl ?_
  refine Go.icmpN 10 X2 hx (hb hby d6_7) (XT.ii_ge_f (by decide)) rfl ?_
  refine Go.aload1 11 X2 hx (hb hby d6_10) rfl rfl rfl ?_
  refine Go.iload1 12 X2 hx (hb hby d6_11) rfl rfl ?_
  have F3 : Arv Z h2 va kv .char (2 : Int32) [(.int c0), (.int c1)] (.int 0) := V_va.other W2 ne_va_da
  obtain ⟨cl4, Ar4, -, S4, M4, H4, -⟩ := id F3
  have hin4 : ¬ ((1 : Int32) < 0 ∨ cl4.slots.size ≤ (1 : Int32).toNatClampNeg) := inb_of S4 ⟨by decide, by decide⟩
  refine Go.by (fun _ gk => X2.caload hx (j := (1 : Int32)) (v := (.int c1)) (by rw [e2]; exact Ar4.1) (State.isArrayOf_alike hZ.alike Ar4.2.1) Ar4.2.2 hin4 (Has.at H4 hin4 rfl) (g := (mkF m 12 #[rv va, iv 1, rv da, iv 1, iv 2, iv 1, iv c0] [(.int 1), (.ref va)])) rfl rfl (hb hby d6_12) _ gk) ?_
  show Go _ _ _ _ T2 (mkF m 13 #[rv va, iv 1, rv da, iv 1, iv 2, iv 1, iv c0] [(.int c1)])
  refine Go.istore2 15 X2 hx (L' := #[rv va, iv 1, rv da, iv 1, iv 2, iv 1, iv c1]) (hb hby d6_13) rfl rfl ?_
  refine Go.iload2 17 X2 hx (hb hby d6_15) rfl rfl ?_
  refine Go.sipush 20 X2 hx (255 : Int32) (hb hby d6_17) (by decide) rfl ?_
  refine Go.icmpY 26 X2 hx (hb hby d6_20) (XT.ii_le_t hc1) (by decide) (by decide) ?_
  refine Go.aload1 27 X2 hx (hb hby d6_26) rfl rfl rfl ?_
  refine Go.iload1 28 X2 hx (hb hby d6_27) rfl rfl ?_
  refine Go.iload2 30 X2 hx (hb hby d6_28) rfl rfl ?_
  refine Go.i2b 31 X2 hx (hb hby d6_30) rfl ?_
  obtain ⟨cl5, Ar5, q5, S5, M5, H5, G5⟩ := id V2
  have hin5 : ¬ ((1 : Int32) < 0 ∨ cl5.slots.size ≤ (1 : Int32).toNatClampNeg) := inb_of S5 ⟨by decide, by decide⟩
  obtain ⟨T5, h5, X5, e5, W5, st5⟩ := stB X2 hx hZ e2 Ar5 (j := (1 : Int32)) hin5 (g := (mkF m 31 #[rv va, iv 1, rv da, iv 1, iv 2, iv 1, iv c1] [(.int (c1.toInt8.toInt32)), (.int 1), (.ref da)])) rfl rfl (hb hby d6_31)
  have N5 := Fr.snoc X5 N2 g_da
  have V5 : Arv Z h5 da kd .byte (2 : Int32) [(.int (own_b c0)), (.int (nar .byte (c1.toInt8.toInt32)))] (.int 0) := Arv.set Ar5 q5 S5 M5 H5 G5 (fits_nar_byte _) W5 1 rfl (Nat.le_of_ble_eq_true rfl)
  refine Go.by st5 ?_
  show Go _ _ _ _ T5 (mkF m 32 #[rv va, iv 1, rv da, iv 1, iv 2, iv 1, iv c1] [])
  rw [own_bn] at V5
  refine Go.iinc 35 X5 hx (1 : Int32) (L' := #[rv va, iv 2, rv da, iv 1, iv 2, iv 1, iv c1]) (hb hby d6_32) (by decide) rfl rfl rfl ?_
  refine Go.iinc 38 X5 hx (1 : Int32) (L' := #[rv va, iv 2, rv da, iv 2, iv 2, iv 1, iv c1]) (hb hby d6_35) (by decide) rfl rfl rfl ?_
  refine Go.iinc 41 X5 hx (1 : Int32) (L' := #[rv va, iv 2, rv da, iv 2, iv 2, iv 2, iv c1]) (hb hby d6_38) (by decide) rfl rfl rfl ?_
  refine Go.goto 3 X5 hx (hb hby d6_41) (by decide) (by decide) ?_
  refine Go.iload2 5 X5 hx (hb hby d6_3) rfl rfl ?_
  refine Go.iload2 7 X5 hx (hb hby d6_5) rfl rfl ?_
  refine Go.icmpY 44 X5 hx (hb hby d6_7) (XT.ii_ge_t (by decide)) (by decide) (by decide) ?_
  refine Go.iload2 46 X5 hx (hb hby d6_44) rfl rfl ?_
  have F6 : Keep h0 h2 [da] := (Keep.refl h0 [da]).wr W2 (Or.inl (List.mem_of_getElem? (i := 0) rfl))
  have F7 : Keep h0 h5 [da] := F6.wr W5 (Or.inl (List.mem_of_getElem? (i := 0) rfl))
  exact Go.retI X5 hx Bd.notSynchronized Bd.returns rfl (by simp) (hb hby d6_46) (by rw [e5]; exact ⟨rfl, N5, F7, V5⟩) (by decide) (by decide)
def Q_rmC3_2 (Z : State) (va : Addr) (kv : ClassId) (c0 : Int32) (c1 : Int32) (h0 : Heap) (n0 : Nat) (v : Option Value) (h : Heap) (L : List Loc) : Prop := ∃ da : Addr, ∃ kd : ClassId, v = some (.ref da) ∧ Fr n0 L ∧ Keep h0 h [] ∧ Arv Z h da kd .byte (2 : Int32) ([(.int (own_b c0)), (.int (own_b c1))]) (.int 0) ∧ h0.size ≤ da
theorem rmC3_2 (l : Launch) (Z : State) (a0 : Array Value) (hw : ∀ d ∈ tables_1, d.before a0 Z = true) (ws : List Jvm.Cond) (va : Addr) (kv : ClassId) (c0 : Int32) (c1 : Int32) (h0 : Heap) (n0 : Nat) (Z0 : n0 ≤ h0.size) (V_va : Arv Z h0 va kv .char (2 : Int32) ([(.int c0), (.int c1)]) (.int 0)) (hc0 : (¬ (255 : Int32) < c0)) (hc1 : (¬ (255 : Int32) < c1)) :
    MetN l Z ws (⟨"java/lang/StringUTF16", "compress", "([CII)[B"⟩ : MethodName) jdk_52_method_16_code 6 (some (.array .byte)) ({ frames := 1, cells := 1, slots := 2, locals := 18 } : Room) #[(.ref va), (.int 0), (.int 2)] h0 (Q_rmC3_2 Z va kv c0 c1 h0 n0) := by
  refine MetN.go (plainFor_of_name pn_605) n0 fun p e s m below meth c s₁ Bd hx hby hml hZ hh hown hnm X0 e0 N0 => ?_
  have hown : s.vm.findClass "java/lang/StringUTF16" = some m.cls := hown
  refine Go.ent (ef_630 m va (0 : Int32) (2 : Int32)) ?_
  show Go _ _ _ _ s₁ (mkF m 0 #[rv va, iv 0, iv 2, un, un, un] [])
  refine Go.iload1 1 X0 hx (hb hby d5_0) rfl rfl ?_
  obtain ⟨da, g1⟩ : ∃ z, z = h0.size := ⟨_, rfl⟩
  have ge_da : n0 ≤ da := Nat.le_trans Z0 (Nat.le_of_eq g1.symm)
  have sz_da : h0.size ≤ da := Nat.le_trans (Keep.refl h0 []).1 (Nat.le_of_eq g1.symm)
  have ne_va_da : va ≠ da := Nat.ne_of_lt (Nat.lt_of_lt_of_le V_va.lt (Nat.le_of_eq g1.symm))
  obtain ⟨T1, h1, k1, X1, e1, E1, A1, Ea1, st1⟩ := newPE X0 hx hZ (ow hw 24 rfl) e0 (g := (mkF m 1 #[rv va, iv 0, iv 2, un, un, un] [(.int 2)])) rfl (hb hby d5_1) rfl (by decide) (cap := 2) (by decide) (by decide) (by decide) (by decide) (ad := "[B") rfl
  rw [← g1] at A1 Ea1 st1
  have V_da : Arv Z h1 da k1 .byte (2 : Int32) [(.int 0), (.int 0)] (.int 0) := (Arv.new A1 (by decide)).pad (pad_rep [] (.int 0) 2)
  refine Go.by st1 ?_
  show Go _ _ _ _ T1 (mkF m 3 #[rv va, iv 0, iv 2, un, un, un] [(.ref da)])
  refine Go.astore1 4 X1 hx (L' := #[rv va, iv 0, iv 2, rv da, un, un]) (hb hby d5_3) rfl rfl rfl ?_
  refine Go.aload1 5 X1 hx (hb hby d5_4) rfl rfl rfl ?_
  refine Go.iload1 6 X1 hx (hb hby d5_5) rfl rfl ?_
  refine Go.aload1 7 X1 hx (hb hby d5_6) rfl rfl rfl ?_
  refine Go.iconst 8 X1 hx (0 : Int32) (hb hby d5_7) (by decide) rfl ?_
  refine Go.iload1 9 X1 hx (hb hby d5_8) rfl rfl ?_
  have F2 : Arv Z h1 va kv .char (2 : Int32) [(.int c0), (.int c1)] (.int 0) := V_va.ext E1
  have F3 : n0 ≤ h1.size := Nat.le_trans Z0 E1.1
  obtain ⟨_, _, ⟨T4, L4, k4, n4⟩, -, X4, ⟨Lc4, hQ4, l4, y4, z4⟩, st4⟩ := Jvm.LawKit.callS X1 hx (y := (⟨"java/lang/StringUTF16", "compress", "([CI[BII)I"⟩ : MethodName)) hown (mvT hZ (ow hw 25 rfl)) (mvT hZ (ow hw 26 rfl)) (mvT hZ (ow hw 22 rfl)) (mvT hZ (ow hw 27 rfl)) (by decide) (backOf (W := 0) (rmC5_2 l Z a0 hw [] va da kv k1 c0 c1 h1 n0 F3 F2 V_da ge_da ne_va_da hc0 hc1) hZ (ow hw 27 rfl) (ow hw 22 rfl) (by decide) (by decide)) (g := (mkF m 9 #[rv va, iv 0, iv 2, rv da, un, un] [(.int 2), (.int 0), (.ref da), (.int 0), (.ref va)])) rfl (by rw [hml]; rfl) (argsL := [(.ref va), (.int 0), (.ref da), (.int 0), (.int 2)]) (rest := []) (lenOf pd_639 rfl) rfl (by show 2 * 0 + _ ≤ _; exact Nat.le_of_eq rfl) (hb hby d5_9) (fun _ _ => ⟨rfl, e1, (by decide : 1 + 0 ≤ _), (by decide : 2 + 0 ≤ _)⟩)
  dsimp only [Pt.U, Pt.locs, Pt.cells, Pt.slots] at X4 l4 y4 z4 st4 hQ4
  subst l4 y4 z4
  obtain ⟨rfl, N4q, K4, Q4_0⟩ := hQ4
  have N4 := Fr.app N0 N4q
  refine Go.by st4 ?_
  show Go _ _ _ _ T4 (mkF m 12 #[rv va, iv 0, iv 2, rv da, un, un] [(.int 2)])
  refine Go.istore2 14 X4 hx (L' := #[rv va, iv 0, iv 2, rv da, iv 2, un]) (hb hby d5_12) rfl rfl ?_
  refine Go.iload2 16 X4 hx (hb hby d5_14) rfl rfl ?_
  refine Go.iload1 17 X4 hx (hb hby d5_16) rfl rfl ?_
  refine Go.icmpY 57 X4 hx (hb hby d5_17) (XT.ii_eq_t rfl) (by decide) (by decide) ?_
  refine Go.aload1 58 X4 hx (hb hby d5_57) rfl rfl rfl ?_
  have F5 : Keep h0 h1 [] := (Keep.refl h0 []).ext E1
  have F6 : Keep h0 T4.heap [] := F5.trans K4 (allS (Or.inr sz_da) all0)
  exact Go.retA X4 hx Bd.notSynchronized Bd.returns rfl rfl (hb hby d5_58) ⟨da, k1, rfl, N4, F6, Q4_0, sz_da⟩ (by decide) (by decide)
def Q_rmCoder_2 (Z : State) (da : Addr) (kd : ClassId) (vs : List Value) (h0 : Heap) (n0 : Nat) (v : Option Value) (h : Heap) (L : List Loc) : Prop := v = some (.int 0) ∧ Fr n0 L ∧ h = h0
theorem rmCoder_2 (l : Launch) (Z : State) (a0 : Array Value) (hw : ∀ d ∈ tables_1, d.before a0 Z = true) (ws : List Jvm.Cond) (da : Addr) (kd : ClassId) (vs : List Value) (h0 : Heap) (n0 : Nat) (Z0 : n0 ≤ h0.size) (V_da : Arv Z h0 da kd .byte (2 : Int32) vs (.int 0)) :
    MetN l Z ws (⟨"java/lang/StringUTF16", "coderFromArrayLen", "([BI)B"⟩ : MethodName) jdk_52_method_15_code 2 (some .byte) ({ frames := 0, cells := 0, slots := 0, locals := 0 } : Room) #[(.ref da), (.int 2)] h0 (Q_rmCoder_2 Z da kd vs h0 n0) := by
  refine MetN.go (plainFor_of_name pn_605) n0 fun p e s m below meth c s₁ Bd hx hby hml hZ hh hown hnm X0 e0 N0 => ?_
  have hown : s.vm.findClass "java/lang/StringUTF16" = some m.cls := hown
  refine Go.ent (ef_53 m da (2 : Int32)) ?_
  show Go _ _ _ _ s₁ (mkF m 0 #[rv da, iv 2] [])
  refine Go.iload1 1 X0 hx (hb hby d7_0) rfl rfl ?_
  refine Go.aload1 2 X0 hx (hb hby d7_1) rfl rfl rfl ?_
  obtain ⟨cl1, Ar1, -, S1, M1, -, -⟩ := id V_da
  refine Go.by (fun _ gk => X0.arraylength hx (by rw [e0]; exact Ar1.1) (State.isArrayOf_alike hZ.alike Ar1.2.1) (g := (mkF m 2 #[rv da, iv 2] [(.ref da), (.int 2)])) rfl rfl (hb hby d7_2) _ gk) ?_
  rw [len_of S1 M1]
  show Go _ _ _ _ s₁ (mkF m 3 #[rv da, iv 2] [(.int 2), (.int 2)])
  refine Go.isub 4 X0 hx (hb hby d7_3) rfl ?_
  rw [(by decide : ((2 : Int32) - (2 : Int32)) = (0 : Int32))]
  refine Go.bipush 6 X0 hx (31 : Int32) (hb hby d7_4) (by decide) rfl ?_
  refine Go.iushr 7 X0 hx (hb hby d7_6) rfl ?_
  rw [(by decide : (XT.ushr (0 : Int32) (31 : Int32)) = (0 : Int32))]
  refine Go.i2b 8 X0 hx (hb hby d7_7) rfl ?_
  rw [(by decide : ((0 : Int32).toInt8.toInt32) = (0 : Int32))]
  exact Go.retI X0 hx Bd.notSynchronized Bd.returns rfl (by simp) (hb hby d7_8) (by rw [e0]; exact ⟨rfl, N0, rfl⟩) (by decide) (by decide)
def Q_rmS4_2 (Z : State) (a : Addr) (va : Addr) (kv : ClassId) (c0 : Int32) (c1 : Int32) (cs : Int32) (h0 : Heap) (n0 : Nat) (v : Option Value) (h : Heap) (L : List Loc) : Prop := ∃ b : Addr, ∃ kb : ClassId, v = none ∧ Fr n0 L ∧ Keep h0 h [a] ∧ Exa Z h a "java/lang/String" ∧ Fld Z h a "java/lang/String" "coder" "B" (.int 0) ∧ Fld Z h a "java/lang/String" "value" "[B" (.ref b) ∧ Arv Z h b kb .byte (2 : Int32) ([(.int (own_b c0)), (.int (own_b c1))]) (.int 0) ∧ h0.size ≤ b
theorem rmS4_2 (l : Launch) (Z : State) (a0 : Array Value) (hw : ∀ d ∈ tables_1, d.before a0 Z = true) (ws : List Jvm.Cond) (a : Addr) (va : Addr) (kv : ClassId) (c0 : Int32) (c1 : Int32) (cs : Int32) (h0 : Heap) (n0 : Nat) (Z0 : n0 ≤ h0.size) (O0 : Old Z n0 h0) (E_a : Exa Z h0 a "java/lang/String") (F_a_value : Fld Z h0 a "java/lang/String" "value" "[B" .null) (F_a_coder : Fld Z h0 a "java/lang/String" "coder" "B" (.int 0)) (g_a : n0 ≤ a) (V_va : Arv Z h0 va kv .char (2 : Int32) ([(.int c0), (.int c1)]) (.int 0)) (hc0 : (¬ (255 : Int32) < c0)) (hc1 : (¬ (255 : Int32) < c1)) (S_cs : Sta Z Z.heap "java/lang/String" "COMPACT_STRINGS" "Z" (.int cs)) (n_cs : ¬ cs = 0) :
    MetN l Z ws (⟨"java/lang/String", "<init>", "([CIILjava/lang/Void;)V"⟩ : MethodName) jdk_42_method_149_code 6 none ({ frames := 2, cells := 1, slots := 2, locals := 35 } : Room) #[(.ref a), (.ref va), (.int 0), (.int 2), .null] h0 (Q_rmS4_2 Z a va kv c0 c1 cs h0 n0) := by
  refine MetN.go (plainFor_of_name pn_3) n0 fun p e s m below meth c s₁ Bd hx hby hml hZ hh hown hnm X0 e0 N0 => ?_
  have hown : s.vm.findClass "java/lang/String" = some m.cls := hown
  refine Go.ent (ef_655 m a va (0 : Int32) (2 : Int32)) ?_
  show Go _ _ _ _ s₁ (mkF m 0 #[rv a, rv va, iv 0, iv 2, .val .null, un] [])
  refine Go.aload1 1 X0 hx (hb hby d3_0) rfl rfl rfl ?_
  obtain ⟨T1, X1, e1, st1⟩ := initO X0 hx hZ hown (ow hw 16 rfl) (ow hw 17 rfl) (ow hw 18 rfl) e0 (g := (mkF m 1 #[rv a, rv va, iv 0, iv 2, .val .null, un] [(.ref a)])) rfl (by rw [hml]; rfl) rfl (hb hby d3_1) (by decide) (W := 0) (by show 2 * 0 + _ ≤ _; exact Nat.le_of_eq rfl) (by decide)
  refine Go.by st1 ?_
  show Go _ _ _ _ T1 (mkF m 4 #[rv a, rv va, iv 0, iv 2, .val .null, un] [])
  refine Go.iload1 5 X1 hx (hb hby d3_4) rfl rfl ?_
  refine Go.ifY 27 X1 hx (hb hby d3_5) (XT.i0_ne_t (by decide)) (by decide) (by decide) ?_
  have F2 : Sta Z h0 "java/lang/String" "COMPACT_STRINGS" "Z" (.int cs) := S_cs.ext O0.2
  obtain ⟨T3, X3, e3, st3⟩ := getS2 X1 hx hZ hown (host := "") (Or.inl (ow hw 19 rfl)) Via.refl e1 F2 (g := (mkF m 27 #[rv a, rv va, iv 0, iv 2, .val .null, un] [])) rfl (hb hby d3_27)
  refine Go.by st3 ?_
  show Go _ _ _ _ T3 (mkF m 30 #[rv a, rv va, iv 0, iv 2, .val .null, un] [(.int cs)])
  refine Go.ifN 33 X3 hx (hb hby d3_30) (XT.i0_eq_f n_cs) rfl ?_
  refine Go.aload1 34 X3 hx (hb hby d3_33) rfl rfl rfl ?_
  refine Go.iload1 35 X3 hx (hb hby d3_34) rfl rfl ?_
  refine Go.iload1 36 X3 hx (hb hby d3_35) rfl rfl ?_
  obtain ⟨_, _, ⟨T4, L4, k4, n4⟩, -, X4, ⟨Lc4, hQ4, l4, y4, z4⟩, st4⟩ := Jvm.LawKit.callS X3 hx (y := (⟨"java/lang/StringUTF16", "compress", "([CII)[B"⟩ : MethodName)) hown (mvT hZ (ow hw 20 rfl)) (mvT hZ (ow hw 21 rfl)) (mvT hZ (ow hw 22 rfl)) (mvT hZ (ow hw 23 rfl)) (by decide) (backOf (W := 0) (rmC3_2 l Z a0 hw [] va kv c0 c1 h0 n0 Z0 V_va hc0 hc1) hZ (ow hw 23 rfl) (ow hw 22 rfl) (by decide) (by decide)) (g := (mkF m 36 #[rv a, rv va, iv 0, iv 2, .val .null, un] [(.int 2), (.int 0), (.ref va)])) rfl (by rw [hml]; rfl) (argsL := [(.ref va), (.int 0), (.int 2)]) (rest := []) (lenOf pd_665 rfl) rfl (by show 2 * 0 + _ ≤ _; exact Nat.le_of_eq rfl) (hb hby d3_36) (fun _ _ => ⟨rfl, e3, (by decide : 0 + 1 ≤ _), (by decide : 0 + 2 ≤ _)⟩)
  dsimp only [Pt.U, Pt.locs, Pt.cells, Pt.slots] at X4 l4 y4 z4 st4 hQ4
  subst l4 y4 z4
  obtain ⟨b, kb, rfl, N4q, K4, Q4_0, Q4_1⟩ := hQ4
  have N4 := Fr.app N0 N4q
  refine Go.by st4 ?_
  show Go _ _ _ _ T4 (mkF m 39 #[rv a, rv va, iv 0, iv 2, .val .null, un] [(.ref b)])
  have ge_b : n0 ≤ b := Nat.le_trans Z0 Q4_1
  have sz_b : h0.size ≤ b := Nat.le_trans (Keep.refl h0 [a]).1 Q4_1
  have ne_a_b : a ≠ b := Nat.ne_of_lt (Nat.lt_of_lt_of_le E_a.lt Q4_1)
  have ne_va_b : va ≠ b := Nat.ne_of_lt (Nat.lt_of_lt_of_le V_va.lt Q4_1)
  refine Go.astore2 41 X4 hx (L' := #[rv a, rv va, iv 0, iv 2, .val .null, rv b]) (hb hby d3_39) rfl rfl rfl ?_
  refine Go.aload1 42 X4 hx (hb hby d3_41) rfl rfl rfl ?_
  refine Go.aload2 44 X4 hx (hb hby d3_42) rfl rfl rfl ?_
  refine Go.iload1 45 X4 hx (hb hby d3_44) rfl rfl ?_
  have F5 : n0 ≤ T4.heap.size := Nat.le_trans Z0 K4.1
  obtain ⟨_, _, ⟨T6, L6, k6, n6⟩, -, X6, ⟨Lc6, hQ6, l6, y6, z6⟩, st6⟩ := Jvm.LawKit.callS X4 hx (y := (⟨"java/lang/StringUTF16", "coderFromArrayLen", "([BI)B"⟩ : MethodName)) hown (mvT hZ (ow hw 28 rfl)) (mvT hZ (ow hw 29 rfl)) (mvT hZ (ow hw 22 rfl)) (mvT hZ (ow hw 30 rfl)) (by decide) (backOf (W := 1) (rmCoder_2 l Z a0 hw [] b kb ([(.int (own_b c0)), (.int (own_b c1))]) T4.heap n0 F5 Q4_0) hZ (ow hw 30 rfl) (ow hw 22 rfl) (by decide) (by decide)) (g := (mkF m 45 #[rv a, rv va, iv 0, iv 2, .val .null, rv b] [(.int 2), (.ref b), (.ref a)])) rfl (by rw [hml]; rfl) (argsL := [(.ref b), (.int 2)]) (rest := [(.ref a)]) (lenOf pd_671 rfl) rfl (by show 2 * 0 + _ ≤ _; exact Nat.le_of_eq rfl) (hb hby d3_45) (fun _ _ => ⟨rfl, rfl, (by decide : 1 + 0 ≤ _), (by decide : 2 + 0 ≤ _)⟩)
  dsimp only [Pt.U, Pt.locs, Pt.cells, Pt.slots] at X6 l6 y6 z6 st6 hQ6
  subst l6 y6 z6
  obtain ⟨rfl, N6q, e6⟩ := hQ6
  have N6 := Fr.app N4 N6q
  refine Go.by st6 ?_
  show Go _ _ _ _ T6 (mkF m 48 #[rv a, rv va, iv 0, iv 2, .val .null, rv b] [(.int 0), (.ref a)])
  have F7 : Fld Z T4.heap a "java/lang/String" "coder" "B" (.int 0) := F_a_coder.keep K4 nin0
  have F8 : Exa Z T4.heap a "java/lang/String" := E_a.keep K4
  obtain ⟨T9, h9, X9, e9, W9, st9⟩ := putFN X6 hx hZ hown (ow hw 31 rfl) Via.refl e6 F7 F8 (Or.inr ⟨(ow hw 32 rfl), rfl, hnm⟩) (ow hw 7 rfl) (ty := .byte) (v' := (.int 0)) (by decide) rfl rfl (g := (mkF m 48 #[rv a, rv va, iv 0, iv 2, .val .null, rv b] [(.int 0), (.ref a)])) rfl rfl (hb hby d3_48)
  have N9 := Fr.snoc X9 N6 g_a
  have Fw9 : Fld Z h9 a "java/lang/String" "coder" "B" (.int 0) := F7.same W9
  refine Go.by st9 ?_
  show Go _ _ _ _ T9 (mkF m 51 #[rv a, rv va, iv 0, iv 2, .val .null, rv b] [])
  refine Go.aload1 52 X9 hx (hb hby d3_51) rfl rfl rfl ?_
  refine Go.aload2 54 X9 hx (hb hby d3_52) rfl rfl rfl ?_
  have F10 : Fld Z T4.heap a "java/lang/String" "value" "[B" .null := F_a_value.keep K4 nin0
  have F11 : Fld Z h9 a "java/lang/String" "value" "[B" .null := F10.other W9 (Or.inr (slot_ne (Or.inr (ow hw 34 rfl)) (Or.inr (ow hw 32 rfl)) (by decide) (t := (.array .byte)) (t' := .byte) (by decide) (by decide)))
  have F12 : Exa Z h9 a "java/lang/String" := F8.wr W9
  obtain ⟨T13, h13, X13, e13, W13, st13⟩ := putF X9 hx hZ hown (host := "") (Or.inl (ow hw 33 rfl)) Via.refl e9 F11 F12 (Or.inr ⟨(ow hw 34 rfl), rfl, hnm⟩) (ow hw 7 rfl) (ty := (.array .byte)) (by decide) rfl rfl (g := (mkF m 54 #[rv a, rv va, iv 0, iv 2, .val .null, rv b] [(.ref b), (.ref a)])) rfl rfl (hb hby d3_54)
  have N13 := Fr.snoc X13 N9 g_a
  have Fw13 : Fld Z h13 a "java/lang/String" "value" "[B" (.ref b) := F11.same W13
  refine Go.by st13 ?_
  show Go _ _ _ _ T13 (mkF m 57 #[rv a, rv va, iv 0, iv 2, .val .null, rv b] [])
  have F14 : Keep h0 T4.heap [a] := (Keep.refl h0 [a]).trans K4 all0
  have F15 : Keep h0 h9 [a] := F14.wr W9 (Or.inl (List.mem_of_getElem? (i := 0) rfl))
  have F16 : Keep h0 h13 [a] := F15.wr W13 (Or.inl (List.mem_of_getElem? (i := 0) rfl))
  have F17 : Exa Z h13 a "java/lang/String" := F12.wr W13
  have F18 : Fld Z h13 a "java/lang/String" "coder" "B" (.int 0) := Fw9.other W13 (Or.inr (slot_ne (Or.inr (ow hw 32 rfl)) (Or.inr (ow hw 34 rfl)) (by decide) (t := .byte) (t' := (.array .byte)) (by decide) (by decide)))
  have F19 : Arv Z h9 b kb .byte (2 : Int32) [(.int (own_b c0)), (.int (own_b c1))] (.int 0) := Q4_0.other W9 (Ne.symm ne_a_b)
  have F20 : Arv Z h13 b kb .byte (2 : Int32) [(.int (own_b c0)), (.int (own_b c1))] (.int 0) := F19.other W13 (Ne.symm ne_a_b)
  exact Go.retV X13 hx Bd.notSynchronized Bd.returns (hb hby d3_57) (by rw [e13]; exact ⟨b, kb, rfl, N13, F16, F17, F18, Fw13, F20, sz_b⟩) (by decide) (by decide)
def Q_rmS1_2 (Z : State) (a : Addr) (va : Addr) (kv : ClassId) (c0 : Int32) (c1 : Int32) (cs : Int32) (h0 : Heap) (n0 : Nat) (v : Option Value) (h : Heap) (L : List Loc) : Prop := ∃ b : Addr, ∃ kb : ClassId, v = none ∧ Fr n0 L ∧ Keep h0 h [a] ∧ Exa Z h a "java/lang/String" ∧ Fld Z h a "java/lang/String" "coder" "B" (.int 0) ∧ Fld Z h a "java/lang/String" "value" "[B" (.ref b) ∧ Arv Z h b kb .byte (2 : Int32) ([(.int (own_b c0)), (.int (own_b c1))]) (.int 0) ∧ h0.size ≤ b
theorem rmS1_2 (l : Launch) (Z : State) (a0 : Array Value) (hw : ∀ d ∈ tables_1, d.before a0 Z = true) (ws : List Jvm.Cond) (a : Addr) (va : Addr) (kv : ClassId) (c0 : Int32) (c1 : Int32) (cs : Int32) (h0 : Heap) (n0 : Nat) (Z0 : n0 ≤ h0.size) (O0 : Old Z n0 h0) (E_a : Exa Z h0 a "java/lang/String") (F_a_value : Fld Z h0 a "java/lang/String" "value" "[B" .null) (F_a_coder : Fld Z h0 a "java/lang/String" "coder" "B" (.int 0)) (g_a : n0 ≤ a) (V_va : Arv Z h0 va kv .char (2 : Int32) ([(.int c0), (.int c1)]) (.int 0)) (hc0 : (¬ (255 : Int32) < c0)) (hc1 : (¬ (255 : Int32) < c1)) (S_cs : Sta Z Z.heap "java/lang/String" "COMPACT_STRINGS" "Z" (.int cs)) (n_cs : ¬ cs = 0) :
    MetN l Z ws (⟨"java/lang/String", "<init>", "([C)V"⟩ : MethodName) jdk_42_method_3_code 2 none ({ frames := 3, cells := 1, slots := 2, locals := 52 } : Room) #[(.ref a), (.ref va)] h0 (Q_rmS1_2 Z a va kv c0 c1 cs h0 n0) := by
  refine MetN.go (plainFor_of_name pn_3) n0 fun p e s m below meth c s₁ Bd hx hby hml hZ hh hown hnm X0 e0 N0 => ?_
  have hown : s.vm.findClass "java/lang/String" = some m.cls := hown
  refine Go.ent (ef_125 m a va) ?_
  show Go _ _ _ _ s₁ (mkF m 0 #[rv a, rv va] [])
  refine Go.aload1 1 X0 hx (hb hby d2_0) rfl rfl rfl ?_
  refine Go.aload1 2 X0 hx (hb hby d2_1) rfl rfl rfl ?_
  refine Go.iconst 3 X0 hx (0 : Int32) (hb hby d2_2) (by decide) rfl ?_
  refine Go.aload1 4 X0 hx (hb hby d2_3) rfl rfl rfl ?_
  obtain ⟨cl1, Ar1, -, S1, M1, -, -⟩ := id V_va
  refine Go.by (fun _ gk => X0.arraylength hx (by rw [e0]; exact Ar1.1) (State.isArrayOf_alike hZ.alike Ar1.2.1) (g := (mkF m 4 #[rv a, rv va] [(.ref va), (.int 0), (.ref va), (.ref a)])) rfl rfl (hb hby d2_4) _ gk) ?_
  rw [len_of S1 M1]
  show Go _ _ _ _ s₁ (mkF m 5 #[rv a, rv va] [(.int 2), (.int 0), (.ref va), (.ref a)])
  refine Go.aconst_null 6 X0 hx (hb hby d2_5) rfl ?_
  obtain ⟨_, _, ⟨T2, L2, k2, n2⟩, -, X2, ⟨Lc2, hQ2, l2, y2, z2⟩, st2⟩ := X0.specialBack hx (y := (⟨"java/lang/String", "<init>", "([CIILjava/lang/Void;)V"⟩ : MethodName)) rfl hown (mvT hZ (ow hw 12 rfl)) (mvT hZ (ow hw 13 rfl)) (mvT hZ (ow hw 15 rfl)) (by decide) (backOf (W := 0) (rmS4_2 l Z a0 hw [] a va kv c0 c1 cs h0 n0 Z0 O0 E_a F_a_value F_a_coder g_a V_va hc0 hc1 S_cs n_cs) hZ (ow hw 15 rfl) (ow hw 8 rfl) (by decide) (by decide)) (g := (mkF m 6 #[rv a, rv va] [.null, (.int 2), (.int 0), (.ref va), (.ref a)])) rfl (by rw [hml]; rfl) (Steps.refl _) (a := a) (argsL := [(.ref va), (.int 0), (.int 2), .null]) (rest := []) (lenOf pd_684 rfl) rfl (by show 2 * 0 + _ ≤ _; exact Nat.le_of_eq rfl) (hb hby d2_6) (fun _ _ => ⟨rfl, e0, (by decide : 0 + 1 ≤ _), (by decide : 0 + 2 ≤ _)⟩)
  dsimp only [Pt.U, Pt.locs, Pt.cells, Pt.slots] at X2 l2 y2 z2 st2 hQ2
  subst l2 y2 z2
  obtain ⟨b, kb, rfl, N2q, K2, Q2_0, Q2_1, Q2_2, Q2_3, Q2_4⟩ := hQ2
  have N2 := Fr.app N0 N2q
  refine Go.to st2 ?_
  show Go _ _ _ _ T2 (mkF m 9 #[rv a, rv va] [])
  have ge_b : n0 ≤ b := Nat.le_trans Z0 Q2_4
  have sz_b : h0.size ≤ b := Nat.le_trans (Keep.refl h0 [a]).1 Q2_4
  have ne_a_b : a ≠ b := Nat.ne_of_lt (Nat.lt_of_lt_of_le E_a.lt Q2_4)
  have ne_va_b : va ≠ b := Nat.ne_of_lt (Nat.lt_of_lt_of_le V_va.lt Q2_4)
  have F3 : Keep h0 T2.heap [a] := (Keep.refl h0 [a]).trans K2 (allS (Or.inl (List.mem_of_getElem? (i := 0) rfl)) all0)
  exact Go.retV X2 hx Bd.notSynchronized Bd.returns (hb hby d2_9) ⟨b, kb, rfl, N2, F3, Q2_0, Q2_1, Q2_2, Q2_3, sz_b⟩ (by decide) (by decide)
def Q_rmC5_3 (Z : State) (va : Addr) (da : Addr) (kv : ClassId) (kd : ClassId) (c0 : Int32) (c1 : Int32) (c2 : Int32) (h0 : Heap) (n0 : Nat) (v : Option Value) (h : Heap) (L : List Loc) : Prop := v = some (.int 3) ∧ Fr n0 L ∧ Keep h0 h [da] ∧ Arv Z h da kd .byte (3 : Int32) ([(.int (own_b c0)), (.int (own_b c1)), (.int (own_b c2))]) (.int 0)
theorem rmC5_3 (l : Launch) (Z : State) (a0 : Array Value) (hw : ∀ d ∈ tables_1, d.before a0 Z = true) (ws : List Jvm.Cond) (va : Addr) (da : Addr) (kv : ClassId) (kd : ClassId) (c0 : Int32) (c1 : Int32) (c2 : Int32) (h0 : Heap) (n0 : Nat) (Z0 : n0 ≤ h0.size) (V_va : Arv Z h0 va kv .char (3 : Int32) ([(.int c0), (.int c1), (.int c2)]) (.int 0)) (V_da : Arv Z h0 da kd .byte (3 : Int32) ([(.int 0), (.int 0), (.int 0)]) (.int 0)) (g_da : n0 ≤ da) (ne_va_da : va ≠ da) (hc0 : (¬ (255 : Int32) < c0)) (hc1 : (¬ (255 : Int32) < c1)) (hc2 : (¬ (255 : Int32) < c2)) :
    MetN l Z ws (⟨"java/lang/StringUTF16", "compress", "([CI[BII)I"⟩ : MethodName) jdk_52_method_21_code 7 (some .int) ({ frames := 0, cells := 0, slots := 0, locals := 0 } : Room) #[(.ref va), (.int 0), (.ref da), (.int 0), (.int 3)] h0 (Q_rmC5_3 Z va da kv kd c0 c1 c2 h0 n0) := by
  refine MetN.go (plainFor_of_name pn_605) n0 fun p e s m below meth c s₁ Bd hx hby hml hZ hh hown hnm X0 e0 N0 => ?_
  have hown : s.vm.findClass "java/lang/StringUTF16" = some m.cls := hown
  refine Go.ent (ef_606 m va (0 : Int32) da (0 : Int32) (3 : Int32)) ?_
  show Go _ _ _ _ s₁ (mkF m 0 #[rv va, iv 0, rv da, iv 0, iv 3, un, un] [])
  refine Go.iconst 1 X0 hx (0 : Int32) (hb hby d6_0) (by decide) rfl ?_
  refine Go.istore2 3 X0 hx (L' := #[rv va, iv 0, rv da, iv 0, iv 3, iv 0, un]) (hb hby d6_1) rfl rfl ?_
  refine Go.iload2 5 X0 hx (hb hby d6_3) rfl rfl ?_
  refine Go.iload2 7 X0 hx (hb hby d6_5) rfl rfl ?_
  refine Go.icmpN 10 X0 hx (hb hby d6_7) (XT.ii_ge_f (by decide)) rfl ?_
  refine Go.aload1 11 X0 hx (hb hby d6_10) rfl rfl rfl ?_
  refine Go.iload1 12 X0 hx (hb hby d6_11) rfl rfl ?_
  obtain ⟨cl1, Ar1, -, S1, M1, H1, -⟩ := id V_va
  have hin1 : ¬ ((0 : Int32) < 0 ∨ cl1.slots.size ≤ (0 : Int32).toNatClampNeg) := inb_of S1 ⟨by decide, by decide⟩
  refine Go.by (fun _ gk => X0.caload hx (j := (0 : Int32)) (v := (.int c0)) (by rw [e0]; exact Ar1.1) (State.isArrayOf_alike hZ.alike Ar1.2.1) Ar1.2.2 hin1 (Has.at H1 hin1 rfl) (g := (mkF m 12 #[rv va, iv 0, rv da, iv 0, iv 3, iv 0, un] [(.int 0), (.ref va)])) rfl rfl (hb hby d6_12) _ gk) ?_
  show Go _ _ _ _ s₁ (mkF m 13 #[rv va, iv 0, rv da, iv 0, iv 3, iv 0, un] [(.int c0)])
  refine Go.istore2 15 X0 hx (L' := #[rv va, iv 0, rv da, iv 0, iv 3, iv 0, iv c0]) (hb hby d6_13) rfl rfl ?_
  refine Go.iload2 17 X0 hx (hb hby d6_15) rfl rfl ?_
  refine Go.sipush 20 X0 hx (255 : Int32) (hb hby d6_17) (by decide) rfl ?_
  refine Go.icmpY 26 X0 hx (hb hby d6_20) (XT.ii_le_t hc0) (by decide) (by decide) ?_
  refine Go.aload1 27 X0 hx (hb hby d6_26) rfl rfl rfl ?_
  refine Go.iload1 28 X0 hx (hb hby d6_27) rfl rfl ?_
  refine Go.iload2 30 X0 hx (hb hby d6_28) rfl rfl ?_
  refine Go.i2b 31 X0 hx (hb hby d6_30) rfl ?_
  obtain ⟨cl2, Ar2, q2, S2, M2, H2, G2⟩ := id V_da
  have hin2 : ¬ ((0 : Int32) < 0 ∨ cl2.slots.size ≤ (0 : Int32).toNatClampNeg) := inb_of S2 ⟨by decide, by decide⟩
  obtain ⟨T2, h2, X2, e2, W2, st2⟩ := stB X0 hx hZ e0 Ar2 (j := (0 : Int32)) hin2 (g := (mkF m 31 #[rv va, iv 0, rv da, iv 0, iv 3, iv 0, iv c0] [(.int (c0.toInt8.toInt32)), (.int 0), (.ref da)])) rfl rfl (hb hby d6_31)
  have N2 := Fr.snoc X2 N0 g_da
  have V2 : Arv Z h2 da kd .byte (3 : Int32) [(.int (nar .byte (c0.toInt8.toInt32))), (.int 0), (.int 0)] (.int 0) := Arv.set Ar2 q2 S2 M2 H2 G2 (fits_nar_byte _) W2 0 rfl (Nat.le_of_ble_eq_true rfl)
  refine Go.by st2 ?_
  show Go _ _ _ _ T2 (mkF m 32 #[rv va, iv 0, rv da, iv 0, iv 3, iv 0, iv c0] [])
  rw [own_bn] at V2
  refine Go.iinc 35 X2 hx (1 : Int32) (L' := #[rv va, iv 1, rv da, iv 0, iv 3, iv 0, iv c0]) (hb hby d6_32) (by decide) rfl rfl rfl ?_
  refine Go.iinc 38 X2 hx (1 : Int32) (L' := #[rv va, iv 1, rv da, iv 1, iv 3, iv 0, iv c0]) (hb hby d6_35) (by decide) rfl rfl rfl ?_
  refine Go.iinc 41 X2 hx (1 : Int32) (L' := #[rv va, iv 1, rv da, iv 1, iv 3, iv 1, iv c0]) (hb hby d6_38) (by decide) rfl rfl rfl ?_
  refine Go.goto 3 X2 hx (hb hby d6_41) (by decide) (by decide) ?_
  refine Go.iload2 5 X2 hx (hb hby d6_3) rfl rfl ?_
  refine Go.iload2 7 X2 hx (hb hby d6_5) rfl rfl ?_
  refine Go.icmpN 10 X2 hx (hb hby d6_7) (XT.ii_ge_f (by decide)) rfl ?_
  refine Go.aload1 11 X2 hx (hb hby d6_10) rfl rfl rfl ?_
  refine Go.iload1 12 X2 hx (hb hby d6_11) rfl rfl ?_
  have F3 : Arv Z h2 va kv .char (3 : Int32) [(.int c0), (.int c1), (.int c2)] (.int 0) := V_va.other W2 ne_va_da
  obtain ⟨cl4, Ar4, -, S4, M4, H4, -⟩ := id F3
  have hin4 : ¬ ((1 : Int32) < 0 ∨ cl4.slots.size ≤ (1 : Int32).toNatClampNeg) := inb_of S4 ⟨by decide, by decide⟩
  refine Go.by (fun _ gk => X2.caload hx (j := (1 : Int32)) (v := (.int c1)) (by rw [e2]; exact Ar4.1) (State.isArrayOf_alike hZ.alike Ar4.2.1) Ar4.2.2 hin4 (Has.at H4 hin4 rfl) (g := (mkF m 12 #[rv va, iv 1, rv da, iv 1, iv 3, iv 1, iv c0] [(.int 1), (.ref va)])) rfl rfl (hb hby d6_12) _ gk) ?_
  show Go _ _ _ _ T2 (mkF m 13 #[rv va, iv 1, rv da, iv 1, iv 3, iv 1, iv c0] [(.int c1)])
  refine Go.istore2 15 X2 hx (L' := #[rv va, iv 1, rv da, iv 1, iv 3, iv 1, iv c1]) (hb hby d6_13) rfl rfl ?_
  refine Go.iload2 17 X2 hx (hb hby d6_15) rfl rfl ?_
  refine Go.sipush 20 X2 hx (255 : Int32) (hb hby d6_17) (by decide) rfl ?_
  refine Go.icmpY 26 X2 hx (hb hby d6_20) (XT.ii_le_t hc1) (by decide) (by decide) ?_
  refine Go.aload1 27 X2 hx (hb hby d6_26) rfl rfl rfl ?_
  refine Go.iload1 28 X2 hx (hb hby d6_27) rfl rfl ?_
  refine Go.iload2 30 X2 hx (hb hby d6_28) rfl rfl ?_
  refine Go.i2b 31 X2 hx (hb hby d6_30) rfl ?_
  obtain ⟨cl5, Ar5, q5, S5, M5, H5, G5⟩ := id V2
  have hin5 : ¬ ((1 : Int32) < 0 ∨ cl5.slots.size ≤ (1 : Int32).toNatClampNeg) := inb_of S5 ⟨by decide, by decide⟩
  obtain ⟨T5, h5, X5, e5, W5, st5⟩ := stB X2 hx hZ e2 Ar5 (j := (1 : Int32)) hin5 (g := (mkF m 31 #[rv va, iv 1, rv da, iv 1, iv 3, iv 1, iv c1] [(.int (c1.toInt8.toInt32)), (.int 1), (.ref da)])) rfl rfl (hb hby d6_31)
  have N5 := Fr.snoc X5 N2 g_da
  have V5 : Arv Z h5 da kd .byte (3 : Int32) [(.int (own_b c0)), (.int (nar .byte (c1.toInt8.toInt32))), (.int 0)] (.int 0) := Arv.set Ar5 q5 S5 M5 H5 G5 (fits_nar_byte _) W5 1 rfl (Nat.le_of_ble_eq_true rfl)
  refine Go.by st5 ?_
  show Go _ _ _ _ T5 (mkF m 32 #[rv va, iv 1, rv da, iv 1, iv 3, iv 1, iv c1] [])
  rw [own_bn] at V5
  refine Go.iinc 35 X5 hx (1 : Int32) (L' := #[rv va, iv 2, rv da, iv 1, iv 3, iv 1, iv c1]) (hb hby d6_32) (by decide) rfl rfl rfl ?_
  refine Go.iinc 38 X5 hx (1 : Int32) (L' := #[rv va, iv 2, rv da, iv 2, iv 3, iv 1, iv c1]) (hb hby d6_35) (by decide) rfl rfl rfl ?_
  refine Go.iinc 41 X5 hx (1 : Int32) (L' := #[rv va, iv 2, rv da, iv 2, iv 3, iv 2, iv c1]) (hb hby d6_38) (by decide) rfl rfl rfl ?_
  refine Go.goto 3 X5 hx (hb hby d6_41) (by decide) (by decide) ?_
  refine Go.iload2 5 X5 hx (hb hby d6_3) rfl rfl ?_
  refine Go.iload2 7 X5 hx (hb hby d6_5) rfl rfl ?_
  refine Go.icmpN 10 X5 hx (hb hby d6_7) (XT.ii_ge_f (by decide)) rfl ?_
  refine Go.aload1 11 X5 hx (hb hby d6_10) rfl rfl rfl ?_
  refine Go.iload1 12 X5 hx (hb hby d6_11) rfl rfl ?_
  have F6 : Arv Z h5 va kv .char (3 : Int32) [(.int c0), (.int c1), (.int c2)] (.int 0) := F3.other W5 ne_va_da
  obtain ⟨cl7, Ar7, -, S7, M7, H7, -⟩ := id F6
  have hin7 : ¬ ((2 : Int32) < 0 ∨ cl7.slots.size ≤ (2 : Int32).toNatClampNeg) := inb_of S7 ⟨by decide, by decide⟩
  refine Go.by (fun _ gk => X5.caload hx (j := (2 : Int32)) (v := (.int c2)) (by rw [e5]; exact Ar7.1) (State.isArrayOf_alike hZ.alike Ar7.2.1) Ar7.2.2 hin7 (Has.at H7 hin7 rfl) (g := (mkF m 12 #[rv va, iv 2, rv da, iv 2, iv 3, iv 2, iv c1] [(.int 2), (.ref va)])) rfl rfl (hb hby d6_12) _ gk) ?_
  show Go _ _ _ _ T5 (mkF m 13 #[rv va, iv 2, rv da, iv 2, iv 3, iv 2, iv c1] [(.int c2)])
  refine Go.istore2 15 X5 hx (L' := #[rv va, iv 2, rv da, iv 2, iv 3, iv 2, iv c2]) (hb hby d6_13) rfl rfl ?_
  refine Go.iload2 17 X5 hx (hb hby d6_15) rfl rfl ?_
  refine Go.sipush 20 X5 hx (255 : Int32) (hb hby d6_17) (by decide) rfl ?_
  refine Go.icmpY 26 X5 hx (hb hby d6_20) (XT.ii_le_t hc2) (by decide) (by decide) ?_
  refine Go.aload1 27 X5 hx (hb hby d6_26) rfl rfl rfl ?_
  refine Go.iload1 28 X5 hx (hb hby d6_27) rfl rfl ?_
  refine Go.iload2 30 X5 hx (hb hby d6_28) rfl rfl ?_
  refine Go.i2b 31 X5 hx (hb hby d6_30) rfl ?_
  obtain ⟨cl8, Ar8, q8, S8, M8, H8, G8⟩ := id V5
  have hin8 : ¬ ((2 : Int32) < 0 ∨ cl8.slots.size ≤ (2 : Int32).toNatClampNeg) := inb_of S8 ⟨by decide, by decide⟩
  obtain ⟨T8, h8, X8, e8, W8, st8⟩ := stB X5 hx hZ e5 Ar8 (j := (2 : Int32)) hin8 (g := (mkF m 31 #[rv va, iv 2, rv da, iv 2, iv 3, iv 2, iv c2] [(.int (c2.toInt8.toInt32)), (.int 2), (.ref da)])) rfl rfl (hb hby d6_31)
  have N8 := Fr.snoc X8 N5 g_da
  have V8 : Arv Z h8 da kd .byte (3 : Int32) [(.int (own_b c0)), (.int (own_b c1)), (.int (nar .byte (c2.toInt8.toInt32)))] (.int 0) := Arv.set Ar8 q8 S8 M8 H8 G8 (fits_nar_byte _) W8 2 rfl (Nat.le_of_ble_eq_true rfl)
  refine Go.by st8 ?_
  show Go _ _ _ _ T8 (mkF m 32 #[rv va, iv 2, rv da, iv 2, iv 3, iv 2, iv c2] [])
  rw [own_bn] at V8
  refine Go.iinc 35 X8 hx (1 : Int32) (L' := #[rv va, iv 3, rv da, iv 2, iv 3, iv 2, iv c2]) (hb hby d6_32) (by decide) rfl rfl rfl ?_
  refine Go.iinc 38 X8 hx (1 : Int32) (L' := #[rv va, iv 3, rv da, iv 3, iv 3, iv 2, iv c2]) (hb hby d6_35) (by decide) rfl rfl rfl ?_
  refine Go.iinc 41 X8 hx (1 : Int32) (L' := #[rv va, iv 3, rv da, iv 3, iv 3, iv 3, iv c2]) (hb hby d6_38) (by decide) rfl rfl rfl ?_
  refine Go.goto 3 X8 hx (hb hby d6_41) (by decide) (by decide) ?_
  refine Go.iload2 5 X8 hx (hb hby d6_3) rfl rfl ?_
  refine Go.iload2 7 X8 hx (hb hby d6_5) rfl rfl ?_
  refine Go.icmpY 44 X8 hx (hb hby d6_7) (XT.ii_ge_t (by decide)) (by decide) (by decide) ?_
  refine Go.iload2 46 X8 hx (hb hby d6_44) rfl rfl ?_
  have F9 : Keep h0 h2 [da] := (Keep.refl h0 [da]).wr W2 (Or.inl (List.mem_of_getElem? (i := 0) rfl))
  have F10 : Keep h0 h5 [da] := F9.wr W5 (Or.inl (List.mem_of_getElem? (i := 0) rfl))
  have F11 : Keep h0 h8 [da] := F10.wr W8 (Or.inl (List.mem_of_getElem? (i := 0) rfl))
  exact Go.retI X8 hx Bd.notSynchronized Bd.returns rfl (by simp) (hb hby d6_46) (by rw [e8]; exact ⟨rfl, N8, F11, V8⟩) (by decide) (by decide)
def Q_rmC3_3 (Z : State) (va : Addr) (kv : ClassId) (c0 : Int32) (c1 : Int32) (c2 : Int32) (h0 : Heap) (n0 : Nat) (v : Option Value) (h : Heap) (L : List Loc) : Prop := ∃ da : Addr, ∃ kd : ClassId, v = some (.ref da) ∧ Fr n0 L ∧ Keep h0 h [] ∧ Arv Z h da kd .byte (3 : Int32) ([(.int (own_b c0)), (.int (own_b c1)), (.int (own_b c2))]) (.int 0) ∧ h0.size ≤ da
theorem rmC3_3 (l : Launch) (Z : State) (a0 : Array Value) (hw : ∀ d ∈ tables_1, d.before a0 Z = true) (ws : List Jvm.Cond) (va : Addr) (kv : ClassId) (c0 : Int32) (c1 : Int32) (c2 : Int32) (h0 : Heap) (n0 : Nat) (Z0 : n0 ≤ h0.size) (V_va : Arv Z h0 va kv .char (3 : Int32) ([(.int c0), (.int c1), (.int c2)]) (.int 0)) (hc0 : (¬ (255 : Int32) < c0)) (hc1 : (¬ (255 : Int32) < c1)) (hc2 : (¬ (255 : Int32) < c2)) :
    MetN l Z ws (⟨"java/lang/StringUTF16", "compress", "([CII)[B"⟩ : MethodName) jdk_52_method_16_code 6 (some (.array .byte)) ({ frames := 1, cells := 1, slots := 3, locals := 18 } : Room) #[(.ref va), (.int 0), (.int 3)] h0 (Q_rmC3_3 Z va kv c0 c1 c2 h0 n0) := by
  refine MetN.go (plainFor_of_name pn_605) n0 fun p e s m below meth c s₁ Bd hx hby hml hZ hh hown hnm X0 e0 N0 => ?_
  have hown : s.vm.findClass "java/lang/StringUTF16" = some m.cls := hown
  refine Go.ent (ef_630 m va (0 : Int32) (3 : Int32)) ?_
  show Go _ _ _ _ s₁ (mkF m 0 #[rv va, iv 0, iv 3, un, un, un] [])
  refine Go.iload1 1 X0 hx (hb hby d5_0) rfl rfl ?_
  obtain ⟨da, g1⟩ : ∃ z, z = h0.size := ⟨_, rfl⟩
  have ge_da : n0 ≤ da := Nat.le_trans Z0 (Nat.le_of_eq g1.symm)
  have sz_da : h0.size ≤ da := Nat.le_trans (Keep.refl h0 []).1 (Nat.le_of_eq g1.symm)
  have ne_va_da : va ≠ da := Nat.ne_of_lt (Nat.lt_of_lt_of_le V_va.lt (Nat.le_of_eq g1.symm))
  obtain ⟨T1, h1, k1, X1, e1, E1, A1, Ea1, st1⟩ := newPE X0 hx hZ (ow hw 24 rfl) e0 (g := (mkF m 1 #[rv va, iv 0, iv 3, un, un, un] [(.int 3)])) rfl (hb hby d5_1) rfl (by decide) (cap := 3) (by decide) (by decide) (by decide) (by decide) (ad := "[B") rfl
  rw [← g1] at A1 Ea1 st1
  have V_da : Arv Z h1 da k1 .byte (3 : Int32) [(.int 0), (.int 0), (.int 0)] (.int 0) := (Arv.new A1 (by decide)).pad (pad_rep [] (.int 0) 3)
  refine Go.by st1 ?_
  show Go _ _ _ _ T1 (mkF m 3 #[rv va, iv 0, iv 3, un, un, un] [(.ref da)])
  refine Go.astore1 4 X1 hx (L' := #[rv va, iv 0, iv 3, rv da, un, un]) (hb hby d5_3) rfl rfl rfl ?_
  refine Go.aload1 5 X1 hx (hb hby d5_4) rfl rfl rfl ?_
  refine Go.iload1 6 X1 hx (hb hby d5_5) rfl rfl ?_
  refine Go.aload1 7 X1 hx (hb hby d5_6) rfl rfl rfl ?_
  refine Go.iconst 8 X1 hx (0 : Int32) (hb hby d5_7) (by decide) rfl ?_
  refine Go.iload1 9 X1 hx (hb hby d5_8) rfl rfl ?_
  have F2 : Arv Z h1 va kv .char (3 : Int32) [(.int c0), (.int c1), (.int c2)] (.int 0) := V_va.ext E1
  have F3 : n0 ≤ h1.size := Nat.le_trans Z0 E1.1
  obtain ⟨_, _, ⟨T4, L4, k4, n4⟩, -, X4, ⟨Lc4, hQ4, l4, y4, z4⟩, st4⟩ := Jvm.LawKit.callS X1 hx (y := (⟨"java/lang/StringUTF16", "compress", "([CI[BII)I"⟩ : MethodName)) hown (mvT hZ (ow hw 25 rfl)) (mvT hZ (ow hw 26 rfl)) (mvT hZ (ow hw 22 rfl)) (mvT hZ (ow hw 27 rfl)) (by decide) (backOf (W := 0) (rmC5_3 l Z a0 hw [] va da kv k1 c0 c1 c2 h1 n0 F3 F2 V_da ge_da ne_va_da hc0 hc1 hc2) hZ (ow hw 27 rfl) (ow hw 22 rfl) (by decide) (by decide)) (g := (mkF m 9 #[rv va, iv 0, iv 3, rv da, un, un] [(.int 3), (.int 0), (.ref da), (.int 0), (.ref va)])) rfl (by rw [hml]; rfl) (argsL := [(.ref va), (.int 0), (.ref da), (.int 0), (.int 3)]) (rest := []) (lenOf pd_639 rfl) rfl (by show 2 * 0 + _ ≤ _; exact Nat.le_of_eq rfl) (hb hby d5_9) (fun _ _ => ⟨rfl, e1, (by decide : 1 + 0 ≤ _), (by decide : 3 + 0 ≤ _)⟩)
  dsimp only [Pt.U, Pt.locs, Pt.cells, Pt.slots] at X4 l4 y4 z4 st4 hQ4
  subst l4 y4 z4
  obtain ⟨rfl, N4q, K4, Q4_0⟩ := hQ4
  have N4 := Fr.app N0 N4q
  refine Go.by st4 ?_
  show Go _ _ _ _ T4 (mkF m 12 #[rv va, iv 0, iv 3, rv da, un, un] [(.int 3)])
  refine Go.istore2 14 X4 hx (L' := #[rv va, iv 0, iv 3, rv da, iv 3, un]) (hb hby d5_12) rfl rfl ?_
  refine Go.iload2 16 X4 hx (hb hby d5_14) rfl rfl ?_
  refine Go.iload1 17 X4 hx (hb hby d5_16) rfl rfl ?_
  refine Go.icmpY 57 X4 hx (hb hby d5_17) (XT.ii_eq_t rfl) (by decide) (by decide) ?_
  refine Go.aload1 58 X4 hx (hb hby d5_57) rfl rfl rfl ?_
  have F5 : Keep h0 h1 [] := (Keep.refl h0 []).ext E1
  have F6 : Keep h0 T4.heap [] := F5.trans K4 (allS (Or.inr sz_da) all0)
  exact Go.retA X4 hx Bd.notSynchronized Bd.returns rfl rfl (hb hby d5_58) ⟨da, k1, rfl, N4, F6, Q4_0, sz_da⟩ (by decide) (by decide)
def Q_rmCoder_3 (Z : State) (da : Addr) (kd : ClassId) (vs : List Value) (h0 : Heap) (n0 : Nat) (v : Option Value) (h : Heap) (L : List Loc) : Prop := v = some (.int 0) ∧ Fr n0 L ∧ h = h0
theorem rmCoder_3 (l : Launch) (Z : State) (a0 : Array Value) (hw : ∀ d ∈ tables_1, d.before a0 Z = true) (ws : List Jvm.Cond) (da : Addr) (kd : ClassId) (vs : List Value) (h0 : Heap) (n0 : Nat) (Z0 : n0 ≤ h0.size) (V_da : Arv Z h0 da kd .byte (3 : Int32) vs (.int 0)) :
    MetN l Z ws (⟨"java/lang/StringUTF16", "coderFromArrayLen", "([BI)B"⟩ : MethodName) jdk_52_method_15_code 2 (some .byte) ({ frames := 0, cells := 0, slots := 0, locals := 0 } : Room) #[(.ref da), (.int 3)] h0 (Q_rmCoder_3 Z da kd vs h0 n0) := by
  refine MetN.go (plainFor_of_name pn_605) n0 fun p e s m below meth c s₁ Bd hx hby hml hZ hh hown hnm X0 e0 N0 => ?_
  have hown : s.vm.findClass "java/lang/StringUTF16" = some m.cls := hown
  refine Go.ent (ef_53 m da (3 : Int32)) ?_
  show Go _ _ _ _ s₁ (mkF m 0 #[rv da, iv 3] [])
  refine Go.iload1 1 X0 hx (hb hby d7_0) rfl rfl ?_
  refine Go.aload1 2 X0 hx (hb hby d7_1) rfl rfl rfl ?_
  obtain ⟨cl1, Ar1, -, S1, M1, -, -⟩ := id V_da
  refine Go.by (fun _ gk => X0.arraylength hx (by rw [e0]; exact Ar1.1) (State.isArrayOf_alike hZ.alike Ar1.2.1) (g := (mkF m 2 #[rv da, iv 3] [(.ref da), (.int 3)])) rfl rfl (hb hby d7_2) _ gk) ?_
  rw [len_of S1 M1]
  show Go _ _ _ _ s₁ (mkF m 3 #[rv da, iv 3] [(.int 3), (.int 3)])
  refine Go.isub 4 X0 hx (hb hby d7_3) rfl ?_
  rw [(by decide : ((3 : Int32) - (3 : Int32)) = (0 : Int32))]
  refine Go.bipush 6 X0 hx (31 : Int32) (hb hby d7_4) (by decide) rfl ?_
  refine Go.iushr 7 X0 hx (hb hby d7_6) rfl ?_
  rw [(by decide : (XT.ushr (0 : Int32) (31 : Int32)) = (0 : Int32))]
  refine Go.i2b 8 X0 hx (hb hby d7_7) rfl ?_
  rw [(by decide : ((0 : Int32).toInt8.toInt32) = (0 : Int32))]
  exact Go.retI X0 hx Bd.notSynchronized Bd.returns rfl (by simp) (hb hby d7_8) (by rw [e0]; exact ⟨rfl, N0, rfl⟩) (by decide) (by decide)
def Q_rmS4_3 (Z : State) (a : Addr) (va : Addr) (kv : ClassId) (c0 : Int32) (c1 : Int32) (c2 : Int32) (cs : Int32) (h0 : Heap) (n0 : Nat) (v : Option Value) (h : Heap) (L : List Loc) : Prop := ∃ b : Addr, ∃ kb : ClassId, v = none ∧ Fr n0 L ∧ Keep h0 h [a] ∧ Exa Z h a "java/lang/String" ∧ Fld Z h a "java/lang/String" "coder" "B" (.int 0) ∧ Fld Z h a "java/lang/String" "value" "[B" (.ref b) ∧ Arv Z h b kb .byte (3 : Int32) ([(.int (own_b c0)), (.int (own_b c1)), (.int (own_b c2))]) (.int 0) ∧ h0.size ≤ b
theorem rmS4_3 (l : Launch) (Z : State) (a0 : Array Value) (hw : ∀ d ∈ tables_1, d.before a0 Z = true) (ws : List Jvm.Cond) (a : Addr) (va : Addr) (kv : ClassId) (c0 : Int32) (c1 : Int32) (c2 : Int32) (cs : Int32) (h0 : Heap) (n0 : Nat) (Z0 : n0 ≤ h0.size) (O0 : Old Z n0 h0) (E_a : Exa Z h0 a "java/lang/String") (F_a_value : Fld Z h0 a "java/lang/String" "value" "[B" .null) (F_a_coder : Fld Z h0 a "java/lang/String" "coder" "B" (.int 0)) (g_a : n0 ≤ a) (V_va : Arv Z h0 va kv .char (3 : Int32) ([(.int c0), (.int c1), (.int c2)]) (.int 0)) (hc0 : (¬ (255 : Int32) < c0)) (hc1 : (¬ (255 : Int32) < c1)) (hc2 : (¬ (255 : Int32) < c2)) (S_cs : Sta Z Z.heap "java/lang/String" "COMPACT_STRINGS" "Z" (.int cs)) (n_cs : ¬ cs = 0) :
    MetN l Z ws (⟨"java/lang/String", "<init>", "([CIILjava/lang/Void;)V"⟩ : MethodName) jdk_42_method_149_code 6 none ({ frames := 2, cells := 1, slots := 3, locals := 35 } : Room) #[(.ref a), (.ref va), (.int 0), (.int 3), .null] h0 (Q_rmS4_3 Z a va kv c0 c1 c2 cs h0 n0) := by
  refine MetN.go (plainFor_of_name pn_3) n0 fun p e s m below meth c s₁ Bd hx hby hml hZ hh hown hnm X0 e0 N0 => ?_
  have hown : s.vm.findClass "java/lang/String" = some m.cls := hown
  refine Go.ent (ef_655 m a va (0 : Int32) (3 : Int32)) ?_
  show Go _ _ _ _ s₁ (mkF m 0 #[rv a, rv va, iv 0, iv 3, .val .null, un] [])
  refine Go.aload1 1 X0 hx (hb hby d3_0) rfl rfl rfl ?_
  obtain ⟨T1, X1, e1, st1⟩ := initO X0 hx hZ hown (ow hw 16 rfl) (ow hw 17 rfl) (ow hw 18 rfl) e0 (g := (mkF m 1 #[rv a, rv va, iv 0, iv 3, .val .null, un] [(.ref a)])) rfl (by rw [hml]; rfl) rfl (hb hby d3_1) (by decide) (W := 0) (by show 2 * 0 + _ ≤ _; exact Nat.le_of_eq rfl) (by decide)
  refine Go.by st1 ?_
  show Go _ _ _ _ T1 (mkF m 4 #[rv a, rv va, iv 0, iv 3, .val .null, un] [])
  refine Go.iload1 5 X1 hx (hb hby d3_4) rfl rfl ?_
  refine Go.ifY 27 X1 hx (hb hby d3_5) (XT.i0_ne_t (by decide)) (by decide) (by decide) ?_
  have F2 : Sta Z h0 "java/lang/String" "COMPACT_STRINGS" "Z" (.int cs) := S_cs.ext O0.2
  obtain ⟨T3, X3, e3, st3⟩ := getS2 X1 hx hZ hown (host := "") (Or.inl (ow hw 19 rfl)) Via.refl e1 F2 (g := (mkF m 27 #[rv a, rv va, iv 0, iv 3, .val .null, un] [])) rfl (hb hby d3_27)
  refine Go.by st3 ?_
  show Go _ _ _ _ T3 (mkF m 30 #[rv a, rv va, iv 0, iv 3, .val .null, un] [(.int cs)])
  refine Go.ifN 33 X3 hx (hb hby d3_30) (XT.i0_eq_f n_cs) rfl ?_
  refine Go.aload1 34 X3 hx (hb hby d3_33) rfl rfl rfl ?_
  refine Go.iload1 35 X3 hx (hb hby d3_34) rfl rfl ?_
  refine Go.iload1 36 X3 hx (hb hby d3_35) rfl rfl ?_
  obtain ⟨_, _, ⟨T4, L4, k4, n4⟩, -, X4, ⟨Lc4, hQ4, l4, y4, z4⟩, st4⟩ := Jvm.LawKit.callS X3 hx (y := (⟨"java/lang/StringUTF16", "compress", "([CII)[B"⟩ : MethodName)) hown (mvT hZ (ow hw 20 rfl)) (mvT hZ (ow hw 21 rfl)) (mvT hZ (ow hw 22 rfl)) (mvT hZ (ow hw 23 rfl)) (by decide) (backOf (W := 0) (rmC3_3 l Z a0 hw [] va kv c0 c1 c2 h0 n0 Z0 V_va hc0 hc1 hc2) hZ (ow hw 23 rfl) (ow hw 22 rfl) (by decide) (by decide)) (g := (mkF m 36 #[rv a, rv va, iv 0, iv 3, .val .null, un] [(.int 3), (.int 0), (.ref va)])) rfl (by rw [hml]; rfl) (argsL := [(.ref va), (.int 0), (.int 3)]) (rest := []) (lenOf pd_665 rfl) rfl (by show 2 * 0 + _ ≤ _; exact Nat.le_of_eq rfl) (hb hby d3_36) (fun _ _ => ⟨rfl, e3, (by decide : 0 + 1 ≤ _), (by decide : 0 + 3 ≤ _)⟩)
  dsimp only [Pt.U, Pt.locs, Pt.cells, Pt.slots] at X4 l4 y4 z4 st4 hQ4
  subst l4 y4 z4
  obtain ⟨b, kb, rfl, N4q, K4, Q4_0, Q4_1⟩ := hQ4
  have N4 := Fr.app N0 N4q
  refine Go.by st4 ?_
  show Go _ _ _ _ T4 (mkF m 39 #[rv a, rv va, iv 0, iv 3, .val .null, un] [(.ref b)])
  have ge_b : n0 ≤ b := Nat.le_trans Z0 Q4_1
  have sz_b : h0.size ≤ b := Nat.le_trans (Keep.refl h0 [a]).1 Q4_1
  have ne_a_b : a ≠ b := Nat.ne_of_lt (Nat.lt_of_lt_of_le E_a.lt Q4_1)
  have ne_va_b : va ≠ b := Nat.ne_of_lt (Nat.lt_of_lt_of_le V_va.lt Q4_1)
  refine Go.astore2 41 X4 hx (L' := #[rv a, rv va, iv 0, iv 3, .val .null, rv b]) (hb hby d3_39) rfl rfl rfl ?_
  refine Go.aload1 42 X4 hx (hb hby d3_41) rfl rfl rfl ?_
  refine Go.aload2 44 X4 hx (hb hby d3_42) rfl rfl rfl ?_
  refine Go.iload1 45 X4 hx (hb hby d3_44) rfl rfl ?_
  have F5 : n0 ≤ T4.heap.size := Nat.le_trans Z0 K4.1
  obtain ⟨_, _, ⟨T6, L6, k6, n6⟩, -, X6, ⟨Lc6, hQ6, l6, y6, z6⟩, st6⟩ := Jvm.LawKit.callS X4 hx (y := (⟨"java/lang/StringUTF16", "coderFromArrayLen", "([BI)B"⟩ : MethodName)) hown (mvT hZ (ow hw 28 rfl)) (mvT hZ (ow hw 29 rfl)) (mvT hZ (ow hw 22 rfl)) (mvT hZ (ow hw 30 rfl)) (by decide) (backOf (W := 1) (rmCoder_3 l Z a0 hw [] b kb ([(.int (own_b c0)), (.int (own_b c1)), (.int (own_b c2))]) T4.heap n0 F5 Q4_0) hZ (ow hw 30 rfl) (ow hw 22 rfl) (by decide) (by decide)) (g := (mkF m 45 #[rv a, rv va, iv 0, iv 3, .val .null, rv b] [(.int 3), (.ref b), (.ref a)])) rfl (by rw [hml]; rfl) (argsL := [(.ref b), (.int 3)]) (rest := [(.ref a)]) (lenOf pd_671 rfl) rfl (by show 2 * 0 + _ ≤ _; exact Nat.le_of_eq rfl) (hb hby d3_45) (fun _ _ => ⟨rfl, rfl, (by decide : 1 + 0 ≤ _), (by decide : 3 + 0 ≤ _)⟩)
  dsimp only [Pt.U, Pt.locs, Pt.cells, Pt.slots] at X6 l6 y6 z6 st6 hQ6
  subst l6 y6 z6
  obtain ⟨rfl, N6q, e6⟩ := hQ6
  have N6 := Fr.app N4 N6q
  refine Go.by st6 ?_
  show Go _ _ _ _ T6 (mkF m 48 #[rv a, rv va, iv 0, iv 3, .val .null, rv b] [(.int 0), (.ref a)])
  have F7 : Fld Z T4.heap a "java/lang/String" "coder" "B" (.int 0) := F_a_coder.keep K4 nin0
  have F8 : Exa Z T4.heap a "java/lang/String" := E_a.keep K4
  obtain ⟨T9, h9, X9, e9, W9, st9⟩ := putFN X6 hx hZ hown (ow hw 31 rfl) Via.refl e6 F7 F8 (Or.inr ⟨(ow hw 32 rfl), rfl, hnm⟩) (ow hw 7 rfl) (ty := .byte) (v' := (.int 0)) (by decide) rfl rfl (g := (mkF m 48 #[rv a, rv va, iv 0, iv 3, .val .null, rv b] [(.int 0), (.ref a)])) rfl rfl (hb hby d3_48)
  have N9 := Fr.snoc X9 N6 g_a
  have Fw9 : Fld Z h9 a "java/lang/String" "coder" "B" (.int 0) := F7.same W9
  refine Go.by st9 ?_
  show Go _ _ _ _ T9 (mkF m 51 #[rv a, rv va, iv 0, iv 3, .val .null, rv b] [])
  refine Go.aload1 52 X9 hx (hb hby d3_51) rfl rfl rfl ?_
  refine Go.aload2 54 X9 hx (hb hby d3_52) rfl rfl rfl ?_
  have F10 : Fld Z T4.heap a "java/lang/String" "value" "[B" .null := F_a_value.keep K4 nin0
  have F11 : Fld Z h9 a "java/lang/String" "value" "[B" .null := F10.other W9 (Or.inr (slot_ne (Or.inr (ow hw 34 rfl)) (Or.inr (ow hw 32 rfl)) (by decide) (t := (.array .byte)) (t' := .byte) (by decide) (by decide)))
  have F12 : Exa Z h9 a "java/lang/String" := F8.wr W9
  obtain ⟨T13, h13, X13, e13, W13, st13⟩ := putF X9 hx hZ hown (host := "") (Or.inl (ow hw 33 rfl)) Via.refl e9 F11 F12 (Or.inr ⟨(ow hw 34 rfl), rfl, hnm⟩) (ow hw 7 rfl) (ty := (.array .byte)) (by decide) rfl rfl (g := (mkF m 54 #[rv a, rv va, iv 0, iv 3, .val .null, rv b] [(.ref b), (.ref a)])) rfl rfl (hb hby d3_54)
  have N13 := Fr.snoc X13 N9 g_a
  have Fw13 : Fld Z h13 a "java/lang/String" "value" "[B" (.ref b) := F11.same W13
  refine Go.by st13 ?_
  show Go _ _ _ _ T13 (mkF m 57 #[rv a, rv va, iv 0, iv 3, .val .null, rv b] [])
  have F14 : Keep h0 T4.heap [a] := (Keep.refl h0 [a]).trans K4 all0
  have F15 : Keep h0 h9 [a] := F14.wr W9 (Or.inl (List.mem_of_getElem? (i := 0) rfl))
  have F16 : Keep h0 h13 [a] := F15.wr W13 (Or.inl (List.mem_of_getElem? (i := 0) rfl))
  have F17 : Exa Z h13 a "java/lang/String" := F12.wr W13
  have F18 : Fld Z h13 a "java/lang/String" "coder" "B" (.int 0) := Fw9.other W13 (Or.inr (slot_ne (Or.inr (ow hw 32 rfl)) (Or.inr (ow hw 34 rfl)) (by decide) (t := .byte) (t' := (.array .byte)) (by decide) (by decide)))
  have F19 : Arv Z h9 b kb .byte (3 : Int32) [(.int (own_b c0)), (.int (own_b c1)), (.int (own_b c2))] (.int 0) := Q4_0.other W9 (Ne.symm ne_a_b)
  have F20 : Arv Z h13 b kb .byte (3 : Int32) [(.int (own_b c0)), (.int (own_b c1)), (.int (own_b c2))] (.int 0) := F19.other W13 (Ne.symm ne_a_b)
  exact Go.retV X13 hx Bd.notSynchronized Bd.returns (hb hby d3_57) (by rw [e13]; exact ⟨b, kb, rfl, N13, F16, F17, F18, Fw13, F20, sz_b⟩) (by decide) (by decide)
def Q_rmS1_3 (Z : State) (a : Addr) (va : Addr) (kv : ClassId) (c0 : Int32) (c1 : Int32) (c2 : Int32) (cs : Int32) (h0 : Heap) (n0 : Nat) (v : Option Value) (h : Heap) (L : List Loc) : Prop := ∃ b : Addr, ∃ kb : ClassId, v = none ∧ Fr n0 L ∧ Keep h0 h [a] ∧ Exa Z h a "java/lang/String" ∧ Fld Z h a "java/lang/String" "coder" "B" (.int 0) ∧ Fld Z h a "java/lang/String" "value" "[B" (.ref b) ∧ Arv Z h b kb .byte (3 : Int32) ([(.int (own_b c0)), (.int (own_b c1)), (.int (own_b c2))]) (.int 0) ∧ h0.size ≤ b
theorem rmS1_3 (l : Launch) (Z : State) (a0 : Array Value) (hw : ∀ d ∈ tables_1, d.before a0 Z = true) (ws : List Jvm.Cond) (a : Addr) (va : Addr) (kv : ClassId) (c0 : Int32) (c1 : Int32) (c2 : Int32) (cs : Int32) (h0 : Heap) (n0 : Nat) (Z0 : n0 ≤ h0.size) (O0 : Old Z n0 h0) (E_a : Exa Z h0 a "java/lang/String") (F_a_value : Fld Z h0 a "java/lang/String" "value" "[B" .null) (F_a_coder : Fld Z h0 a "java/lang/String" "coder" "B" (.int 0)) (g_a : n0 ≤ a) (V_va : Arv Z h0 va kv .char (3 : Int32) ([(.int c0), (.int c1), (.int c2)]) (.int 0)) (hc0 : (¬ (255 : Int32) < c0)) (hc1 : (¬ (255 : Int32) < c1)) (hc2 : (¬ (255 : Int32) < c2)) (S_cs : Sta Z Z.heap "java/lang/String" "COMPACT_STRINGS" "Z" (.int cs)) (n_cs : ¬ cs = 0) :
    MetN l Z ws (⟨"java/lang/String", "<init>", "([C)V"⟩ : MethodName) jdk_42_method_3_code 2 none ({ frames := 3, cells := 1, slots := 3, locals := 52 } : Room) #[(.ref a), (.ref va)] h0 (Q_rmS1_3 Z a va kv c0 c1 c2 cs h0 n0) := by
  refine MetN.go (plainFor_of_name pn_3) n0 fun p e s m below meth c s₁ Bd hx hby hml hZ hh hown hnm X0 e0 N0 => ?_
  have hown : s.vm.findClass "java/lang/String" = some m.cls := hown
  refine Go.ent (ef_125 m a va) ?_
  show Go _ _ _ _ s₁ (mkF m 0 #[rv a, rv va] [])
  refine Go.aload1 1 X0 hx (hb hby d2_0) rfl rfl rfl ?_
  refine Go.aload1 2 X0 hx (hb hby d2_1) rfl rfl rfl ?_
  refine Go.iconst 3 X0 hx (0 : Int32) (hb hby d2_2) (by decide) rfl ?_
  refine Go.aload1 4 X0 hx (hb hby d2_3) rfl rfl rfl ?_
  obtain ⟨cl1, Ar1, -, S1, M1, -, -⟩ := id V_va
  refine Go.by (fun _ gk => X0.arraylength hx (by rw [e0]; exact Ar1.1) (State.isArrayOf_alike hZ.alike Ar1.2.1) (g := (mkF m 4 #[rv a, rv va] [(.ref va), (.int 0), (.ref va), (.ref a)])) rfl rfl (hb hby d2_4) _ gk) ?_
  rw [len_of S1 M1]
  show Go _ _ _ _ s₁ (mkF m 5 #[rv a, rv va] [(.int 3), (.int 0), (.ref va), (.ref a)])
  refine Go.aconst_null 6 X0 hx (hb hby d2_5) rfl ?_
  obtain ⟨_, _, ⟨T2, L2, k2, n2⟩, -, X2, ⟨Lc2, hQ2, l2, y2, z2⟩, st2⟩ := X0.specialBack hx (y := (⟨"java/lang/String", "<init>", "([CIILjava/lang/Void;)V"⟩ : MethodName)) rfl hown (mvT hZ (ow hw 12 rfl)) (mvT hZ (ow hw 13 rfl)) (mvT hZ (ow hw 15 rfl)) (by decide) (backOf (W := 0) (rmS4_3 l Z a0 hw [] a va kv c0 c1 c2 cs h0 n0 Z0 O0 E_a F_a_value F_a_coder g_a V_va hc0 hc1 hc2 S_cs n_cs) hZ (ow hw 15 rfl) (ow hw 8 rfl) (by decide) (by decide)) (g := (mkF m 6 #[rv a, rv va] [.null, (.int 3), (.int 0), (.ref va), (.ref a)])) rfl (by rw [hml]; rfl) (Steps.refl _) (a := a) (argsL := [(.ref va), (.int 0), (.int 3), .null]) (rest := []) (lenOf pd_684 rfl) rfl (by show 2 * 0 + _ ≤ _; exact Nat.le_of_eq rfl) (hb hby d2_6) (fun _ _ => ⟨rfl, e0, (by decide : 0 + 1 ≤ _), (by decide : 0 + 3 ≤ _)⟩)
  dsimp only [Pt.U, Pt.locs, Pt.cells, Pt.slots] at X2 l2 y2 z2 st2 hQ2
  subst l2 y2 z2
  obtain ⟨b, kb, rfl, N2q, K2, Q2_0, Q2_1, Q2_2, Q2_3, Q2_4⟩ := hQ2
  have N2 := Fr.app N0 N2q
  refine Go.to st2 ?_
  show Go _ _ _ _ T2 (mkF m 9 #[rv a, rv va] [])
  have ge_b : n0 ≤ b := Nat.le_trans Z0 Q2_4
  have sz_b : h0.size ≤ b := Nat.le_trans (Keep.refl h0 [a]).1 Q2_4
  have ne_a_b : a ≠ b := Nat.ne_of_lt (Nat.lt_of_lt_of_le E_a.lt Q2_4)
  have ne_va_b : va ≠ b := Nat.ne_of_lt (Nat.lt_of_lt_of_le V_va.lt Q2_4)
  have F3 : Keep h0 T2.heap [a] := (Keep.refl h0 [a]).trans K2 (allS (Or.inl (List.mem_of_getElem? (i := 0) rfl)) all0)
  exact Go.retV X2 hx Bd.notSynchronized Bd.returns (hb hby d2_9) ⟨b, kb, rfl, N2, F3, Q2_0, Q2_1, Q2_2, Q2_3, sz_b⟩ (by decide) (by decide)
def Q_rm0 (Z : State) (p0 : Int32) (p1 : Int32) (p2 : Int32) (p3 : Int32) (p4 : Int32) (cs : Int32) (d1 : Addr) (d2 : Addr) (kd1 : ClassId) (kd2 : ClassId) (sf : Value) (h0 : Heap) (n0 : Nat) (v : Option Value) (h : Heap) (L : List Loc) : Prop := v = some (.int 1) ∧ Fr n0 L
theorem rm0 (l : Launch) (Z : State) (a0 : Array Value) (hw : ∀ d ∈ tables_1, d.before a0 Z = true) (ws : List Jvm.Cond) (p0 : Int32) (p1 : Int32) (p2 : Int32) (p3 : Int32) (p4 : Int32) (cs : Int32) (d1 : Addr) (d2 : Addr) (kd1 : ClassId) (kd2 : ClassId) (sf : Value) (h0 : Heap) (n0 : Nat) (Z0 : n0 ≤ h0.size) (O0 : Old Z n0 h0) (S_cs : Sta Z Z.heap "java/lang/String" "COMPACT_STRINGS" "Z" (.int cs)) (n_cs : ¬ cs = 0) (S_d1 : Sta Z Z.heap "java/lang/Integer" "DigitOnes" "[B" (.ref d1)) (V_d1 : Arv Z Z.heap d1 kd1 .byte (100 : Int32) own_ones (.int 0)) (S_d2 : Sta Z Z.heap "java/lang/Integer" "DigitTens" "[B" (.ref d2)) (V_d2 : Arv Z Z.heap d2 kd2 .byte (100 : Int32) own_tens (.int 0)) (S_sf : Sta Z Z.heap "jdk/internal/util/Preconditions" "SIOOBE_FORMATTER" "Ljava/util/function/BiFunction;" sf) (r_sf : sf.isRef = true) :
    MetFree l x (head1 (Jvm.Cond.code x code maxLocals ret :: ws) room_1) (fun as' U => as' = #[(.int p0), (.int p1), (.int p2), (.int p3), (.int p4)] ∧ Z.Warmed39 U.vm ∧ U.heap = h0 ∧ CHv Z own_EL U.vm h0) (fun _ _ _ _ _ => True) (fun _ U o U' => ∃ v L, o = .returned v ∧ Q_rm0 Z p0 p1 p2 p3 p4 cs d1 d2 kd1 kd2 sf h0 n0 v U'.heap L ∧ CHr Z own_EL U.vm U.heap U'.vm U'.heap ∧ ReturnedEndW U o U' L 48 3328) := by
  refine MetFree.of_bodySF (plainFor_of_name pn_76) hisR ?_
  intro p e s m args below meth c s₁ Bd hml0 hP hK
  obtain ⟨rfl, hZ, hh, hH⟩ := hP
  have hx := Bd.exec
  have hby := Bd.bytes
  have hml : c.maxLocals = 19 := hml0
  have hown : s.vm.findClass "com/example/entries_to_nodes/entriestonodes/component/ServerAddressToStringPinLaw" = some m.cls := findClass_of_methodNamed Bd.named
  have hnm := (name_of_methodNamed Bd.named Bd.method).1
  have X0 : Stand p l e room_1 (s.setVm s.vm) m #[(.int p0), (.int p1), (.int p2), (.int p3), (.int p4)] below meth c s₁ [] 0 0 := Stand.of_body Bd
  have e0 : s₁.heap = h0 := by rw [← hh, Bd.state]; rfl
  have N0 := Fr.nil n0
  have hS0 : s.Since s.vm s.heap.size := (State.WarmedH.refl s).since _
  have hk0 : s.heap.size ≤ h0.size := Nat.le_of_eq (by rw [hh])
  have C0 : CHr Z own_EL s.vm h0 s.vm h0 := CHr.refl hH
  have hEL := own_EW hw
  have hSA := own_SA hw
  refine Go.enter (F := EndW Z own_EL s (Q_rm0 Z p0 p1 p2 p3 p4 cs d1 d2 kd1 kd2 sf h0 n0) 48 3328) (ef_602 m p0 p1 p2 p3 p4) ?_
  show Go _ _ _ _ s₁ (mkF m 0 #[iv p0, iv p1, iv p2, iv p3, iv p4, un, un, un, un, un, un, un, un, un, un, un, un, un, un] [])
  refine Go.iconst 1 X0 hx (1 : Int32) (hb hby at_0) (by decide) rfl ?_
  refine Go.iload1 2 X0 hx (hb hby at_1) rfl rfl ?_
  refine Go.by (fun _ gk => X0.ldcI hx hown (mvT hZ (ow hw 0 rfl)) (g := (mkF m 2 #[iv p0, iv p1, iv p2, iv p3, iv p4, un, un, un, un, un, un, un, un, un, un, un, un, un, un] [(.int p0), (.int 1)])) rfl (hb hby at_2) gk) ?_
  show Go _ _ _ _ s₁ (mkF m 4 #[iv p0, iv p1, iv p2, iv p3, iv p4, un, un, un, un, un, un, un, un, un, un, un, un, un, un] [(.int 2147483647), (.int p0), (.int 1)])
  refine Go.iand 5 X0 hx (hb hby at_4) rfl ?_
  refine Go.iconst 6 X0 hx (3 : Int32) (hb hby at_5) (by decide) rfl ?_
  refine Go.irem 7 X0 hx (hb hby at_6) (by decide) rfl ?_
  refine Go.iadd 8 X0 hx (hb hby at_7) rfl ?_
  refine Go.istore2 10 X0 hx (L' := #[iv p0, iv p1, iv p2, iv p3, iv p4, iv ((1 : Int32) + ((p0 &&& (2147483647 : Int32)) - (p0 &&& (2147483647 : Int32)) / (3 : Int32) * (3 : Int32))), un, un, un, un, un, un, un, un, un, un, un, un, un]) (hb hby at_8) rfl rfl ?_
  obtain ⟨nn, h_nn⟩ : ∃ z, z = ((1 : Int32) + ((p0 &&& (2147483647 : Int32)) - (p0 &&& (2147483647 : Int32)) / (3 : Int32) * (3 : Int32))) := ⟨_, rfl⟩
  rw [← h_nn]
  show Go _ _ _ _ s₁ (mkF m 10 #[iv p0, iv p1, iv p2, iv p3, iv p4, iv nn, un, un, un, un, un, un, un, un, un, un, un, un, un] [])
  refine Go.iload1 11 X0 hx (hb hby at_10) rfl rfl ?_
  obtain ⟨_, _, ⟨T1, L1, k1, n1⟩, -, X1, ⟨Lc1, hQ1, l1, y1, z1⟩, st1⟩ := Jvm.LawKit.callS X0 hx (y := (⟨"com/example/entries_to_nodes/entriestonodes/component/ServerAddressToStringPinLaw", "draw", "(I)C"⟩ : MethodName)) hown (mvT hZ (ow hw 1 rfl)) (mvT hZ (ow hw 2 rfl)) (mvT hZ (ow hw 3 rfl)) (mvT hZ (ow hw 4 rfl)) (by decide) (backOf (W := 0) (rmDraw l Z a0 hw [] p1 h0 n0 Z0 ) hZ (ow hw 4 rfl) (ow hw 3 rfl) (by decide) (by decide)) (g := (mkF m 11 #[iv p0, iv p1, iv p2, iv p3, iv p4, iv nn, un, un, un, un, un, un, un, un, un, un, un, un, un] [(.int p1)])) rfl (by rw [hml]; rfl) (argsL := [(.int p1)]) (rest := []) (lenOf pd_83 rfl) rfl (by show 2 * 0 + _ ≤ _; exact Nat.le_of_eq rfl) (hb hby at_11) (fun _ _ => ⟨rfl, e0, (by decide : 0 + 0 ≤ _), (by decide : 0 + 0 ≤ _)⟩)
  dsimp only [Pt.U, Pt.locs, Pt.cells, Pt.slots] at X1 l1 y1 z1 st1 hQ1
  subst l1 y1 z1
  obtain ⟨c0, rfl, N1q, e1, Q1_0⟩ := hQ1
  have N1 := Fr.app N0 N1q
  refine Go.by st1 ?_
  show Go _ _ _ _ T1 (mkF m 14 #[iv p0, iv p1, iv p2, iv p3, iv p4, iv nn, un, un, un, un, un, un, un, un, un, un, un, un, un] [(.int c0)])
  refine Go.istore2 16 X1 hx (L' := #[iv p0, iv p1, iv p2, iv p3, iv p4, iv nn, iv c0, un, un, un, un, un, un, un, un, un, un, un, un]) (hb hby at_14) rfl rfl ?_
  refine Go.iload1 17 X1 hx (hb hby at_16) rfl rfl ?_
  obtain ⟨_, _, ⟨T2, L2, k2, n2⟩, -, X2, ⟨Lc2, hQ2, l2, y2, z2⟩, st2⟩ := Jvm.LawKit.callS X1 hx (y := (⟨"com/example/entries_to_nodes/entriestonodes/component/ServerAddressToStringPinLaw", "draw", "(I)C"⟩ : MethodName)) hown (mvT hZ (ow hw 1 rfl)) (mvT hZ (ow hw 2 rfl)) (mvT hZ (ow hw 3 rfl)) (mvT hZ (ow hw 4 rfl)) (by decide) (backOf (W := 0) (rmDraw l Z a0 hw [] p2 h0 n0 Z0 ) hZ (ow hw 4 rfl) (ow hw 3 rfl) (by decide) (by decide)) (g := (mkF m 17 #[iv p0, iv p1, iv p2, iv p3, iv p4, iv nn, iv c0, un, un, un, un, un, un, un, un, un, un, un, un] [(.int p2)])) rfl (by rw [hml]; rfl) (argsL := [(.int p2)]) (rest := []) (lenOf pd_83 rfl) rfl (by show 2 * 0 + _ ≤ _; exact Nat.le_of_eq rfl) (hb hby at_17) (fun _ _ => ⟨rfl, e1, (by decide : 0 + 0 ≤ _), (by decide : 0 + 0 ≤ _)⟩)
  dsimp only [Pt.U, Pt.locs, Pt.cells, Pt.slots] at X2 l2 y2 z2 st2 hQ2
  subst l2 y2 z2
  obtain ⟨c1, rfl, N2q, e2, Q2_0⟩ := hQ2
  have N2 := Fr.app N1 N2q
  refine Go.by st2 ?_
  show Go _ _ _ _ T2 (mkF m 20 #[iv p0, iv p1, iv p2, iv p3, iv p4, iv nn, iv c0, un, un, un, un, un, un, un, un, un, un, un, un] [(.int c1)])
  refine Go.istore2 22 X2 hx (L' := #[iv p0, iv p1, iv p2, iv p3, iv p4, iv nn, iv c0, iv c1, un, un, un, un, un, un, un, un, un, un, un]) (hb hby at_20) rfl rfl ?_
  refine Go.iload1 23 X2 hx (hb hby at_22) rfl rfl ?_
  obtain ⟨_, _, ⟨T3, L3, k3, n3⟩, -, X3, ⟨Lc3, hQ3, l3, y3, z3⟩, st3⟩ := Jvm.LawKit.callS X2 hx (y := (⟨"com/example/entries_to_nodes/entriestonodes/component/ServerAddressToStringPinLaw", "draw", "(I)C"⟩ : MethodName)) hown (mvT hZ (ow hw 1 rfl)) (mvT hZ (ow hw 2 rfl)) (mvT hZ (ow hw 3 rfl)) (mvT hZ (ow hw 4 rfl)) (by decide) (backOf (W := 0) (rmDraw l Z a0 hw [] p3 h0 n0 Z0 ) hZ (ow hw 4 rfl) (ow hw 3 rfl) (by decide) (by decide)) (g := (mkF m 23 #[iv p0, iv p1, iv p2, iv p3, iv p4, iv nn, iv c0, iv c1, un, un, un, un, un, un, un, un, un, un, un] [(.int p3)])) rfl (by rw [hml]; rfl) (argsL := [(.int p3)]) (rest := []) (lenOf pd_83 rfl) rfl (by show 2 * 0 + _ ≤ _; exact Nat.le_of_eq rfl) (hb hby at_23) (fun _ _ => ⟨rfl, e2, (by decide : 0 + 0 ≤ _), (by decide : 0 + 0 ≤ _)⟩)
  dsimp only [Pt.U, Pt.locs, Pt.cells, Pt.slots] at X3 l3 y3 z3 st3 hQ3
  subst l3 y3 z3
  obtain ⟨c2, rfl, N3q, e3, Q3_0⟩ := hQ3
  have N3 := Fr.app N2 N3q
  refine Go.by st3 ?_
  show Go _ _ _ _ T3 (mkF m 26 #[iv p0, iv p1, iv p2, iv p3, iv p4, iv nn, iv c0, iv c1, un, un, un, un, un, un, un, un, un, un, un] [(.int c2)])
  refine Go.istore2 28 X3 hx (L' := #[iv p0, iv p1, iv p2, iv p3, iv p4, iv nn, iv c0, iv c1, iv c2, un, un, un, un, un, un, un, un, un, un]) (hb hby at_26) rfl rfl ?_
  refine Go.iconst 29 X3 hx (1 : Int32) (hb hby at_28) (by decide) rfl ?_
  obtain ⟨va1, g4⟩ : ∃ z, z = h0.size := ⟨_, rfl⟩
  have ge_va1 : n0 ≤ va1 := Nat.le_trans Z0 (Nat.le_of_eq g4.symm)
  have sz_va1 : h0.size ≤ va1 := Nat.le_trans (Keep.refl h0 []).1 (Nat.le_of_eq g4.symm)
  obtain ⟨T4, h4, k4, X4, e4, E4, A4, Ea4, st4⟩ := newPE X3 hx hZ (ow hw 5 rfl) e3 (g := (mkF m 29 #[iv p0, iv p1, iv p2, iv p3, iv p4, iv nn, iv c0, iv c1, iv c2, un, un, un, un, un, un, un, un, un, un] [(.int 1)])) rfl (hb hby at_29) rfl (by decide) (cap := 1) (by decide) (by decide) (by decide) (by decide) (ad := "[C") rfl
  rw [← g4] at A4 Ea4 st4
  have C5 : CHr Z own_EL s.vm h0 s.vm h4 := C0.trans (CHr.ext E4 C0.1)
  have V_va1 : Arv Z h4 va1 k4 .char (1 : Int32) [(.int 0)] (.int 0) := (Arv.new A4 (by decide)).pad (pad_rep [] (.int 0) 1)
  refine Go.by st4 ?_
  show Go _ _ _ _ T4 (mkF m 31 #[iv p0, iv p1, iv p2, iv p3, iv p4, iv nn, iv c0, iv c1, iv c2, un, un, un, un, un, un, un, un, un, un] [(.ref va1)])
  refine Go.dup 32 X4 hx (hb hby at_31) rfl rfl ?_
  refine Go.iconst 33 X4 hx (0 : Int32) (hb hby at_32) (by decide) rfl ?_
  refine Go.iload2 35 X4 hx (hb hby at_33) rfl rfl ?_
  obtain ⟨cl6, Ar6, q6, S6, M6, H6, G6⟩ := id V_va1
  have hin6 : ¬ ((0 : Int32) < 0 ∨ cl6.slots.size ≤ (0 : Int32).toNatClampNeg) := inb_of S6 ⟨by decide, by decide⟩
  obtain ⟨T6, h6, X6, e6, W6, st6⟩ := stC X4 hx hZ e4 Ar6 (j := (0 : Int32)) hin6 (g := (mkF m 35 #[iv p0, iv p1, iv p2, iv p3, iv p4, iv nn, iv c0, iv c1, iv c2, un, un, un, un, un, un, un, un, un, un] [(.int c0), (.int 0), (.ref va1), (.ref va1)])) rfl rfl (hb hby at_35)
  have C7 : CHr Z own_EL s.vm h0 s.vm h6 := C5.trans (CHr.wr W6 (Safe.exa hZ.alike Ea4 (by decide) (by decide)) C5.1)
  have N6 := Fr.snoc X6 N3 ge_va1
  have V6 : Arv Z h6 va1 k4 .char (1 : Int32) [(.int (nar .char c0))] (.int 0) := Arv.set Ar6 q6 S6 M6 H6 G6 (fits_nar_char _) W6 0 rfl (Nat.le_of_ble_eq_true rfl)
  refine Go.by st6 ?_
  show Go _ _ _ _ T6 (mkF m 36 #[iv p0, iv p1, iv p2, iv p3, iv p4, iv nn, iv c0, iv c1, iv c2, un, un, un, un, un, un, un, un, un, un] [(.ref va1)])
  rw [own_ncb (t := c0) Q1_0.1 Q1_0.2] at V6
  refine Go.astore2 38 X6 hx (L' := #[iv p0, iv p1, iv p2, iv p3, iv p4, iv nn, iv c0, iv c1, iv c2, rv va1, un, un, un, un, un, un, un, un, un]) (hb hby at_36) rfl rfl rfl ?_
  refine Go.iconst 39 X6 hx (2 : Int32) (hb hby at_38) (by decide) rfl ?_
  obtain ⟨va2, g8⟩ : ∃ z, z = h6.size := ⟨_, rfl⟩
  have F9 : n0 ≤ h4.size := Nat.le_trans Z0 E4.1
  have F10 : n0 ≤ h6.size := Nat.le_trans F9 (Nat.le_of_eq (Wr.size W6).symm)
  have ge_va2 : n0 ≤ va2 := Nat.le_trans F10 (Nat.le_of_eq g8.symm)
  have F11 : Keep h0 h4 [] := (Keep.refl h0 []).ext E4
  have F12 : Keep h0 h6 [] := F11.wr W6 (Or.inr sz_va1)
  have sz_va2 : h0.size ≤ va2 := Nat.le_trans F12.1 (Nat.le_of_eq g8.symm)
  have F13 : Exa Z h6 va1 "[C" := Ea4.wr W6
  have ne_va1_va2 : va1 ≠ va2 := Nat.ne_of_lt (Nat.lt_of_lt_of_le F13.lt (Nat.le_of_eq g8.symm))
  obtain ⟨T8, h8, k8, X8, e8, E8, A8, Ea8, st8⟩ := newPE X6 hx hZ (ow hw 5 rfl) e6 (g := (mkF m 39 #[iv p0, iv p1, iv p2, iv p3, iv p4, iv nn, iv c0, iv c1, iv c2, rv va1, un, un, un, un, un, un, un, un, un] [(.int 2)])) rfl (hb hby at_39) rfl (by decide) (cap := 2) (by decide) (by decide) (by decide) (by decide) (ad := "[C") rfl
  rw [← g8] at A8 Ea8 st8
  have C14 : CHr Z own_EL s.vm h0 s.vm h8 := C7.trans (CHr.ext E8 C7.1)
  have V_va2 : Arv Z h8 va2 k8 .char (2 : Int32) [(.int 0), (.int 0)] (.int 0) := (Arv.new A8 (by decide)).pad (pad_rep [] (.int 0) 2)
  refine Go.by st8 ?_
  show Go _ _ _ _ T8 (mkF m 41 #[iv p0, iv p1, iv p2, iv p3, iv p4, iv nn, iv c0, iv c1, iv c2, rv va1, un, un, un, un, un, un, un, un, un] [(.ref va2)])
  refine Go.dup 42 X8 hx (hb hby at_41) rfl rfl ?_
  refine Go.iconst 43 X8 hx (0 : Int32) (hb hby at_42) (by decide) rfl ?_
  refine Go.iload2 45 X8 hx (hb hby at_43) rfl rfl ?_
  obtain ⟨cl15, Ar15, q15, S15, M15, H15, G15⟩ := id V_va2
  have hin15 : ¬ ((0 : Int32) < 0 ∨ cl15.slots.size ≤ (0 : Int32).toNatClampNeg) := inb_of S15 ⟨by decide, by decide⟩
  obtain ⟨T15, h15, X15, e15, W15, st15⟩ := stC X8 hx hZ e8 Ar15 (j := (0 : Int32)) hin15 (g := (mkF m 45 #[iv p0, iv p1, iv p2, iv p3, iv p4, iv nn, iv c0, iv c1, iv c2, rv va1, un, un, un, un, un, un, un, un, un] [(.int c0), (.int 0), (.ref va2), (.ref va2)])) rfl rfl (hb hby at_45)
  have C16 : CHr Z own_EL s.vm h0 s.vm h15 := C14.trans (CHr.wr W15 (Safe.exa hZ.alike Ea8 (by decide) (by decide)) C14.1)
  have N15 := Fr.snoc X15 N6 ge_va2
  have V15 : Arv Z h15 va2 k8 .char (2 : Int32) [(.int (nar .char c0)), (.int 0)] (.int 0) := Arv.set Ar15 q15 S15 M15 H15 G15 (fits_nar_char _) W15 0 rfl (Nat.le_of_ble_eq_true rfl)
  refine Go.by st15 ?_
  show Go _ _ _ _ T15 (mkF m 46 #[iv p0, iv p1, iv p2, iv p3, iv p4, iv nn, iv c0, iv c1, iv c2, rv va1, un, un, un, un, un, un, un, un, un] [(.ref va2)])
  rw [own_ncb (t := c0) Q1_0.1 Q1_0.2] at V15
  refine Go.dup 47 X15 hx (hb hby at_46) rfl rfl ?_
  refine Go.iconst 48 X15 hx (1 : Int32) (hb hby at_47) (by decide) rfl ?_
  refine Go.iload2 50 X15 hx (hb hby at_48) rfl rfl ?_
  obtain ⟨cl17, Ar17, q17, S17, M17, H17, G17⟩ := id V15
  have hin17 : ¬ ((1 : Int32) < 0 ∨ cl17.slots.size ≤ (1 : Int32).toNatClampNeg) := inb_of S17 ⟨by decide, by decide⟩
  obtain ⟨T17, h17, X17, e17, W17, st17⟩ := stC X15 hx hZ e15 Ar17 (j := (1 : Int32)) hin17 (g := (mkF m 50 #[iv p0, iv p1, iv p2, iv p3, iv p4, iv nn, iv c0, iv c1, iv c2, rv va1, un, un, un, un, un, un, un, un, un] [(.int c1), (.int 1), (.ref va2), (.ref va2)])) rfl rfl (hb hby at_50)
  have F18 : Exa Z h15 va2 "[C" := Ea8.wr W15
  have C19 : CHr Z own_EL s.vm h0 s.vm h17 := C16.trans (CHr.wr W17 (Safe.exa hZ.alike F18 (by decide) (by decide)) C16.1)
  have N17 := Fr.snoc X17 N15 ge_va2
  have V17 : Arv Z h17 va2 k8 .char (2 : Int32) [(.int c0), (.int (nar .char c1))] (.int 0) := Arv.set Ar17 q17 S17 M17 H17 G17 (fits_nar_char _) W17 1 rfl (Nat.le_of_ble_eq_true rfl)
  refine Go.by st17 ?_
  show Go _ _ _ _ T17 (mkF m 51 #[iv p0, iv p1, iv p2, iv p3, iv p4, iv nn, iv c0, iv c1, iv c2, rv va1, un, un, un, un, un, un, un, un, un] [(.ref va2)])
  rw [own_ncb (t := c1) Q2_0.1 Q2_0.2] at V17
  refine Go.astore2 53 X17 hx (L' := #[iv p0, iv p1, iv p2, iv p3, iv p4, iv nn, iv c0, iv c1, iv c2, rv va1, rv va2, un, un, un, un, un, un, un, un]) (hb hby at_51) rfl rfl rfl ?_
  refine Go.iconst 54 X17 hx (3 : Int32) (hb hby at_53) (by decide) rfl ?_
  obtain ⟨va3, g20⟩ : ∃ z, z = h17.size := ⟨_, rfl⟩
  have F21 : n0 ≤ h8.size := Nat.le_trans F10 E8.1
  have F22 : n0 ≤ h15.size := Nat.le_trans F21 (Nat.le_of_eq (Wr.size W15).symm)
  have F23 : n0 ≤ h17.size := Nat.le_trans F22 (Nat.le_of_eq (Wr.size W17).symm)
  have ge_va3 : n0 ≤ va3 := Nat.le_trans F23 (Nat.le_of_eq g20.symm)
  have F24 : Keep h0 h8 [] := F12.ext E8
  have F25 : Keep h0 h15 [] := F24.wr W15 (Or.inr sz_va2)
  have F26 : Keep h0 h17 [] := F25.wr W17 (Or.inr sz_va2)
  have sz_va3 : h0.size ≤ va3 := Nat.le_trans F26.1 (Nat.le_of_eq g20.symm)
  have F27 : Exa Z h8 va1 "[C" := F13.ext E8
  have F28 : Exa Z h15 va1 "[C" := F27.wr W15
  have F29 : Exa Z h17 va1 "[C" := F28.wr W17
  have ne_va1_va3 : va1 ≠ va3 := Nat.ne_of_lt (Nat.lt_of_lt_of_le F29.lt (Nat.le_of_eq g20.symm))
  have F30 : Exa Z h17 va2 "[C" := F18.wr W17
  have ne_va2_va3 : va2 ≠ va3 := Nat.ne_of_lt (Nat.lt_of_lt_of_le F30.lt (Nat.le_of_eq g20.symm))
  obtain ⟨T20, h20, k20, X20, e20, E20, A20, Ea20, st20⟩ := newPE X17 hx hZ (ow hw 5 rfl) e17 (g := (mkF m 54 #[iv p0, iv p1, iv p2, iv p3, iv p4, iv nn, iv c0, iv c1, iv c2, rv va1, rv va2, un, un, un, un, un, un, un, un] [(.int 3)])) rfl (hb hby at_54) rfl (by decide) (cap := 3) (by decide) (by decide) (by decide) (by decide) (ad := "[C") rfl
  rw [← g20] at A20 Ea20 st20
  have C31 : CHr Z own_EL s.vm h0 s.vm h20 := C19.trans (CHr.ext E20 C19.1)
  have V_va3 : Arv Z h20 va3 k20 .char (3 : Int32) [(.int 0), (.int 0), (.int 0)] (.int 0) := (Arv.new A20 (by decide)).pad (pad_rep [] (.int 0) 3)
  refine Go.by st20 ?_
  show Go _ _ _ _ T20 (mkF m 56 #[iv p0, iv p1, iv p2, iv p3, iv p4, iv nn, iv c0, iv c1, iv c2, rv va1, rv va2, un, un, un, un, un, un, un, un] [(.ref va3)])
  refine Go.dup 57 X20 hx (hb hby at_56) rfl rfl ?_
  refine Go.iconst 58 X20 hx (0 : Int32) (hb hby at_57) (by decide) rfl ?_
  refine Go.iload2 60 X20 hx (hb hby at_58) rfl rfl ?_
  obtain ⟨cl32, Ar32, q32, S32, M32, H32, G32⟩ := id V_va3
  have hin32 : ¬ ((0 : Int32) < 0 ∨ cl32.slots.size ≤ (0 : Int32).toNatClampNeg) := inb_of S32 ⟨by decide, by decide⟩
  obtain ⟨T32, h32, X32, e32, W32, st32⟩ := stC X20 hx hZ e20 Ar32 (j := (0 : Int32)) hin32 (g := (mkF m 60 #[iv p0, iv p1, iv p2, iv p3, iv p4, iv nn, iv c0, iv c1, iv c2, rv va1, rv va2, un, un, un, un, un, un, un, un] [(.int c0), (.int 0), (.ref va3), (.ref va3)])) rfl rfl (hb hby at_60)
  have C33 : CHr Z own_EL s.vm h0 s.vm h32 := C31.trans (CHr.wr W32 (Safe.exa hZ.alike Ea20 (by decide) (by decide)) C31.1)
  have N32 := Fr.snoc X32 N17 ge_va3
  have V32 : Arv Z h32 va3 k20 .char (3 : Int32) [(.int (nar .char c0)), (.int 0), (.int 0)] (.int 0) := Arv.set Ar32 q32 S32 M32 H32 G32 (fits_nar_char _) W32 0 rfl (Nat.le_of_ble_eq_true rfl)
  refine Go.by st32 ?_
  show Go _ _ _ _ T32 (mkF m 61 #[iv p0, iv p1, iv p2, iv p3, iv p4, iv nn, iv c0, iv c1, iv c2, rv va1, rv va2, un, un, un, un, un, un, un, un] [(.ref va3)])
  rw [own_ncb (t := c0) Q1_0.1 Q1_0.2] at V32
  refine Go.dup 62 X32 hx (hb hby at_61) rfl rfl ?_
  refine Go.iconst 63 X32 hx (1 : Int32) (hb hby at_62) (by decide) rfl ?_
  refine Go.iload2 65 X32 hx (hb hby at_63) rfl rfl ?_
  obtain ⟨cl34, Ar34, q34, S34, M34, H34, G34⟩ := id V32
  have hin34 : ¬ ((1 : Int32) < 0 ∨ cl34.slots.size ≤ (1 : Int32).toNatClampNeg) := inb_of S34 ⟨by decide, by decide⟩
  obtain ⟨T34, h34, X34, e34, W34, st34⟩ := stC X32 hx hZ e32 Ar34 (j := (1 : Int32)) hin34 (g := (mkF m 65 #[iv p0, iv p1, iv p2, iv p3, iv p4, iv nn, iv c0, iv c1, iv c2, rv va1, rv va2, un, un, un, un, un, un, un, un] [(.int c1), (.int 1), (.ref va3), (.ref va3)])) rfl rfl (hb hby at_65)
  have F35 : Exa Z h32 va3 "[C" := Ea20.wr W32
  have C36 : CHr Z own_EL s.vm h0 s.vm h34 := C33.trans (CHr.wr W34 (Safe.exa hZ.alike F35 (by decide) (by decide)) C33.1)
  have N34 := Fr.snoc X34 N32 ge_va3
  have V34 : Arv Z h34 va3 k20 .char (3 : Int32) [(.int c0), (.int (nar .char c1)), (.int 0)] (.int 0) := Arv.set Ar34 q34 S34 M34 H34 G34 (fits_nar_char _) W34 1 rfl (Nat.le_of_ble_eq_true rfl)
  refine Go.by st34 ?_
  show Go _ _ _ _ T34 (mkF m 66 #[iv p0, iv p1, iv p2, iv p3, iv p4, iv nn, iv c0, iv c1, iv c2, rv va1, rv va2, un, un, un, un, un, un, un, un] [(.ref va3)])
  rw [own_ncb (t := c1) Q2_0.1 Q2_0.2] at V34
  refine Go.dup 67 X34 hx (hb hby at_66) rfl rfl ?_
  refine Go.iconst 68 X34 hx (2 : Int32) (hb hby at_67) (by decide) rfl ?_
  refine Go.iload2 70 X34 hx (hb hby at_68) rfl rfl ?_
  obtain ⟨cl37, Ar37, q37, S37, M37, H37, G37⟩ := id V34
  have hin37 : ¬ ((2 : Int32) < 0 ∨ cl37.slots.size ≤ (2 : Int32).toNatClampNeg) := inb_of S37 ⟨by decide, by decide⟩
  obtain ⟨T37, h37, X37, e37, W37, st37⟩ := stC X34 hx hZ e34 Ar37 (j := (2 : Int32)) hin37 (g := (mkF m 70 #[iv p0, iv p1, iv p2, iv p3, iv p4, iv nn, iv c0, iv c1, iv c2, rv va1, rv va2, un, un, un, un, un, un, un, un] [(.int c2), (.int 2), (.ref va3), (.ref va3)])) rfl rfl (hb hby at_70)
  have F38 : Exa Z h34 va3 "[C" := F35.wr W34
  have C39 : CHr Z own_EL s.vm h0 s.vm h37 := C36.trans (CHr.wr W37 (Safe.exa hZ.alike F38 (by decide) (by decide)) C36.1)
  have N37 := Fr.snoc X37 N34 ge_va3
  have V37 : Arv Z h37 va3 k20 .char (3 : Int32) [(.int c0), (.int c1), (.int (nar .char c2))] (.int 0) := Arv.set Ar37 q37 S37 M37 H37 G37 (fits_nar_char _) W37 2 rfl (Nat.le_of_ble_eq_true rfl)
  refine Go.by st37 ?_
  show Go _ _ _ _ T37 (mkF m 71 #[iv p0, iv p1, iv p2, iv p3, iv p4, iv nn, iv c0, iv c1, iv c2, rv va1, rv va2, un, un, un, un, un, un, un, un] [(.ref va3)])
  rw [own_ncb (t := c2) Q3_0.1 Q3_0.2] at V37
  refine Go.astore2 73 X37 hx (L' := #[iv p0, iv p1, iv p2, iv p3, iv p4, iv nn, iv c0, iv c1, iv c2, rv va1, rv va2, rv va3, un, un, un, un, un, un, un]) (hb hby at_71) rfl rfl rfl ?_
  refine Go.bipush 75 X37 hx (11 : Int32) (hb hby at_73) (by decide) rfl ?_
  obtain ⟨ea, g40⟩ : ∃ z, z = h37.size := ⟨_, rfl⟩
  have F41 : n0 ≤ h20.size := Nat.le_trans F23 E20.1
  have F42 : n0 ≤ h32.size := Nat.le_trans F41 (Nat.le_of_eq (Wr.size W32).symm)
  have F43 : n0 ≤ h34.size := Nat.le_trans F42 (Nat.le_of_eq (Wr.size W34).symm)
  have F44 : n0 ≤ h37.size := Nat.le_trans F43 (Nat.le_of_eq (Wr.size W37).symm)
  have ge_ea : n0 ≤ ea := Nat.le_trans F44 (Nat.le_of_eq g40.symm)
  have F45 : Keep h0 h20 [] := F26.ext E20
  have F46 : Keep h0 h32 [] := F45.wr W32 (Or.inr sz_va3)
  have F47 : Keep h0 h34 [] := F46.wr W34 (Or.inr sz_va3)
  have F48 : Keep h0 h37 [] := F47.wr W37 (Or.inr sz_va3)
  have sz_ea : h0.size ≤ ea := Nat.le_trans F48.1 (Nat.le_of_eq g40.symm)
  have F49 : Exa Z h20 va1 "[C" := F29.ext E20
  have F50 : Exa Z h32 va1 "[C" := F49.wr W32
  have F51 : Exa Z h34 va1 "[C" := F50.wr W34
  have F52 : Exa Z h37 va1 "[C" := F51.wr W37
  have ne_va1_ea : va1 ≠ ea := Nat.ne_of_lt (Nat.lt_of_lt_of_le F52.lt (Nat.le_of_eq g40.symm))
  have F53 : Exa Z h20 va2 "[C" := F30.ext E20
  have F54 : Exa Z h32 va2 "[C" := F53.wr W32
  have F55 : Exa Z h34 va2 "[C" := F54.wr W34
  have F56 : Exa Z h37 va2 "[C" := F55.wr W37
  have ne_va2_ea : va2 ≠ ea := Nat.ne_of_lt (Nat.lt_of_lt_of_le F56.lt (Nat.le_of_eq g40.symm))
  have F57 : Exa Z h37 va3 "[C" := F38.wr W37
  have ne_va3_ea : va3 ≠ ea := Nat.ne_of_lt (Nat.lt_of_lt_of_le F57.lt (Nat.le_of_eq g40.symm))
  obtain ⟨T40, h40, k40, X40, e40, E40, A40, Ea40, st40⟩ := newPE X37 hx hZ (ow hw 5 rfl) e37 (g := (mkF m 75 #[iv p0, iv p1, iv p2, iv p3, iv p4, iv nn, iv c0, iv c1, iv c2, rv va1, rv va2, rv va3, un, un, un, un, un, un, un] [(.int 11)])) rfl (hb hby at_75) rfl (by decide) (cap := 11) (by decide) (by decide) (by decide) (by decide) (ad := "[C") rfl
  rw [← g40] at A40 Ea40 st40
  have C58 : CHr Z own_EL s.vm h0 s.vm h40 := C39.trans (CHr.ext E40 C39.1)
  have V_ea : Arv Z h40 ea k40 .char (11 : Int32) [(.int 0), (.int 0), (.int 0), (.int 0), (.int 0), (.int 0), (.int 0), (.int 0), (.int 0), (.int 0), (.int 0)] (.int 0) := (Arv.new A40 (by decide)).pad (pad_rep [] (.int 0) 11)
  refine Go.by st40 ?_
  show Go _ _ _ _ T40 (mkF m 77 #[iv p0, iv p1, iv p2, iv p3, iv p4, iv nn, iv c0, iv c1, iv c2, rv va1, rv va2, rv va3, un, un, un, un, un, un, un] [(.ref ea)])
  refine Go.astore2 79 X40 hx (L' := #[iv p0, iv p1, iv p2, iv p3, iv p4, iv nn, iv c0, iv c1, iv c2, rv va1, rv va2, rv va3, rv ea, un, un, un, un, un, un]) (hb hby at_77) rfl rfl rfl ?_
  refine Go.iload2 81 X40 hx (hb hby at_79) rfl rfl ?_
  refine Go.iconst 82 X40 hx (1 : Int32) (hb hby at_81) (by decide) rfl ?_
  have J59 : ∀ (T59 : State) (lc59 : List Loc) (H59 : Heap) (vmj59 : Vm) (nk59 : Nat) (st : Addr) (sv : Addr) (ksv : ClassId) (ss : List Value) (es : List Value) (kk : Nat) (s5 : Slot) (s13 : Slot) (s14 : Slot) (s16 : Slot) (s18 : Slot), (Stand p l e room_1 (s.setVm vmj59) m #[(.int p0), (.int p1), (.int p2), (.int p3), (.int p4)] below meth c T59 lc59 48 3328) → (T59.heap = H59) → (Fr n0 lc59) → (n0 ≤ H59.size) → (Old Z n0 H59) → (CHr Z own_EL s.vm h0 vmj59 H59) → (nk59 ≤ H59.size) → (s.Since vmj59 nk59) → (Z.Warmed39 (s.setVm vmj59).vm) → ((s.setVm vmj59).vm.findClass "com/example/entries_to_nodes/entriestonodes/component/ServerAddressToStringPinLaw" = some m.cls) → (Exa Z H59 st "java/lang/String") → (Fld Z H59 st "java/lang/String" "coder" "B" (.int 0)) → (Fld Z H59 st "java/lang/String" "value" "[B" (.ref sv)) → (Arv Z H59 sv ksv .byte (Int32.ofNat kk) ss (.int 0)) → (Arv Z H59 ea k40 .char (11 : Int32) es (.int 0)) → (own_says ss es kk) → (kk ≤ 11) → Go p e below (EndW Z own_EL s (Q_rm0 Z p0 p1 p2 p3 p4 cs d1 d2 kd1 kd2 sf h0 n0) 48 3328) T59 (mkF m 451 #[iv p0, iv p1, iv p2, iv p3, iv p4, s5, iv c0, iv c1, iv c2, rv va1, rv va2, rv va3, rv ea, s13, s14, rv st, s16, iv (Int32.ofNat kk), s18] []) := by
    intro T59 lc59 H59 vmj59 nk59 st sv ksv ss es kk s5 s13 s14 s16 s18 X59 e59 N59 Zj59 Oj59 C59 hkj59 hSj59 hZj59 hownj59 Fj59_0 Fj59_1 Fj59_2 Fj59_3 Fj59_4 hsay hkk
    show Go _ _ _ _ T59 (mkF m 451 #[iv p0, iv p1, iv p2, iv p3, iv p4, s5, iv c0, iv c1, iv c2, rv va1, rv va2, rv va3, rv ea, s13, s14, rv st, s16, iv (Int32.ofNat kk), s18] [])
    refine Go.aload2 453 X59 hx (hb hby at_451) rfl rfl rfl ?_
    obtain ⟨cq60, kq60, q60a, q60b, q60c⟩ := isOf hZj59 e59 Fj59_0
    obtain ⟨_, _, ⟨T60, L60, k60, n60⟩, -, X60, ⟨Lc60, hQ60, l60, y60, z60⟩, st60⟩ := X59.virtualBack hx (y := (⟨"java/lang/String", "length", "()I"⟩ : MethodName)) (z := (⟨"java/lang/String", "length", "()I"⟩ : MethodName)) hownj59 (mvT hZj59 (ow hw 222 rfl)) (mvT hZj59 (ow hw 127 rfl)) (notFace_of_selects (args := #[]) (mvT hZj59 (ow hw 129 rfl))) (mvT hZj59 (ow hw 129 rfl)) (mvT hZj59 (ow hw 128 rfl)) (by decide) (backOf (W := 0) (rmSLen l Z a0 hw [] st sv ksv (Int32.ofNat kk) ss cs H59 n0 Zj59 Oj59 Fj59_0 Fj59_1 Fj59_2 Fj59_3 S_cs n_cs) hZj59 (ow hw 130 rfl) (ow hw 8 rfl) (by decide) (by decide)) q60a q60c (g := (mkF m 453 #[iv p0, iv p1, iv p2, iv p3, iv p4, s5, iv c0, iv c1, iv c2, rv va1, rv va2, rv va3, rv ea, s13, s14, rv st, s16, iv (Int32.ofNat kk), s18] [(.ref st)])) rfl (by rw [hml]; rfl) (Steps.refl _) (argsL := []) (rest := []) (lenOf pd_169 rfl) rfl (by show 2 * 0 + _ ≤ _; exact Nat.le_of_eq rfl) (hb hby at_453) (fun _ _ => ⟨rfl, e59, (by decide : 48 + 0 ≤ _), (by decide : 3328 + 0 ≤ _)⟩)
    dsimp only [Pt.U, Pt.locs, Pt.cells, Pt.slots] at X60 l60 y60 z60 st60 hQ60
    subst l60 y60 z60
    obtain ⟨rfl, N60q, e60⟩ := hQ60
    have N60 := Fr.app N59 N60q
    refine Go.to st60 ?_
    show Go _ _ _ _ T60 (mkF m 456 #[iv p0, iv p1, iv p2, iv p3, iv p4, s5, iv c0, iv c1, iv c2, rv va1, rv va2, rv va3, rv ea, s13, s14, rv st, s16, iv (Int32.ofNat kk), s18] [(.int (Int32.ofNat kk))])
    refine Go.iload2 458 X60 hx (hb hby at_456) rfl rfl ?_
    refine Go.icmpY 463 X60 hx (hb hby at_458) (XT.ii_eq_t rfl) (by decide) (by decide) ?_
    refine Go.aload2 465 X60 hx (hb hby at_463) rfl rfl rfl ?_
    refine Go.aload2 467 X60 hx (hb hby at_465) rfl rfl rfl ?_
    refine Go.iload2 469 X60 hx (hb hby at_467) rfl rfl ?_
    refine Go.iconst 470 X60 hx (0 : Int32) (hb hby at_469) (by decide) rfl ?_
    obtain ⟨_, _, ⟨T61, L61, k61, n61⟩, -, X61, ⟨Lc61, hQ61, l61, y61, z61⟩, st61⟩ := Jvm.LawKit.callS X60 hx (y := (⟨"com/example/entries_to_nodes/entriestonodes/component/ServerAddressToStringPinLaw", "at", "(Ljava/lang/String;[CII)Z"⟩ : MethodName)) hownj59 (mvT hZj59 (ow hw 223 rfl)) (mvT hZj59 (ow hw 224 rfl)) (mvT hZj59 (ow hw 3 rfl)) (mvT hZj59 (ow hw 225 rfl)) (by decide) (backOf (W := 0) (rmAt l Z a0 hw [] st sv ksv ss ea k40 es (Int32.ofNat kk) (0 : Int32) kk 0 cs sf H59 n0 Zj59 Oj59 Fj59_0 Fj59_1 Fj59_2 Fj59_3 Fj59_4 rfl rfl hkk (by decide) hsay S_cs n_cs S_sf r_sf) hZj59 (ow hw 225 rfl) (ow hw 3 rfl) (by decide) (by decide)) (g := (mkF m 470 #[iv p0, iv p1, iv p2, iv p3, iv p4, s5, iv c0, iv c1, iv c2, rv va1, rv va2, rv va3, rv ea, s13, s14, rv st, s16, iv (Int32.ofNat kk), s18] [(.int 0), (.int (Int32.ofNat kk)), (.ref ea), (.ref st)])) rfl (by rw [hml]; rfl) (argsL := [(.ref st), (.ref ea), (.int (Int32.ofNat kk)), (.int 0)]) (rest := []) (lenOf pd_603 rfl) rfl (by show 2 * 0 + _ ≤ _; exact Nat.le_of_eq rfl) (hb hby at_470) (fun _ _ => ⟨rfl, e60, (by decide : 48 + 0 ≤ _), (by decide : 3328 + 0 ≤ _)⟩)
    dsimp only [Pt.U, Pt.locs, Pt.cells, Pt.slots] at X61 l61 y61 z61 st61 hQ61
    subst l61 y61 z61
    obtain ⟨rfl, N61q, e61⟩ := hQ61
    have N61 := Fr.app N60 N61q
    refine Go.by st61 ?_
    show Go _ _ _ _ T61 (mkF m 473 #[iv p0, iv p1, iv p2, iv p3, iv p4, s5, iv c0, iv c1, iv c2, rv va1, rv va2, rv va3, rv ea, s13, s14, rv st, s16, iv (Int32.ofNat kk), s18] [(.int 1)])
    refine Go.ifN 476 X61 hx (hb hby at_473) (XT.i0_eq_f (by decide)) rfl ?_
    refine Go.aload2 478 X61 hx (hb hby at_476) rfl rfl rfl ?_
    refine Go.aload2 480 X61 hx (hb hby at_478) rfl rfl rfl ?_
    refine Go.iload2 482 X61 hx (hb hby at_480) rfl rfl ?_
    refine Go.iconst 483 X61 hx (1 : Int32) (hb hby at_482) (by decide) rfl ?_
    obtain ⟨_, _, ⟨T62, L62, k62, n62⟩, -, X62, ⟨Lc62, hQ62, l62, y62, z62⟩, st62⟩ := Jvm.LawKit.callS X61 hx (y := (⟨"com/example/entries_to_nodes/entriestonodes/component/ServerAddressToStringPinLaw", "at", "(Ljava/lang/String;[CII)Z"⟩ : MethodName)) hownj59 (mvT hZj59 (ow hw 223 rfl)) (mvT hZj59 (ow hw 224 rfl)) (mvT hZj59 (ow hw 3 rfl)) (mvT hZj59 (ow hw 225 rfl)) (by decide) (backOf (W := 0) (rmAt l Z a0 hw [] st sv ksv ss ea k40 es (Int32.ofNat kk) (1 : Int32) kk 1 cs sf H59 n0 Zj59 Oj59 Fj59_0 Fj59_1 Fj59_2 Fj59_3 Fj59_4 rfl rfl hkk (by decide) hsay S_cs n_cs S_sf r_sf) hZj59 (ow hw 225 rfl) (ow hw 3 rfl) (by decide) (by decide)) (g := (mkF m 483 #[iv p0, iv p1, iv p2, iv p3, iv p4, s5, iv c0, iv c1, iv c2, rv va1, rv va2, rv va3, rv ea, s13, s14, rv st, s16, iv (Int32.ofNat kk), s18] [(.int 1), (.int (Int32.ofNat kk)), (.ref ea), (.ref st)])) rfl (by rw [hml]; rfl) (argsL := [(.ref st), (.ref ea), (.int (Int32.ofNat kk)), (.int 1)]) (rest := []) (lenOf pd_603 rfl) rfl (by show 2 * 0 + _ ≤ _; exact Nat.le_of_eq rfl) (hb hby at_483) (fun _ _ => ⟨rfl, e61, (by decide : 48 + 0 ≤ _), (by decide : 3328 + 0 ≤ _)⟩)
    dsimp only [Pt.U, Pt.locs, Pt.cells, Pt.slots] at X62 l62 y62 z62 st62 hQ62
    subst l62 y62 z62
    obtain ⟨rfl, N62q, e62⟩ := hQ62
    have N62 := Fr.app N61 N62q
    refine Go.by st62 ?_
    show Go _ _ _ _ T62 (mkF m 486 #[iv p0, iv p1, iv p2, iv p3, iv p4, s5, iv c0, iv c1, iv c2, rv va1, rv va2, rv va3, rv ea, s13, s14, rv st, s16, iv (Int32.ofNat kk), s18] [(.int 1)])
    refine Go.ifN 489 X62 hx (hb hby at_486) (XT.i0_eq_f (by decide)) rfl ?_
    refine Go.aload2 491 X62 hx (hb hby at_489) rfl rfl rfl ?_
    refine Go.aload2 493 X62 hx (hb hby at_491) rfl rfl rfl ?_
    refine Go.iload2 495 X62 hx (hb hby at_493) rfl rfl ?_
    refine Go.iconst 496 X62 hx (2 : Int32) (hb hby at_495) (by decide) rfl ?_
    obtain ⟨_, _, ⟨T63, L63, k63, n63⟩, -, X63, ⟨Lc63, hQ63, l63, y63, z63⟩, st63⟩ := Jvm.LawKit.callS X62 hx (y := (⟨"com/example/entries_to_nodes/entriestonodes/component/ServerAddressToStringPinLaw", "at", "(Ljava/lang/String;[CII)Z"⟩ : MethodName)) hownj59 (mvT hZj59 (ow hw 223 rfl)) (mvT hZj59 (ow hw 224 rfl)) (mvT hZj59 (ow hw 3 rfl)) (mvT hZj59 (ow hw 225 rfl)) (by decide) (backOf (W := 0) (rmAt l Z a0 hw [] st sv ksv ss ea k40 es (Int32.ofNat kk) (2 : Int32) kk 2 cs sf H59 n0 Zj59 Oj59 Fj59_0 Fj59_1 Fj59_2 Fj59_3 Fj59_4 rfl rfl hkk (by decide) hsay S_cs n_cs S_sf r_sf) hZj59 (ow hw 225 rfl) (ow hw 3 rfl) (by decide) (by decide)) (g := (mkF m 496 #[iv p0, iv p1, iv p2, iv p3, iv p4, s5, iv c0, iv c1, iv c2, rv va1, rv va2, rv va3, rv ea, s13, s14, rv st, s16, iv (Int32.ofNat kk), s18] [(.int 2), (.int (Int32.ofNat kk)), (.ref ea), (.ref st)])) rfl (by rw [hml]; rfl) (argsL := [(.ref st), (.ref ea), (.int (Int32.ofNat kk)), (.int 2)]) (rest := []) (lenOf pd_603 rfl) rfl (by show 2 * 0 + _ ≤ _; exact Nat.le_of_eq rfl) (hb hby at_496) (fun _ _ => ⟨rfl, e62, (by decide : 48 + 0 ≤ _), (by decide : 3328 + 0 ≤ _)⟩)
    dsimp only [Pt.U, Pt.locs, Pt.cells, Pt.slots] at X63 l63 y63 z63 st63 hQ63
    subst l63 y63 z63
    obtain ⟨rfl, N63q, e63⟩ := hQ63
    have N63 := Fr.app N62 N63q
    refine Go.by st63 ?_
    show Go _ _ _ _ T63 (mkF m 499 #[iv p0, iv p1, iv p2, iv p3, iv p4, s5, iv c0, iv c1, iv c2, rv va1, rv va2, rv va3, rv ea, s13, s14, rv st, s16, iv (Int32.ofNat kk), s18] [(.int 1)])
    refine Go.ifN 502 X63 hx (hb hby at_499) (XT.i0_eq_f (by decide)) rfl ?_
    refine Go.aload2 504 X63 hx (hb hby at_502) rfl rfl rfl ?_
    refine Go.aload2 506 X63 hx (hb hby at_504) rfl rfl rfl ?_
    refine Go.iload2 508 X63 hx (hb hby at_506) rfl rfl ?_
    refine Go.iconst 509 X63 hx (3 : Int32) (hb hby at_508) (by decide) rfl ?_
    obtain ⟨_, _, ⟨T64, L64, k64, n64⟩, -, X64, ⟨Lc64, hQ64, l64, y64, z64⟩, st64⟩ := Jvm.LawKit.callS X63 hx (y := (⟨"com/example/entries_to_nodes/entriestonodes/component/ServerAddressToStringPinLaw", "at", "(Ljava/lang/String;[CII)Z"⟩ : MethodName)) hownj59 (mvT hZj59 (ow hw 223 rfl)) (mvT hZj59 (ow hw 224 rfl)) (mvT hZj59 (ow hw 3 rfl)) (mvT hZj59 (ow hw 225 rfl)) (by decide) (backOf (W := 0) (rmAt l Z a0 hw [] st sv ksv ss ea k40 es (Int32.ofNat kk) (3 : Int32) kk 3 cs sf H59 n0 Zj59 Oj59 Fj59_0 Fj59_1 Fj59_2 Fj59_3 Fj59_4 rfl rfl hkk (by decide) hsay S_cs n_cs S_sf r_sf) hZj59 (ow hw 225 rfl) (ow hw 3 rfl) (by decide) (by decide)) (g := (mkF m 509 #[iv p0, iv p1, iv p2, iv p3, iv p4, s5, iv c0, iv c1, iv c2, rv va1, rv va2, rv va3, rv ea, s13, s14, rv st, s16, iv (Int32.ofNat kk), s18] [(.int 3), (.int (Int32.ofNat kk)), (.ref ea), (.ref st)])) rfl (by rw [hml]; rfl) (argsL := [(.ref st), (.ref ea), (.int (Int32.ofNat kk)), (.int 3)]) (rest := []) (lenOf pd_603 rfl) rfl (by show 2 * 0 + _ ≤ _; exact Nat.le_of_eq rfl) (hb hby at_509) (fun _ _ => ⟨rfl, e63, (by decide : 48 + 0 ≤ _), (by decide : 3328 + 0 ≤ _)⟩)
    dsimp only [Pt.U, Pt.locs, Pt.cells, Pt.slots] at X64 l64 y64 z64 st64 hQ64
    subst l64 y64 z64
    obtain ⟨rfl, N64q, e64⟩ := hQ64
    have N64 := Fr.app N63 N64q
    refine Go.by st64 ?_
    show Go _ _ _ _ T64 (mkF m 512 #[iv p0, iv p1, iv p2, iv p3, iv p4, s5, iv c0, iv c1, iv c2, rv va1, rv va2, rv va3, rv ea, s13, s14, rv st, s16, iv (Int32.ofNat kk), s18] [(.int 1)])
    refine Go.ifN 515 X64 hx (hb hby at_512) (XT.i0_eq_f (by decide)) rfl ?_
    refine Go.aload2 517 X64 hx (hb hby at_515) rfl rfl rfl ?_
    refine Go.aload2 519 X64 hx (hb hby at_517) rfl rfl rfl ?_
    refine Go.iload2 521 X64 hx (hb hby at_519) rfl rfl ?_
    refine Go.iconst 522 X64 hx (4 : Int32) (hb hby at_521) (by decide) rfl ?_
    obtain ⟨_, _, ⟨T65, L65, k65, n65⟩, -, X65, ⟨Lc65, hQ65, l65, y65, z65⟩, st65⟩ := Jvm.LawKit.callS X64 hx (y := (⟨"com/example/entries_to_nodes/entriestonodes/component/ServerAddressToStringPinLaw", "at", "(Ljava/lang/String;[CII)Z"⟩ : MethodName)) hownj59 (mvT hZj59 (ow hw 223 rfl)) (mvT hZj59 (ow hw 224 rfl)) (mvT hZj59 (ow hw 3 rfl)) (mvT hZj59 (ow hw 225 rfl)) (by decide) (backOf (W := 0) (rmAt l Z a0 hw [] st sv ksv ss ea k40 es (Int32.ofNat kk) (4 : Int32) kk 4 cs sf H59 n0 Zj59 Oj59 Fj59_0 Fj59_1 Fj59_2 Fj59_3 Fj59_4 rfl rfl hkk (by decide) hsay S_cs n_cs S_sf r_sf) hZj59 (ow hw 225 rfl) (ow hw 3 rfl) (by decide) (by decide)) (g := (mkF m 522 #[iv p0, iv p1, iv p2, iv p3, iv p4, s5, iv c0, iv c1, iv c2, rv va1, rv va2, rv va3, rv ea, s13, s14, rv st, s16, iv (Int32.ofNat kk), s18] [(.int 4), (.int (Int32.ofNat kk)), (.ref ea), (.ref st)])) rfl (by rw [hml]; rfl) (argsL := [(.ref st), (.ref ea), (.int (Int32.ofNat kk)), (.int 4)]) (rest := []) (lenOf pd_603 rfl) rfl (by show 2 * 0 + _ ≤ _; exact Nat.le_of_eq rfl) (hb hby at_522) (fun _ _ => ⟨rfl, e64, (by decide : 48 + 0 ≤ _), (by decide : 3328 + 0 ≤ _)⟩)
    dsimp only [Pt.U, Pt.locs, Pt.cells, Pt.slots] at X65 l65 y65 z65 st65 hQ65
    subst l65 y65 z65
    obtain ⟨rfl, N65q, e65⟩ := hQ65
    have N65 := Fr.app N64 N65q
    refine Go.by st65 ?_
    show Go _ _ _ _ T65 (mkF m 525 #[iv p0, iv p1, iv p2, iv p3, iv p4, s5, iv c0, iv c1, iv c2, rv va1, rv va2, rv va3, rv ea, s13, s14, rv st, s16, iv (Int32.ofNat kk), s18] [(.int 1)])
    refine Go.ifN 528 X65 hx (hb hby at_525) (XT.i0_eq_f (by decide)) rfl ?_
    refine Go.aload2 530 X65 hx (hb hby at_528) rfl rfl rfl ?_
    refine Go.aload2 532 X65 hx (hb hby at_530) rfl rfl rfl ?_
    refine Go.iload2 534 X65 hx (hb hby at_532) rfl rfl ?_
    refine Go.iconst 535 X65 hx (5 : Int32) (hb hby at_534) (by decide) rfl ?_
    obtain ⟨_, _, ⟨T66, L66, k66, n66⟩, -, X66, ⟨Lc66, hQ66, l66, y66, z66⟩, st66⟩ := Jvm.LawKit.callS X65 hx (y := (⟨"com/example/entries_to_nodes/entriestonodes/component/ServerAddressToStringPinLaw", "at", "(Ljava/lang/String;[CII)Z"⟩ : MethodName)) hownj59 (mvT hZj59 (ow hw 223 rfl)) (mvT hZj59 (ow hw 224 rfl)) (mvT hZj59 (ow hw 3 rfl)) (mvT hZj59 (ow hw 225 rfl)) (by decide) (backOf (W := 0) (rmAt l Z a0 hw [] st sv ksv ss ea k40 es (Int32.ofNat kk) (5 : Int32) kk 5 cs sf H59 n0 Zj59 Oj59 Fj59_0 Fj59_1 Fj59_2 Fj59_3 Fj59_4 rfl rfl hkk (by decide) hsay S_cs n_cs S_sf r_sf) hZj59 (ow hw 225 rfl) (ow hw 3 rfl) (by decide) (by decide)) (g := (mkF m 535 #[iv p0, iv p1, iv p2, iv p3, iv p4, s5, iv c0, iv c1, iv c2, rv va1, rv va2, rv va3, rv ea, s13, s14, rv st, s16, iv (Int32.ofNat kk), s18] [(.int 5), (.int (Int32.ofNat kk)), (.ref ea), (.ref st)])) rfl (by rw [hml]; rfl) (argsL := [(.ref st), (.ref ea), (.int (Int32.ofNat kk)), (.int 5)]) (rest := []) (lenOf pd_603 rfl) rfl (by show 2 * 0 + _ ≤ _; exact Nat.le_of_eq rfl) (hb hby at_535) (fun _ _ => ⟨rfl, e65, (by decide : 48 + 0 ≤ _), (by decide : 3328 + 0 ≤ _)⟩)
    dsimp only [Pt.U, Pt.locs, Pt.cells, Pt.slots] at X66 l66 y66 z66 st66 hQ66
    subst l66 y66 z66
    obtain ⟨rfl, N66q, e66⟩ := hQ66
    have N66 := Fr.app N65 N66q
    refine Go.by st66 ?_
    show Go _ _ _ _ T66 (mkF m 538 #[iv p0, iv p1, iv p2, iv p3, iv p4, s5, iv c0, iv c1, iv c2, rv va1, rv va2, rv va3, rv ea, s13, s14, rv st, s16, iv (Int32.ofNat kk), s18] [(.int 1)])
    refine Go.ifN 541 X66 hx (hb hby at_538) (XT.i0_eq_f (by decide)) rfl ?_
    refine Go.aload2 543 X66 hx (hb hby at_541) rfl rfl rfl ?_
    refine Go.aload2 545 X66 hx (hb hby at_543) rfl rfl rfl ?_
    refine Go.iload2 547 X66 hx (hb hby at_545) rfl rfl ?_
    refine Go.bipush 549 X66 hx (6 : Int32) (hb hby at_547) (by decide) rfl ?_
    obtain ⟨_, _, ⟨T67, L67, k67, n67⟩, -, X67, ⟨Lc67, hQ67, l67, y67, z67⟩, st67⟩ := Jvm.LawKit.callS X66 hx (y := (⟨"com/example/entries_to_nodes/entriestonodes/component/ServerAddressToStringPinLaw", "at", "(Ljava/lang/String;[CII)Z"⟩ : MethodName)) hownj59 (mvT hZj59 (ow hw 223 rfl)) (mvT hZj59 (ow hw 224 rfl)) (mvT hZj59 (ow hw 3 rfl)) (mvT hZj59 (ow hw 225 rfl)) (by decide) (backOf (W := 0) (rmAt l Z a0 hw [] st sv ksv ss ea k40 es (Int32.ofNat kk) (6 : Int32) kk 6 cs sf H59 n0 Zj59 Oj59 Fj59_0 Fj59_1 Fj59_2 Fj59_3 Fj59_4 rfl rfl hkk (by decide) hsay S_cs n_cs S_sf r_sf) hZj59 (ow hw 225 rfl) (ow hw 3 rfl) (by decide) (by decide)) (g := (mkF m 549 #[iv p0, iv p1, iv p2, iv p3, iv p4, s5, iv c0, iv c1, iv c2, rv va1, rv va2, rv va3, rv ea, s13, s14, rv st, s16, iv (Int32.ofNat kk), s18] [(.int 6), (.int (Int32.ofNat kk)), (.ref ea), (.ref st)])) rfl (by rw [hml]; rfl) (argsL := [(.ref st), (.ref ea), (.int (Int32.ofNat kk)), (.int 6)]) (rest := []) (lenOf pd_603 rfl) rfl (by show 2 * 0 + _ ≤ _; exact Nat.le_of_eq rfl) (hb hby at_549) (fun _ _ => ⟨rfl, e66, (by decide : 48 + 0 ≤ _), (by decide : 3328 + 0 ≤ _)⟩)
    dsimp only [Pt.U, Pt.locs, Pt.cells, Pt.slots] at X67 l67 y67 z67 st67 hQ67
    subst l67 y67 z67
    obtain ⟨rfl, N67q, e67⟩ := hQ67
    have N67 := Fr.app N66 N67q
    refine Go.by st67 ?_
    show Go _ _ _ _ T67 (mkF m 552 #[iv p0, iv p1, iv p2, iv p3, iv p4, s5, iv c0, iv c1, iv c2, rv va1, rv va2, rv va3, rv ea, s13, s14, rv st, s16, iv (Int32.ofNat kk), s18] [(.int 1)])
    refine Go.ifN 555 X67 hx (hb hby at_552) (XT.i0_eq_f (by decide)) rfl ?_
    refine Go.aload2 557 X67 hx (hb hby at_555) rfl rfl rfl ?_
    refine Go.aload2 559 X67 hx (hb hby at_557) rfl rfl rfl ?_
    refine Go.iload2 561 X67 hx (hb hby at_559) rfl rfl ?_
    refine Go.bipush 563 X67 hx (7 : Int32) (hb hby at_561) (by decide) rfl ?_
    obtain ⟨_, _, ⟨T68, L68, k68, n68⟩, -, X68, ⟨Lc68, hQ68, l68, y68, z68⟩, st68⟩ := Jvm.LawKit.callS X67 hx (y := (⟨"com/example/entries_to_nodes/entriestonodes/component/ServerAddressToStringPinLaw", "at", "(Ljava/lang/String;[CII)Z"⟩ : MethodName)) hownj59 (mvT hZj59 (ow hw 223 rfl)) (mvT hZj59 (ow hw 224 rfl)) (mvT hZj59 (ow hw 3 rfl)) (mvT hZj59 (ow hw 225 rfl)) (by decide) (backOf (W := 0) (rmAt l Z a0 hw [] st sv ksv ss ea k40 es (Int32.ofNat kk) (7 : Int32) kk 7 cs sf H59 n0 Zj59 Oj59 Fj59_0 Fj59_1 Fj59_2 Fj59_3 Fj59_4 rfl rfl hkk (by decide) hsay S_cs n_cs S_sf r_sf) hZj59 (ow hw 225 rfl) (ow hw 3 rfl) (by decide) (by decide)) (g := (mkF m 563 #[iv p0, iv p1, iv p2, iv p3, iv p4, s5, iv c0, iv c1, iv c2, rv va1, rv va2, rv va3, rv ea, s13, s14, rv st, s16, iv (Int32.ofNat kk), s18] [(.int 7), (.int (Int32.ofNat kk)), (.ref ea), (.ref st)])) rfl (by rw [hml]; rfl) (argsL := [(.ref st), (.ref ea), (.int (Int32.ofNat kk)), (.int 7)]) (rest := []) (lenOf pd_603 rfl) rfl (by show 2 * 0 + _ ≤ _; exact Nat.le_of_eq rfl) (hb hby at_563) (fun _ _ => ⟨rfl, e67, (by decide : 48 + 0 ≤ _), (by decide : 3328 + 0 ≤ _)⟩)
    dsimp only [Pt.U, Pt.locs, Pt.cells, Pt.slots] at X68 l68 y68 z68 st68 hQ68
    subst l68 y68 z68
    obtain ⟨rfl, N68q, e68⟩ := hQ68
    have N68 := Fr.app N67 N68q
    refine Go.by st68 ?_
    show Go _ _ _ _ T68 (mkF m 566 #[iv p0, iv p1, iv p2, iv p3, iv p4, s5, iv c0, iv c1, iv c2, rv va1, rv va2, rv va3, rv ea, s13, s14, rv st, s16, iv (Int32.ofNat kk), s18] [(.int 1)])
    refine Go.ifN 569 X68 hx (hb hby at_566) (XT.i0_eq_f (by decide)) rfl ?_
    refine Go.aload2 571 X68 hx (hb hby at_569) rfl rfl rfl ?_
    refine Go.aload2 573 X68 hx (hb hby at_571) rfl rfl rfl ?_
    refine Go.iload2 575 X68 hx (hb hby at_573) rfl rfl ?_
    refine Go.bipush 577 X68 hx (8 : Int32) (hb hby at_575) (by decide) rfl ?_
    obtain ⟨_, _, ⟨T69, L69, k69, n69⟩, -, X69, ⟨Lc69, hQ69, l69, y69, z69⟩, st69⟩ := Jvm.LawKit.callS X68 hx (y := (⟨"com/example/entries_to_nodes/entriestonodes/component/ServerAddressToStringPinLaw", "at", "(Ljava/lang/String;[CII)Z"⟩ : MethodName)) hownj59 (mvT hZj59 (ow hw 223 rfl)) (mvT hZj59 (ow hw 224 rfl)) (mvT hZj59 (ow hw 3 rfl)) (mvT hZj59 (ow hw 225 rfl)) (by decide) (backOf (W := 0) (rmAt l Z a0 hw [] st sv ksv ss ea k40 es (Int32.ofNat kk) (8 : Int32) kk 8 cs sf H59 n0 Zj59 Oj59 Fj59_0 Fj59_1 Fj59_2 Fj59_3 Fj59_4 rfl rfl hkk (by decide) hsay S_cs n_cs S_sf r_sf) hZj59 (ow hw 225 rfl) (ow hw 3 rfl) (by decide) (by decide)) (g := (mkF m 577 #[iv p0, iv p1, iv p2, iv p3, iv p4, s5, iv c0, iv c1, iv c2, rv va1, rv va2, rv va3, rv ea, s13, s14, rv st, s16, iv (Int32.ofNat kk), s18] [(.int 8), (.int (Int32.ofNat kk)), (.ref ea), (.ref st)])) rfl (by rw [hml]; rfl) (argsL := [(.ref st), (.ref ea), (.int (Int32.ofNat kk)), (.int 8)]) (rest := []) (lenOf pd_603 rfl) rfl (by show 2 * 0 + _ ≤ _; exact Nat.le_of_eq rfl) (hb hby at_577) (fun _ _ => ⟨rfl, e68, (by decide : 48 + 0 ≤ _), (by decide : 3328 + 0 ≤ _)⟩)
    dsimp only [Pt.U, Pt.locs, Pt.cells, Pt.slots] at X69 l69 y69 z69 st69 hQ69
    subst l69 y69 z69
    obtain ⟨rfl, N69q, e69⟩ := hQ69
    have N69 := Fr.app N68 N69q
    refine Go.by st69 ?_
    show Go _ _ _ _ T69 (mkF m 580 #[iv p0, iv p1, iv p2, iv p3, iv p4, s5, iv c0, iv c1, iv c2, rv va1, rv va2, rv va3, rv ea, s13, s14, rv st, s16, iv (Int32.ofNat kk), s18] [(.int 1)])
    refine Go.ifN 583 X69 hx (hb hby at_580) (XT.i0_eq_f (by decide)) rfl ?_
    refine Go.aload2 585 X69 hx (hb hby at_583) rfl rfl rfl ?_
    refine Go.aload2 587 X69 hx (hb hby at_585) rfl rfl rfl ?_
    refine Go.iload2 589 X69 hx (hb hby at_587) rfl rfl ?_
    refine Go.bipush 591 X69 hx (9 : Int32) (hb hby at_589) (by decide) rfl ?_
    obtain ⟨_, _, ⟨T70, L70, k70, n70⟩, -, X70, ⟨Lc70, hQ70, l70, y70, z70⟩, st70⟩ := Jvm.LawKit.callS X69 hx (y := (⟨"com/example/entries_to_nodes/entriestonodes/component/ServerAddressToStringPinLaw", "at", "(Ljava/lang/String;[CII)Z"⟩ : MethodName)) hownj59 (mvT hZj59 (ow hw 223 rfl)) (mvT hZj59 (ow hw 224 rfl)) (mvT hZj59 (ow hw 3 rfl)) (mvT hZj59 (ow hw 225 rfl)) (by decide) (backOf (W := 0) (rmAt l Z a0 hw [] st sv ksv ss ea k40 es (Int32.ofNat kk) (9 : Int32) kk 9 cs sf H59 n0 Zj59 Oj59 Fj59_0 Fj59_1 Fj59_2 Fj59_3 Fj59_4 rfl rfl hkk (by decide) hsay S_cs n_cs S_sf r_sf) hZj59 (ow hw 225 rfl) (ow hw 3 rfl) (by decide) (by decide)) (g := (mkF m 591 #[iv p0, iv p1, iv p2, iv p3, iv p4, s5, iv c0, iv c1, iv c2, rv va1, rv va2, rv va3, rv ea, s13, s14, rv st, s16, iv (Int32.ofNat kk), s18] [(.int 9), (.int (Int32.ofNat kk)), (.ref ea), (.ref st)])) rfl (by rw [hml]; rfl) (argsL := [(.ref st), (.ref ea), (.int (Int32.ofNat kk)), (.int 9)]) (rest := []) (lenOf pd_603 rfl) rfl (by show 2 * 0 + _ ≤ _; exact Nat.le_of_eq rfl) (hb hby at_591) (fun _ _ => ⟨rfl, e69, (by decide : 48 + 0 ≤ _), (by decide : 3328 + 0 ≤ _)⟩)
    dsimp only [Pt.U, Pt.locs, Pt.cells, Pt.slots] at X70 l70 y70 z70 st70 hQ70
    subst l70 y70 z70
    obtain ⟨rfl, N70q, e70⟩ := hQ70
    have N70 := Fr.app N69 N70q
    refine Go.by st70 ?_
    show Go _ _ _ _ T70 (mkF m 594 #[iv p0, iv p1, iv p2, iv p3, iv p4, s5, iv c0, iv c1, iv c2, rv va1, rv va2, rv va3, rv ea, s13, s14, rv st, s16, iv (Int32.ofNat kk), s18] [(.int 1)])
    refine Go.ifN 597 X70 hx (hb hby at_594) (XT.i0_eq_f (by decide)) rfl ?_
    refine Go.aload2 599 X70 hx (hb hby at_597) rfl rfl rfl ?_
    refine Go.aload2 601 X70 hx (hb hby at_599) rfl rfl rfl ?_
    refine Go.iload2 603 X70 hx (hb hby at_601) rfl rfl ?_
    refine Go.bipush 605 X70 hx (10 : Int32) (hb hby at_603) (by decide) rfl ?_
    obtain ⟨_, _, ⟨T71, L71, k71, n71⟩, -, X71, ⟨Lc71, hQ71, l71, y71, z71⟩, st71⟩ := Jvm.LawKit.callS X70 hx (y := (⟨"com/example/entries_to_nodes/entriestonodes/component/ServerAddressToStringPinLaw", "at", "(Ljava/lang/String;[CII)Z"⟩ : MethodName)) hownj59 (mvT hZj59 (ow hw 223 rfl)) (mvT hZj59 (ow hw 224 rfl)) (mvT hZj59 (ow hw 3 rfl)) (mvT hZj59 (ow hw 225 rfl)) (by decide) (backOf (W := 0) (rmAt l Z a0 hw [] st sv ksv ss ea k40 es (Int32.ofNat kk) (10 : Int32) kk 10 cs sf H59 n0 Zj59 Oj59 Fj59_0 Fj59_1 Fj59_2 Fj59_3 Fj59_4 rfl rfl hkk (by decide) hsay S_cs n_cs S_sf r_sf) hZj59 (ow hw 225 rfl) (ow hw 3 rfl) (by decide) (by decide)) (g := (mkF m 605 #[iv p0, iv p1, iv p2, iv p3, iv p4, s5, iv c0, iv c1, iv c2, rv va1, rv va2, rv va3, rv ea, s13, s14, rv st, s16, iv (Int32.ofNat kk), s18] [(.int 10), (.int (Int32.ofNat kk)), (.ref ea), (.ref st)])) rfl (by rw [hml]; rfl) (argsL := [(.ref st), (.ref ea), (.int (Int32.ofNat kk)), (.int 10)]) (rest := []) (lenOf pd_603 rfl) rfl (by show 2 * 0 + _ ≤ _; exact Nat.le_of_eq rfl) (hb hby at_605) (fun _ _ => ⟨rfl, e70, (by decide : 48 + 0 ≤ _), (by decide : 3328 + 0 ≤ _)⟩)
    dsimp only [Pt.U, Pt.locs, Pt.cells, Pt.slots] at X71 l71 y71 z71 st71 hQ71
    subst l71 y71 z71
    obtain ⟨rfl, N71q, e71⟩ := hQ71
    have N71 := Fr.app N70 N71q
    refine Go.by st71 ?_
    show Go _ _ _ _ T71 (mkF m 608 #[iv p0, iv p1, iv p2, iv p3, iv p4, s5, iv c0, iv c1, iv c2, rv va1, rv va2, rv va3, rv ea, s13, s14, rv st, s16, iv (Int32.ofNat kk), s18] [(.int 1)])
    refine Go.ifN 611 X71 hx (hb hby at_608) (XT.i0_eq_f (by decide)) rfl ?_
    refine Go.iconst 612 X71 hx (1 : Int32) (hb hby at_611) (by decide) rfl ?_
    refine Go.goto 616 X71 hx (hb hby at_612) (by decide) (by decide) ?_
    exact Go.retIW X71 hx Bd.notSynchronized hSj59 (by rw [e71]; exact hkj59) hZj59 hEL (by rw [hh, e71]; exact C59) Bd.returns rfl (by simp) (hb hby at_616) (by rw [e71]; exact ⟨rfl, N71⟩) (by decide) (by decide)
  have J72 : ∀ (T72 : State) (lc72 : List Loc) (H72 : Heap) (vmj72 : Vm) (nk72 : Nat) (st : Addr) (sv : Addr) (ksv : ClassId) (sl : List Value) (pl : List Value) (pt : Int32) (s5 : Slot) (s13 : Slot) (s16 : Slot), (Stand p l e room_1 (s.setVm vmj72) m #[(.int p0), (.int p1), (.int p2), (.int p3), (.int p4)] below meth c T72 lc72 48 3328) → (T72.heap = H72) → (Fr n0 lc72) → (n0 ≤ H72.size) → (Old Z n0 H72) → (CHr Z own_EL s.vm h0 vmj72 H72) → (nk72 ≤ H72.size) → (s.Since vmj72 nk72) → (Z.Warmed39 (s.setVm vmj72).vm) → ((s.setVm vmj72).vm.findClass "com/example/entries_to_nodes/entriestonodes/component/ServerAddressToStringPinLaw" = some m.cls) → (Exa Z H72 st "java/lang/String") → (Fld Z H72 st "java/lang/String" "coder" "B" (.int 0)) → (Fld Z H72 st "java/lang/String" "value" "[B" (.ref sv)) → (Arv Z H72 sv ksv .byte (Int32.ofNat (sl ++ own_dg pt).length) (sl ++ own_dg pt) (.int 0)) → (Arv Z H72 ea k40 .char (11 : Int32) (pl ++ ([] : List Value)) (.int 0)) → (sv ≠ ea) → (st ≠ ea) → (0 < pt.toInt ∧ pt.toInt ≤ 65535) → (sl.length = pl.length) → (pl.length ≤ 6) → (own_says sl pl pl.length) → Go p e below (EndW Z own_EL s (Q_rm0 Z p0 p1 p2 p3 p4 cs d1 d2 kd1 kd2 sf h0 n0) 48 3328) T72 (mkF m 279 #[iv p0, iv p1, iv p2, iv p3, iv p4, s5, iv c0, iv c1, iv c2, rv va1, rv va2, rv va3, rv ea, s13, iv pt, rv st, s16, iv (Int32.ofNat (pl ++ ([] : List Value)).length), un] []) := by
    intro T72 lc72 H72 vmj72 nk72 st sv ksv sl pl pt s5 s13 s16 X72 e72 N72 Zj72 Oj72 C72 hkj72 hSj72 hZj72 hownj72 Fj72_0 Fj72_1 Fj72_2 Fj72_3 Fj72_4 Fj72_5 Fj72_6 hp hls hlp hsay0
    show Go _ _ _ _ T72 (mkF m 279 #[iv p0, iv p1, iv p2, iv p3, iv p4, s5, iv c0, iv c1, iv c2, rv va1, rv va2, rv va3, rv ea, s13, iv pt, rv st, s16, iv (Int32.ofNat (pl ++ ([] : List Value)).length), un] [])
    have li73 : (10000 : Int32).toInt = 10000 := by decide
    have li74 : (1000 : Int32).toInt = 1000 := by decide
    have li75 : (100 : Int32).toInt = 100 := by decide
    have li76 : (10 : Int32).toInt = 10 := by decide
    have li77 : (5 : Int32).toInt = 5 := by decide
    rcases own_sz hp with hs | hs | hs | hs | hs
    · have hd := own_dg_1 hs
      have hX : (pl ++ ([] : List Value)).length = pl.length + 0 := by rw [List.length_append]; rfl
      refine Go.iload2 281 X72 hx (hb hby at_279) rfl rfl ?_
      refine Go.sipush 284 X72 hx (10000 : Int32) (hb hby at_281) (by decide) rfl ?_
      refine Go.icmpY 291 X72 hx (hb hby at_284) (XT.ii_lt_t (u_lt32 (by omega))) (by decide) (by decide) ?_
      refine Go.iload2 293 X72 hx (hb hby at_291) rfl rfl ?_
      refine Go.sipush 296 X72 hx (1000 : Int32) (hb hby at_293) (by decide) rfl ?_
      refine Go.icmpY 303 X72 hx (hb hby at_296) (XT.ii_lt_t (u_lt32 (by omega))) (by decide) (by decide) ?_
      refine Go.iload2 305 X72 hx (hb hby at_303) rfl rfl ?_
      refine Go.bipush 307 X72 hx (100 : Int32) (hb hby at_305) (by decide) rfl ?_
      refine Go.icmpY 314 X72 hx (hb hby at_307) (XT.ii_lt_t (u_lt32 (by omega))) (by decide) (by decide) ?_
      refine Go.iload2 316 X72 hx (hb hby at_314) rfl rfl ?_
      refine Go.bipush 318 X72 hx (10 : Int32) (hb hby at_316) (by decide) rfl ?_
      refine Go.icmpY 325 X72 hx (hb hby at_318) (XT.ii_lt_t (u_lt32 (by omega))) (by decide) (by decide) ?_
      refine Go.iconst 326 X72 hx (1 : Int32) (hb hby at_325) (by decide) rfl ?_
      refine Go.istore2 328 X72 hx (L' := #[iv p0, iv p1, iv p2, iv p3, iv p4, s5, iv c0, iv c1, iv c2, rv va1, rv va2, rv va3, rv ea, s13, iv pt, rv st, s16, iv (Int32.ofNat (pl ++ ([] : List Value)).length), iv 1]) (hb hby at_326) rfl rfl ?_
      refine Go.iload2 330 X72 hx (hb hby at_328) rfl rfl ?_
      refine Go.iconst 331 X72 hx (5 : Int32) (hb hby at_330) (by decide) rfl ?_
      refine Go.icmpY 355 X72 hx (hb hby at_331) (XT.ii_lt_t (by decide)) (by decide) (by decide) ?_
      refine Go.iload2 357 X72 hx (hb hby at_355) rfl rfl ?_
      refine Go.iconst 358 X72 hx (4 : Int32) (hb hby at_357) (by decide) rfl ?_
      refine Go.icmpY 382 X72 hx (hb hby at_358) (XT.ii_lt_t (by decide)) (by decide) (by decide) ?_
      refine Go.iload2 384 X72 hx (hb hby at_382) rfl rfl ?_
      refine Go.iconst 385 X72 hx (3 : Int32) (hb hby at_384) (by decide) rfl ?_
      refine Go.icmpY 408 X72 hx (hb hby at_385) (XT.ii_lt_t (by decide)) (by decide) (by decide) ?_
      refine Go.iload2 410 X72 hx (hb hby at_408) rfl rfl ?_
      refine Go.iconst 411 X72 hx (2 : Int32) (hb hby at_410) (by decide) rfl ?_
      refine Go.icmpY 434 X72 hx (hb hby at_411) (XT.ii_lt_t (by decide)) (by decide) (by decide) ?_
      refine Go.aload2 436 X72 hx (hb hby at_434) rfl rfl rfl ?_
      refine Go.iload2 438 X72 hx (hb hby at_436) rfl rfl ?_
      refine Go.bipush 440 X72 hx (48 : Int32) (hb hby at_438) (by decide) rfl ?_
      refine Go.iload2 442 X72 hx (hb hby at_440) rfl rfl ?_
      refine Go.bipush 444 X72 hx (10 : Int32) (hb hby at_442) (by decide) rfl ?_
      refine Go.irem 445 X72 hx (hb hby at_444) (by decide) rfl ?_
      obtain ⟨n78, h_n78⟩ : ∃ z, z = (pt - pt / (10 : Int32) * (10 : Int32)) := ⟨_, rfl⟩
      rw [← h_n78]
      show Go _ _ _ _ T72 (mkF m 445 #[iv p0, iv p1, iv p2, iv p3, iv p4, s5, iv c0, iv c1, iv c2, rv va1, rv va2, rv va3, rv ea, s13, iv pt, rv st, s16, iv (Int32.ofNat (pl ++ ([] : List Value)).length), iv 1] [(.int n78), (.int 48), (.int (Int32.ofNat (pl ++ ([] : List Value)).length)), (.ref ea)])
      have e_n78 : n78.toInt = pt.toInt % 10 := by rw [h_n78]; exact (x_irem 10 (by decide)).1 (by omega)
      refine Go.iadd 446 X72 hx (hb hby at_445) rfl ?_
      refine Go.i2c 447 X72 hx (hb hby at_446) rfl ?_
      rw [(own_ld (v := n78) 1 hp (by omega) : (((48 : Int32) + n78).toUInt32.toUInt16.toUInt32.toInt32) = own_dgt pt 1)]
      show Go _ _ _ _ T72 (mkF m 447 #[iv p0, iv p1, iv p2, iv p3, iv p4, s5, iv c0, iv c1, iv c2, rv va1, rv va2, rv va3, rv ea, s13, iv pt, rv st, s16, iv (Int32.ofNat (pl ++ ([] : List Value)).length), iv 1] [(.int (own_dgt pt 1)), (.int (Int32.ofNat (pl ++ ([] : List Value)).length)), (.ref ea)])
      have Vp79 : Arv Z H72 ea k40 .char (11 : Int32) (own_row (pl ++ ([] : List Value)) 1 []) (.int 0) := own_row_inC 1 Fj72_4
      obtain ⟨cl80, Ar80, q80, S80, M80, H80, G80⟩ := id Vp79
      have hin80 : ¬ ((Int32.ofNat (pl ++ ([] : List Value)).length) < 0 ∨ cl80.slots.size ≤ (Int32.ofNat (pl ++ ([] : List Value)).length).toNatClampNeg) := inb_of S80 ⟨own_ofnn (by omega), own_oflt (j := 11) (by omega) (by omega)⟩
      obtain ⟨T80, h80, X80, e80, W80, st80⟩ := stC X72 hx hZj72 e72 Ar80 (j := (Int32.ofNat (pl ++ ([] : List Value)).length)) hin80 (g := (mkF m 447 #[iv p0, iv p1, iv p2, iv p3, iv p4, s5, iv c0, iv c1, iv c2, rv va1, rv va2, rv va3, rv ea, s13, iv pt, rv st, s16, iv (Int32.ofNat (pl ++ ([] : List Value)).length), iv 1] [(.int (own_dgt pt 1)), (.int (Int32.ofNat (pl ++ ([] : List Value)).length)), (.ref ea)])) rfl rfl (hb hby at_447)
      have C81 : CHr Z own_EL s.vm h0 vmj72 h80 := C72.trans (CHr.wr W80 (Safe.arv hZj72.alike Vp79 (by decide)) C72.1)
      have N80 := Fr.snoc X80 N72 ge_ea
      have V80 : Arv Z h80 ea k40 .char (11 : Int32) ((own_row (pl ++ ([] : List Value)) 1 []).set ((pl ++ ([] : List Value)).length + 0) (.int (nar .char (own_dgt pt 1)))) (.int 0) := Arv.set Ar80 q80 S80 M80 H80 G80 (fits_nar_char _) W80 ((pl ++ ([] : List Value)).length + 0) (own_ofn (by omega)) (by rw [own_row_len]; omega)
      refine Go.by st80 ?_
      show Go _ _ _ _ T80 (mkF m 448 #[iv p0, iv p1, iv p2, iv p3, iv p4, s5, iv c0, iv c1, iv c2, rv va1, rv va2, rv va3, rv ea, s13, iv pt, rv st, s16, iv (Int32.ofNat (pl ++ ([] : List Value)).length), iv 1] [])
      have Vx79 : Arv Z h80 ea k40 .char (11 : Int32) (pl ++ ([(.int (own_dgt pt 1))] : List Value)) (.int 0) := by have v_ := V80; rw [own_row_set, own_row_snoc, own_ncb (own_dgt_b pt 1).1 (own_dgt_b pt 1).2] at v_; exact v_
      have hX79 : (pl ++ ([(.int (own_dgt pt 1))] : List Value)).length = pl.length + 1 := by rw [List.length_append]; rfl
      refine Go.iinc 451 X80 hx (1 : Int32) (L' := #[iv p0, iv p1, iv p2, iv p3, iv p4, s5, iv c0, iv c1, iv c2, rv va1, rv va2, rv va3, rv ea, s13, iv pt, rv st, s16, iv ((Int32.ofNat (pl ++ ([] : List Value)).length) + (1 : Int32)), iv 1]) (hb hby at_448) (by decide) rfl rfl rfl ?_
      rw [show Int32.ofNat (pl ++ ([] : List Value)).length + (1 : Int32) = Int32.ofNat (pl ++ ([(.int (own_dgt pt 1))] : List Value)).length from own_inc ([] : List Value) (.int (own_dgt pt 1))]
      show Go _ _ _ _ T80 (mkF m 451 #[iv p0, iv p1, iv p2, iv p3, iv p4, s5, iv c0, iv c1, iv c2, rv va1, rv va2, rv va3, rv ea, s13, iv pt, rv st, s16, iv (Int32.ofNat (pl ++ ([(.int (own_dgt pt 1))] : List Value)).length), iv 1] [])
      have F82 : Keep H72 h80 [ea] := (Keep.refl H72 [ea]).wr W80 (Or.inl (List.mem_of_getElem? (i := 0) rfl))
      have F83 : Exa Z h80 st "java/lang/String" := Fj72_0.keep F82
      have F84 : Fld Z h80 st "java/lang/String" "coder" "B" (.int 0) := Fj72_1.keep F82 (ninS Fj72_6 nin0)
      have F85 : Fld Z h80 st "java/lang/String" "value" "[B" (.ref sv) := Fj72_2.keep F82 (ninS Fj72_6 nin0)
      have F86 : Arv Z h80 sv ksv .byte (Int32.ofNat (sl ++ own_dg pt).length) (sl ++ own_dg pt) (.int 0) := Fj72_3.keep F82 (ninS Fj72_5 nin0)
      have hY : (sl ++ ([(.int (own_dgt pt 1))] : List Value)).length = (pl ++ ([(.int (own_dgt pt 1))] : List Value)).length := by rw [List.length_append, List.length_append, hls]
      have Vd : Arv Z h80 sv ksv .byte (Int32.ofNat (pl ++ ([(.int (own_dgt pt 1))] : List Value)).length) (sl ++ ([(.int (own_dgt pt 1))] : List Value)) (.int 0) := by have v_ := F86; rw [hd, hY] at v_; exact v_
      have F87 : n0 ≤ h80.size := Nat.le_trans Zj72 (Nat.le_of_eq (Wr.size W80).symm)
      have F88 : Old Z n0 h80 := Oj72.wr W80 ge_ea
      have F89 : nk72 ≤ h80.size := Nat.le_trans hkj72 (Nat.le_of_eq (Wr.size W80).symm)
      exact J59 _ _ _ _ _ st sv ksv (sl ++ ([(.int (own_dgt pt 1))] : List Value)) (pl ++ ([(.int (own_dgt pt 1))] : List Value)) ((pl ++ ([(.int (own_dgt pt 1))] : List Value)).length) s5 s13 (iv pt) s16 (iv 1) (X80.more (by decide) (by decide)) e80 N80 F87 F88 C81 F89 hSj72 hZj72 hownj72 F83 F84 F85 Vd Vx79 (by rw [hX79]; exact own_says_app hsay0 hls rfl (own_sC (own_pd pt 1) own_s0)) (by rw [hX79]; omega)
    · have hd := own_dg_2 hs
      have hX : (pl ++ ([] : List Value)).length = pl.length + 0 := by rw [List.length_append]; rfl
      refine Go.iload2 281 X72 hx (hb hby at_279) rfl rfl ?_
      refine Go.sipush 284 X72 hx (10000 : Int32) (hb hby at_281) (by decide) rfl ?_
      refine Go.icmpY 291 X72 hx (hb hby at_284) (XT.ii_lt_t (u_lt32 (by omega))) (by decide) (by decide) ?_
      refine Go.iload2 293 X72 hx (hb hby at_291) rfl rfl ?_
      refine Go.sipush 296 X72 hx (1000 : Int32) (hb hby at_293) (by decide) rfl ?_
      refine Go.icmpY 303 X72 hx (hb hby at_296) (XT.ii_lt_t (u_lt32 (by omega))) (by decide) (by decide) ?_
      refine Go.iload2 305 X72 hx (hb hby at_303) rfl rfl ?_
      refine Go.bipush 307 X72 hx (100 : Int32) (hb hby at_305) (by decide) rfl ?_
      refine Go.icmpY 314 X72 hx (hb hby at_307) (XT.ii_lt_t (u_lt32 (by omega))) (by decide) (by decide) ?_
      refine Go.iload2 316 X72 hx (hb hby at_314) rfl rfl ?_
      refine Go.bipush 318 X72 hx (10 : Int32) (hb hby at_316) (by decide) rfl ?_
      refine Go.icmpN 321 X72 hx (hb hby at_318) (XT.ii_lt_f (u_nlt32 (by omega))) rfl ?_
      refine Go.iconst 322 X72 hx (2 : Int32) (hb hby at_321) (by decide) rfl ?_
      refine Go.goto 326 X72 hx (hb hby at_322) (by decide) (by decide) ?_
      refine Go.istore2 328 X72 hx (L' := #[iv p0, iv p1, iv p2, iv p3, iv p4, s5, iv c0, iv c1, iv c2, rv va1, rv va2, rv va3, rv ea, s13, iv pt, rv st, s16, iv (Int32.ofNat (pl ++ ([] : List Value)).length), iv 2]) (hb hby at_326) rfl rfl ?_
      refine Go.iload2 330 X72 hx (hb hby at_328) rfl rfl ?_
      refine Go.iconst 331 X72 hx (5 : Int32) (hb hby at_330) (by decide) rfl ?_
      refine Go.icmpY 355 X72 hx (hb hby at_331) (XT.ii_lt_t (by decide)) (by decide) (by decide) ?_
      refine Go.iload2 357 X72 hx (hb hby at_355) rfl rfl ?_
      refine Go.iconst 358 X72 hx (4 : Int32) (hb hby at_357) (by decide) rfl ?_
      refine Go.icmpY 382 X72 hx (hb hby at_358) (XT.ii_lt_t (by decide)) (by decide) (by decide) ?_
      refine Go.iload2 384 X72 hx (hb hby at_382) rfl rfl ?_
      refine Go.iconst 385 X72 hx (3 : Int32) (hb hby at_384) (by decide) rfl ?_
      refine Go.icmpY 408 X72 hx (hb hby at_385) (XT.ii_lt_t (by decide)) (by decide) (by decide) ?_
      refine Go.iload2 410 X72 hx (hb hby at_408) rfl rfl ?_
      refine Go.iconst 411 X72 hx (2 : Int32) (hb hby at_410) (by decide) rfl ?_
      refine Go.icmpN 414 X72 hx (hb hby at_411) (XT.ii_lt_f (by decide)) rfl ?_
      refine Go.aload2 416 X72 hx (hb hby at_414) rfl rfl rfl ?_
      refine Go.iload2 418 X72 hx (hb hby at_416) rfl rfl ?_
      refine Go.bipush 420 X72 hx (48 : Int32) (hb hby at_418) (by decide) rfl ?_
      refine Go.iload2 422 X72 hx (hb hby at_420) rfl rfl ?_
      refine Go.bipush 424 X72 hx (10 : Int32) (hb hby at_422) (by decide) rfl ?_
      refine Go.idiv 425 X72 hx (hb hby at_424) (by decide) rfl ?_
      obtain ⟨n90, h_n90⟩ : ∃ z, z = (pt / (10 : Int32)) := ⟨_, rfl⟩
      rw [← h_n90]
      show Go _ _ _ _ T72 (mkF m 425 #[iv p0, iv p1, iv p2, iv p3, iv p4, s5, iv c0, iv c1, iv c2, rv va1, rv va2, rv va3, rv ea, s13, iv pt, rv st, s16, iv (Int32.ofNat (pl ++ ([] : List Value)).length), iv 2] [(.int n90), (.int 48), (.int (Int32.ofNat (pl ++ ([] : List Value)).length)), (.ref ea)])
      have e_n90 : n90.toInt = pt.toInt / 10 := by rw [h_n90]; exact (x_idiv 10 (by decide) (by decide)).1 (by omega)
      refine Go.bipush 427 X72 hx (10 : Int32) (hb hby at_425) (by decide) rfl ?_
      refine Go.irem 428 X72 hx (hb hby at_427) (by decide) rfl ?_
      obtain ⟨n91, h_n91⟩ : ∃ z, z = (n90 - n90 / (10 : Int32) * (10 : Int32)) := ⟨_, rfl⟩
      rw [← h_n91]
      show Go _ _ _ _ T72 (mkF m 428 #[iv p0, iv p1, iv p2, iv p3, iv p4, s5, iv c0, iv c1, iv c2, rv va1, rv va2, rv va3, rv ea, s13, iv pt, rv st, s16, iv (Int32.ofNat (pl ++ ([] : List Value)).length), iv 2] [(.int n91), (.int 48), (.int (Int32.ofNat (pl ++ ([] : List Value)).length)), (.ref ea)])
      have e_n91 : n91.toInt = n90.toInt % 10 := by rw [h_n91]; exact (x_irem 10 (by decide)).1 (by omega)
      refine Go.iadd 429 X72 hx (hb hby at_428) rfl ?_
      refine Go.i2c 430 X72 hx (hb hby at_429) rfl ?_
      rw [(own_ld (v := n91) 10 hp (by omega) : (((48 : Int32) + n91).toUInt32.toUInt16.toUInt32.toInt32) = own_dgt pt 10)]
      show Go _ _ _ _ T72 (mkF m 430 #[iv p0, iv p1, iv p2, iv p3, iv p4, s5, iv c0, iv c1, iv c2, rv va1, rv va2, rv va3, rv ea, s13, iv pt, rv st, s16, iv (Int32.ofNat (pl ++ ([] : List Value)).length), iv 2] [(.int (own_dgt pt 10)), (.int (Int32.ofNat (pl ++ ([] : List Value)).length)), (.ref ea)])
      have Vp92 : Arv Z H72 ea k40 .char (11 : Int32) (own_row (pl ++ ([] : List Value)) 1 []) (.int 0) := own_row_inC 1 Fj72_4
      obtain ⟨cl93, Ar93, q93, S93, M93, H93, G93⟩ := id Vp92
      have hin93 : ¬ ((Int32.ofNat (pl ++ ([] : List Value)).length) < 0 ∨ cl93.slots.size ≤ (Int32.ofNat (pl ++ ([] : List Value)).length).toNatClampNeg) := inb_of S93 ⟨own_ofnn (by omega), own_oflt (j := 11) (by omega) (by omega)⟩
      obtain ⟨T93, h93, X93, e93, W93, st93⟩ := stC X72 hx hZj72 e72 Ar93 (j := (Int32.ofNat (pl ++ ([] : List Value)).length)) hin93 (g := (mkF m 430 #[iv p0, iv p1, iv p2, iv p3, iv p4, s5, iv c0, iv c1, iv c2, rv va1, rv va2, rv va3, rv ea, s13, iv pt, rv st, s16, iv (Int32.ofNat (pl ++ ([] : List Value)).length), iv 2] [(.int (own_dgt pt 10)), (.int (Int32.ofNat (pl ++ ([] : List Value)).length)), (.ref ea)])) rfl rfl (hb hby at_430)
      have C94 : CHr Z own_EL s.vm h0 vmj72 h93 := C72.trans (CHr.wr W93 (Safe.arv hZj72.alike Vp92 (by decide)) C72.1)
      have N93 := Fr.snoc X93 N72 ge_ea
      have V93 : Arv Z h93 ea k40 .char (11 : Int32) ((own_row (pl ++ ([] : List Value)) 1 []).set ((pl ++ ([] : List Value)).length + 0) (.int (nar .char (own_dgt pt 10)))) (.int 0) := Arv.set Ar93 q93 S93 M93 H93 G93 (fits_nar_char _) W93 ((pl ++ ([] : List Value)).length + 0) (own_ofn (by omega)) (by rw [own_row_len]; omega)
      refine Go.by st93 ?_
      show Go _ _ _ _ T93 (mkF m 431 #[iv p0, iv p1, iv p2, iv p3, iv p4, s5, iv c0, iv c1, iv c2, rv va1, rv va2, rv va3, rv ea, s13, iv pt, rv st, s16, iv (Int32.ofNat (pl ++ ([] : List Value)).length), iv 2] [])
      have Vx92 : Arv Z h93 ea k40 .char (11 : Int32) (pl ++ ([(.int (own_dgt pt 10))] : List Value)) (.int 0) := by have v_ := V93; rw [own_row_set, own_row_snoc, own_ncb (own_dgt_b pt 10).1 (own_dgt_b pt 10).2] at v_; exact v_
      have hX92 : (pl ++ ([(.int (own_dgt pt 10))] : List Value)).length = pl.length + 1 := by rw [List.length_append]; rfl
      refine Go.iinc 434 X93 hx (1 : Int32) (L' := #[iv p0, iv p1, iv p2, iv p3, iv p4, s5, iv c0, iv c1, iv c2, rv va1, rv va2, rv va3, rv ea, s13, iv pt, rv st, s16, iv ((Int32.ofNat (pl ++ ([] : List Value)).length) + (1 : Int32)), iv 2]) (hb hby at_431) (by decide) rfl rfl rfl ?_
      rw [show Int32.ofNat (pl ++ ([] : List Value)).length + (1 : Int32) = Int32.ofNat (pl ++ ([(.int (own_dgt pt 10))] : List Value)).length from own_inc ([] : List Value) (.int (own_dgt pt 10))]
      show Go _ _ _ _ T93 (mkF m 434 #[iv p0, iv p1, iv p2, iv p3, iv p4, s5, iv c0, iv c1, iv c2, rv va1, rv va2, rv va3, rv ea, s13, iv pt, rv st, s16, iv (Int32.ofNat (pl ++ ([(.int (own_dgt pt 10))] : List Value)).length), iv 2] [])
      refine Go.aload2 436 X93 hx (hb hby at_434) rfl rfl rfl ?_
      refine Go.iload2 438 X93 hx (hb hby at_436) rfl rfl ?_
      refine Go.bipush 440 X93 hx (48 : Int32) (hb hby at_438) (by decide) rfl ?_
      refine Go.iload2 442 X93 hx (hb hby at_440) rfl rfl ?_
      refine Go.bipush 444 X93 hx (10 : Int32) (hb hby at_442) (by decide) rfl ?_
      refine Go.irem 445 X93 hx (hb hby at_444) (by decide) rfl ?_
      obtain ⟨n95, h_n95⟩ : ∃ z, z = (pt - pt / (10 : Int32) * (10 : Int32)) := ⟨_, rfl⟩
      rw [← h_n95]
      show Go _ _ _ _ T93 (mkF m 445 #[iv p0, iv p1, iv p2, iv p3, iv p4, s5, iv c0, iv c1, iv c2, rv va1, rv va2, rv va3, rv ea, s13, iv pt, rv st, s16, iv (Int32.ofNat (pl ++ ([(.int (own_dgt pt 10))] : List Value)).length), iv 2] [(.int n95), (.int 48), (.int (Int32.ofNat (pl ++ ([(.int (own_dgt pt 10))] : List Value)).length)), (.ref ea)])
      have e_n95 : n95.toInt = pt.toInt % 10 := by rw [h_n95]; exact (x_irem 10 (by decide)).1 (by omega)
      refine Go.iadd 446 X93 hx (hb hby at_445) rfl ?_
      refine Go.i2c 447 X93 hx (hb hby at_446) rfl ?_
      rw [(own_ld (v := n95) 1 hp (by omega) : (((48 : Int32) + n95).toUInt32.toUInt16.toUInt32.toInt32) = own_dgt pt 1)]
      show Go _ _ _ _ T93 (mkF m 447 #[iv p0, iv p1, iv p2, iv p3, iv p4, s5, iv c0, iv c1, iv c2, rv va1, rv va2, rv va3, rv ea, s13, iv pt, rv st, s16, iv (Int32.ofNat (pl ++ ([(.int (own_dgt pt 10))] : List Value)).length), iv 2] [(.int (own_dgt pt 1)), (.int (Int32.ofNat (pl ++ ([(.int (own_dgt pt 10))] : List Value)).length)), (.ref ea)])
      have Vp96 : Arv Z h93 ea k40 .char (11 : Int32) (own_row (pl ++ ([(.int (own_dgt pt 10))] : List Value)) 1 []) (.int 0) := own_row_inC 1 Vx92
      obtain ⟨cl97, Ar97, q97, S97, M97, H97, G97⟩ := id Vp96
      have hin97 : ¬ ((Int32.ofNat (pl ++ ([(.int (own_dgt pt 10))] : List Value)).length) < 0 ∨ cl97.slots.size ≤ (Int32.ofNat (pl ++ ([(.int (own_dgt pt 10))] : List Value)).length).toNatClampNeg) := inb_of S97 ⟨own_ofnn (by omega), own_oflt (j := 11) (by omega) (by omega)⟩
      obtain ⟨T97, h97, X97, e97, W97, st97⟩ := stC X93 hx hZj72 e93 Ar97 (j := (Int32.ofNat (pl ++ ([(.int (own_dgt pt 10))] : List Value)).length)) hin97 (g := (mkF m 447 #[iv p0, iv p1, iv p2, iv p3, iv p4, s5, iv c0, iv c1, iv c2, rv va1, rv va2, rv va3, rv ea, s13, iv pt, rv st, s16, iv (Int32.ofNat (pl ++ ([(.int (own_dgt pt 10))] : List Value)).length), iv 2] [(.int (own_dgt pt 1)), (.int (Int32.ofNat (pl ++ ([(.int (own_dgt pt 10))] : List Value)).length)), (.ref ea)])) rfl rfl (hb hby at_447)
      have C98 : CHr Z own_EL s.vm h0 vmj72 h97 := C94.trans (CHr.wr W97 (Safe.arv hZj72.alike Vp96 (by decide)) C94.1)
      have N97 := Fr.snoc X97 N93 ge_ea
      have V97 : Arv Z h97 ea k40 .char (11 : Int32) ((own_row (pl ++ ([(.int (own_dgt pt 10))] : List Value)) 1 []).set ((pl ++ ([(.int (own_dgt pt 10))] : List Value)).length + 0) (.int (nar .char (own_dgt pt 1)))) (.int 0) := Arv.set Ar97 q97 S97 M97 H97 G97 (fits_nar_char _) W97 ((pl ++ ([(.int (own_dgt pt 10))] : List Value)).length + 0) (own_ofn (by omega)) (by rw [own_row_len]; omega)
      refine Go.by st97 ?_
      show Go _ _ _ _ T97 (mkF m 448 #[iv p0, iv p1, iv p2, iv p3, iv p4, s5, iv c0, iv c1, iv c2, rv va1, rv va2, rv va3, rv ea, s13, iv pt, rv st, s16, iv (Int32.ofNat (pl ++ ([(.int (own_dgt pt 10))] : List Value)).length), iv 2] [])
      have Vx96 : Arv Z h97 ea k40 .char (11 : Int32) (pl ++ ([(.int (own_dgt pt 10)), (.int (own_dgt pt 1))] : List Value)) (.int 0) := by have v_ := V97; rw [own_row_set, own_row_snoc, own_ncb (own_dgt_b pt 1).1 (own_dgt_b pt 1).2] at v_; exact v_
      have hX96 : (pl ++ ([(.int (own_dgt pt 10)), (.int (own_dgt pt 1))] : List Value)).length = pl.length + 2 := by rw [List.length_append]; rfl
      refine Go.iinc 451 X97 hx (1 : Int32) (L' := #[iv p0, iv p1, iv p2, iv p3, iv p4, s5, iv c0, iv c1, iv c2, rv va1, rv va2, rv va3, rv ea, s13, iv pt, rv st, s16, iv ((Int32.ofNat (pl ++ ([(.int (own_dgt pt 10))] : List Value)).length) + (1 : Int32)), iv 2]) (hb hby at_448) (by decide) rfl rfl rfl ?_
      rw [show Int32.ofNat (pl ++ ([(.int (own_dgt pt 10))] : List Value)).length + (1 : Int32) = Int32.ofNat (pl ++ ([(.int (own_dgt pt 10)), (.int (own_dgt pt 1))] : List Value)).length from own_inc ([(.int (own_dgt pt 10))] : List Value) (.int (own_dgt pt 1))]
      show Go _ _ _ _ T97 (mkF m 451 #[iv p0, iv p1, iv p2, iv p3, iv p4, s5, iv c0, iv c1, iv c2, rv va1, rv va2, rv va3, rv ea, s13, iv pt, rv st, s16, iv (Int32.ofNat (pl ++ ([(.int (own_dgt pt 10)), (.int (own_dgt pt 1))] : List Value)).length), iv 2] [])
      have F99 : Keep H72 h93 [ea] := (Keep.refl H72 [ea]).wr W93 (Or.inl (List.mem_of_getElem? (i := 0) rfl))
      have F100 : Keep H72 h97 [ea] := F99.wr W97 (Or.inl (List.mem_of_getElem? (i := 0) rfl))
      have F101 : Exa Z h97 st "java/lang/String" := Fj72_0.keep F100
      have F102 : Fld Z h97 st "java/lang/String" "coder" "B" (.int 0) := Fj72_1.keep F100 (ninS Fj72_6 nin0)
      have F103 : Fld Z h97 st "java/lang/String" "value" "[B" (.ref sv) := Fj72_2.keep F100 (ninS Fj72_6 nin0)
      have F104 : Arv Z h97 sv ksv .byte (Int32.ofNat (sl ++ own_dg pt).length) (sl ++ own_dg pt) (.int 0) := Fj72_3.keep F100 (ninS Fj72_5 nin0)
      have hY : (sl ++ ([(.int (own_dgt pt 10)), (.int (own_dgt pt 1))] : List Value)).length = (pl ++ ([(.int (own_dgt pt 10)), (.int (own_dgt pt 1))] : List Value)).length := by rw [List.length_append, List.length_append, hls]
      have Vd : Arv Z h97 sv ksv .byte (Int32.ofNat (pl ++ ([(.int (own_dgt pt 10)), (.int (own_dgt pt 1))] : List Value)).length) (sl ++ ([(.int (own_dgt pt 10)), (.int (own_dgt pt 1))] : List Value)) (.int 0) := by have v_ := F104; rw [hd, hY] at v_; exact v_
      have F105 : n0 ≤ h93.size := Nat.le_trans Zj72 (Nat.le_of_eq (Wr.size W93).symm)
      have F106 : n0 ≤ h97.size := Nat.le_trans F105 (Nat.le_of_eq (Wr.size W97).symm)
      have F107 : Old Z n0 h93 := Oj72.wr W93 ge_ea
      have F108 : Old Z n0 h97 := F107.wr W97 ge_ea
      have F109 : nk72 ≤ h93.size := Nat.le_trans hkj72 (Nat.le_of_eq (Wr.size W93).symm)
      have F110 : nk72 ≤ h97.size := Nat.le_trans F109 (Nat.le_of_eq (Wr.size W97).symm)
      exact J59 _ _ _ _ _ st sv ksv (sl ++ ([(.int (own_dgt pt 10)), (.int (own_dgt pt 1))] : List Value)) (pl ++ ([(.int (own_dgt pt 10)), (.int (own_dgt pt 1))] : List Value)) ((pl ++ ([(.int (own_dgt pt 10)), (.int (own_dgt pt 1))] : List Value)).length) s5 s13 (iv pt) s16 (iv 2) (X97.more (by decide) (by decide)) e97 N97 F106 F108 C98 F110 hSj72 hZj72 hownj72 F101 F102 F103 Vd Vx96 (by rw [hX96]; exact own_says_app hsay0 hls rfl (own_sC (own_pd pt 10) (own_sC (own_pd pt 1) own_s0))) (by rw [hX96]; omega)
    · have hd := own_dg_3 hs
      have hX : (pl ++ ([] : List Value)).length = pl.length + 0 := by rw [List.length_append]; rfl
      refine Go.iload2 281 X72 hx (hb hby at_279) rfl rfl ?_
      refine Go.sipush 284 X72 hx (10000 : Int32) (hb hby at_281) (by decide) rfl ?_
      refine Go.icmpY 291 X72 hx (hb hby at_284) (XT.ii_lt_t (u_lt32 (by omega))) (by decide) (by decide) ?_
      refine Go.iload2 293 X72 hx (hb hby at_291) rfl rfl ?_
      refine Go.sipush 296 X72 hx (1000 : Int32) (hb hby at_293) (by decide) rfl ?_
      refine Go.icmpY 303 X72 hx (hb hby at_296) (XT.ii_lt_t (u_lt32 (by omega))) (by decide) (by decide) ?_
      refine Go.iload2 305 X72 hx (hb hby at_303) rfl rfl ?_
      refine Go.bipush 307 X72 hx (100 : Int32) (hb hby at_305) (by decide) rfl ?_
      refine Go.icmpN 310 X72 hx (hb hby at_307) (XT.ii_lt_f (u_nlt32 (by omega))) rfl ?_
      refine Go.iconst 311 X72 hx (3 : Int32) (hb hby at_310) (by decide) rfl ?_
      refine Go.goto 326 X72 hx (hb hby at_311) (by decide) (by decide) ?_
      refine Go.istore2 328 X72 hx (L' := #[iv p0, iv p1, iv p2, iv p3, iv p4, s5, iv c0, iv c1, iv c2, rv va1, rv va2, rv va3, rv ea, s13, iv pt, rv st, s16, iv (Int32.ofNat (pl ++ ([] : List Value)).length), iv 3]) (hb hby at_326) rfl rfl ?_
      refine Go.iload2 330 X72 hx (hb hby at_328) rfl rfl ?_
      refine Go.iconst 331 X72 hx (5 : Int32) (hb hby at_330) (by decide) rfl ?_
      refine Go.icmpY 355 X72 hx (hb hby at_331) (XT.ii_lt_t (by decide)) (by decide) (by decide) ?_
      refine Go.iload2 357 X72 hx (hb hby at_355) rfl rfl ?_
      refine Go.iconst 358 X72 hx (4 : Int32) (hb hby at_357) (by decide) rfl ?_
      refine Go.icmpY 382 X72 hx (hb hby at_358) (XT.ii_lt_t (by decide)) (by decide) (by decide) ?_
      refine Go.iload2 384 X72 hx (hb hby at_382) rfl rfl ?_
      refine Go.iconst 385 X72 hx (3 : Int32) (hb hby at_384) (by decide) rfl ?_
      refine Go.icmpN 388 X72 hx (hb hby at_385) (XT.ii_lt_f (by decide)) rfl ?_
      refine Go.aload2 390 X72 hx (hb hby at_388) rfl rfl rfl ?_
      refine Go.iload2 392 X72 hx (hb hby at_390) rfl rfl ?_
      refine Go.bipush 394 X72 hx (48 : Int32) (hb hby at_392) (by decide) rfl ?_
      refine Go.iload2 396 X72 hx (hb hby at_394) rfl rfl ?_
      refine Go.bipush 398 X72 hx (100 : Int32) (hb hby at_396) (by decide) rfl ?_
      refine Go.idiv 399 X72 hx (hb hby at_398) (by decide) rfl ?_
      obtain ⟨n111, h_n111⟩ : ∃ z, z = (pt / (100 : Int32)) := ⟨_, rfl⟩
      rw [← h_n111]
      show Go _ _ _ _ T72 (mkF m 399 #[iv p0, iv p1, iv p2, iv p3, iv p4, s5, iv c0, iv c1, iv c2, rv va1, rv va2, rv va3, rv ea, s13, iv pt, rv st, s16, iv (Int32.ofNat (pl ++ ([] : List Value)).length), iv 3] [(.int n111), (.int 48), (.int (Int32.ofNat (pl ++ ([] : List Value)).length)), (.ref ea)])
      have e_n111 : n111.toInt = pt.toInt / 100 := by rw [h_n111]; exact (x_idiv 100 (by decide) (by decide)).1 (by omega)
      refine Go.bipush 401 X72 hx (10 : Int32) (hb hby at_399) (by decide) rfl ?_
      refine Go.irem 402 X72 hx (hb hby at_401) (by decide) rfl ?_
      obtain ⟨n112, h_n112⟩ : ∃ z, z = (n111 - n111 / (10 : Int32) * (10 : Int32)) := ⟨_, rfl⟩
      rw [← h_n112]
      show Go _ _ _ _ T72 (mkF m 402 #[iv p0, iv p1, iv p2, iv p3, iv p4, s5, iv c0, iv c1, iv c2, rv va1, rv va2, rv va3, rv ea, s13, iv pt, rv st, s16, iv (Int32.ofNat (pl ++ ([] : List Value)).length), iv 3] [(.int n112), (.int 48), (.int (Int32.ofNat (pl ++ ([] : List Value)).length)), (.ref ea)])
      have e_n112 : n112.toInt = n111.toInt % 10 := by rw [h_n112]; exact (x_irem 10 (by decide)).1 (by omega)
      refine Go.iadd 403 X72 hx (hb hby at_402) rfl ?_
      refine Go.i2c 404 X72 hx (hb hby at_403) rfl ?_
      rw [(own_ld (v := n112) 100 hp (by omega) : (((48 : Int32) + n112).toUInt32.toUInt16.toUInt32.toInt32) = own_dgt pt 100)]
      show Go _ _ _ _ T72 (mkF m 404 #[iv p0, iv p1, iv p2, iv p3, iv p4, s5, iv c0, iv c1, iv c2, rv va1, rv va2, rv va3, rv ea, s13, iv pt, rv st, s16, iv (Int32.ofNat (pl ++ ([] : List Value)).length), iv 3] [(.int (own_dgt pt 100)), (.int (Int32.ofNat (pl ++ ([] : List Value)).length)), (.ref ea)])
      have Vp113 : Arv Z H72 ea k40 .char (11 : Int32) (own_row (pl ++ ([] : List Value)) 1 []) (.int 0) := own_row_inC 1 Fj72_4
      obtain ⟨cl114, Ar114, q114, S114, M114, H114, G114⟩ := id Vp113
      have hin114 : ¬ ((Int32.ofNat (pl ++ ([] : List Value)).length) < 0 ∨ cl114.slots.size ≤ (Int32.ofNat (pl ++ ([] : List Value)).length).toNatClampNeg) := inb_of S114 ⟨own_ofnn (by omega), own_oflt (j := 11) (by omega) (by omega)⟩
      obtain ⟨T114, h114, X114, e114, W114, st114⟩ := stC X72 hx hZj72 e72 Ar114 (j := (Int32.ofNat (pl ++ ([] : List Value)).length)) hin114 (g := (mkF m 404 #[iv p0, iv p1, iv p2, iv p3, iv p4, s5, iv c0, iv c1, iv c2, rv va1, rv va2, rv va3, rv ea, s13, iv pt, rv st, s16, iv (Int32.ofNat (pl ++ ([] : List Value)).length), iv 3] [(.int (own_dgt pt 100)), (.int (Int32.ofNat (pl ++ ([] : List Value)).length)), (.ref ea)])) rfl rfl (hb hby at_404)
      have C115 : CHr Z own_EL s.vm h0 vmj72 h114 := C72.trans (CHr.wr W114 (Safe.arv hZj72.alike Vp113 (by decide)) C72.1)
      have N114 := Fr.snoc X114 N72 ge_ea
      have V114 : Arv Z h114 ea k40 .char (11 : Int32) ((own_row (pl ++ ([] : List Value)) 1 []).set ((pl ++ ([] : List Value)).length + 0) (.int (nar .char (own_dgt pt 100)))) (.int 0) := Arv.set Ar114 q114 S114 M114 H114 G114 (fits_nar_char _) W114 ((pl ++ ([] : List Value)).length + 0) (own_ofn (by omega)) (by rw [own_row_len]; omega)
      refine Go.by st114 ?_
      show Go _ _ _ _ T114 (mkF m 405 #[iv p0, iv p1, iv p2, iv p3, iv p4, s5, iv c0, iv c1, iv c2, rv va1, rv va2, rv va3, rv ea, s13, iv pt, rv st, s16, iv (Int32.ofNat (pl ++ ([] : List Value)).length), iv 3] [])
      have Vx113 : Arv Z h114 ea k40 .char (11 : Int32) (pl ++ ([(.int (own_dgt pt 100))] : List Value)) (.int 0) := by have v_ := V114; rw [own_row_set, own_row_snoc, own_ncb (own_dgt_b pt 100).1 (own_dgt_b pt 100).2] at v_; exact v_
      have hX113 : (pl ++ ([(.int (own_dgt pt 100))] : List Value)).length = pl.length + 1 := by rw [List.length_append]; rfl
      refine Go.iinc 408 X114 hx (1 : Int32) (L' := #[iv p0, iv p1, iv p2, iv p3, iv p4, s5, iv c0, iv c1, iv c2, rv va1, rv va2, rv va3, rv ea, s13, iv pt, rv st, s16, iv ((Int32.ofNat (pl ++ ([] : List Value)).length) + (1 : Int32)), iv 3]) (hb hby at_405) (by decide) rfl rfl rfl ?_
      rw [show Int32.ofNat (pl ++ ([] : List Value)).length + (1 : Int32) = Int32.ofNat (pl ++ ([(.int (own_dgt pt 100))] : List Value)).length from own_inc ([] : List Value) (.int (own_dgt pt 100))]
      show Go _ _ _ _ T114 (mkF m 408 #[iv p0, iv p1, iv p2, iv p3, iv p4, s5, iv c0, iv c1, iv c2, rv va1, rv va2, rv va3, rv ea, s13, iv pt, rv st, s16, iv (Int32.ofNat (pl ++ ([(.int (own_dgt pt 100))] : List Value)).length), iv 3] [])
      refine Go.iload2 410 X114 hx (hb hby at_408) rfl rfl ?_
      refine Go.iconst 411 X114 hx (2 : Int32) (hb hby at_410) (by decide) rfl ?_
      refine Go.icmpN 414 X114 hx (hb hby at_411) (XT.ii_lt_f (by decide)) rfl ?_
      refine Go.aload2 416 X114 hx (hb hby at_414) rfl rfl rfl ?_
      refine Go.iload2 418 X114 hx (hb hby at_416) rfl rfl ?_
      refine Go.bipush 420 X114 hx (48 : Int32) (hb hby at_418) (by decide) rfl ?_
      refine Go.iload2 422 X114 hx (hb hby at_420) rfl rfl ?_
      refine Go.bipush 424 X114 hx (10 : Int32) (hb hby at_422) (by decide) rfl ?_
      refine Go.idiv 425 X114 hx (hb hby at_424) (by decide) rfl ?_
      obtain ⟨n116, h_n116⟩ : ∃ z, z = (pt / (10 : Int32)) := ⟨_, rfl⟩
      rw [← h_n116]
      show Go _ _ _ _ T114 (mkF m 425 #[iv p0, iv p1, iv p2, iv p3, iv p4, s5, iv c0, iv c1, iv c2, rv va1, rv va2, rv va3, rv ea, s13, iv pt, rv st, s16, iv (Int32.ofNat (pl ++ ([(.int (own_dgt pt 100))] : List Value)).length), iv 3] [(.int n116), (.int 48), (.int (Int32.ofNat (pl ++ ([(.int (own_dgt pt 100))] : List Value)).length)), (.ref ea)])
      have e_n116 : n116.toInt = pt.toInt / 10 := by rw [h_n116]; exact (x_idiv 10 (by decide) (by decide)).1 (by omega)
      refine Go.bipush 427 X114 hx (10 : Int32) (hb hby at_425) (by decide) rfl ?_
      refine Go.irem 428 X114 hx (hb hby at_427) (by decide) rfl ?_
      obtain ⟨n117, h_n117⟩ : ∃ z, z = (n116 - n116 / (10 : Int32) * (10 : Int32)) := ⟨_, rfl⟩
      rw [← h_n117]
      show Go _ _ _ _ T114 (mkF m 428 #[iv p0, iv p1, iv p2, iv p3, iv p4, s5, iv c0, iv c1, iv c2, rv va1, rv va2, rv va3, rv ea, s13, iv pt, rv st, s16, iv (Int32.ofNat (pl ++ ([(.int (own_dgt pt 100))] : List Value)).length), iv 3] [(.int n117), (.int 48), (.int (Int32.ofNat (pl ++ ([(.int (own_dgt pt 100))] : List Value)).length)), (.ref ea)])
      have e_n117 : n117.toInt = n116.toInt % 10 := by rw [h_n117]; exact (x_irem 10 (by decide)).1 (by omega)
      refine Go.iadd 429 X114 hx (hb hby at_428) rfl ?_
      refine Go.i2c 430 X114 hx (hb hby at_429) rfl ?_
      rw [(own_ld (v := n117) 10 hp (by omega) : (((48 : Int32) + n117).toUInt32.toUInt16.toUInt32.toInt32) = own_dgt pt 10)]
      show Go _ _ _ _ T114 (mkF m 430 #[iv p0, iv p1, iv p2, iv p3, iv p4, s5, iv c0, iv c1, iv c2, rv va1, rv va2, rv va3, rv ea, s13, iv pt, rv st, s16, iv (Int32.ofNat (pl ++ ([(.int (own_dgt pt 100))] : List Value)).length), iv 3] [(.int (own_dgt pt 10)), (.int (Int32.ofNat (pl ++ ([(.int (own_dgt pt 100))] : List Value)).length)), (.ref ea)])
      have Vp118 : Arv Z h114 ea k40 .char (11 : Int32) (own_row (pl ++ ([(.int (own_dgt pt 100))] : List Value)) 1 []) (.int 0) := own_row_inC 1 Vx113
      obtain ⟨cl119, Ar119, q119, S119, M119, H119, G119⟩ := id Vp118
      have hin119 : ¬ ((Int32.ofNat (pl ++ ([(.int (own_dgt pt 100))] : List Value)).length) < 0 ∨ cl119.slots.size ≤ (Int32.ofNat (pl ++ ([(.int (own_dgt pt 100))] : List Value)).length).toNatClampNeg) := inb_of S119 ⟨own_ofnn (by omega), own_oflt (j := 11) (by omega) (by omega)⟩
      obtain ⟨T119, h119, X119, e119, W119, st119⟩ := stC X114 hx hZj72 e114 Ar119 (j := (Int32.ofNat (pl ++ ([(.int (own_dgt pt 100))] : List Value)).length)) hin119 (g := (mkF m 430 #[iv p0, iv p1, iv p2, iv p3, iv p4, s5, iv c0, iv c1, iv c2, rv va1, rv va2, rv va3, rv ea, s13, iv pt, rv st, s16, iv (Int32.ofNat (pl ++ ([(.int (own_dgt pt 100))] : List Value)).length), iv 3] [(.int (own_dgt pt 10)), (.int (Int32.ofNat (pl ++ ([(.int (own_dgt pt 100))] : List Value)).length)), (.ref ea)])) rfl rfl (hb hby at_430)
      have C120 : CHr Z own_EL s.vm h0 vmj72 h119 := C115.trans (CHr.wr W119 (Safe.arv hZj72.alike Vp118 (by decide)) C115.1)
      have N119 := Fr.snoc X119 N114 ge_ea
      have V119 : Arv Z h119 ea k40 .char (11 : Int32) ((own_row (pl ++ ([(.int (own_dgt pt 100))] : List Value)) 1 []).set ((pl ++ ([(.int (own_dgt pt 100))] : List Value)).length + 0) (.int (nar .char (own_dgt pt 10)))) (.int 0) := Arv.set Ar119 q119 S119 M119 H119 G119 (fits_nar_char _) W119 ((pl ++ ([(.int (own_dgt pt 100))] : List Value)).length + 0) (own_ofn (by omega)) (by rw [own_row_len]; omega)
      refine Go.by st119 ?_
      show Go _ _ _ _ T119 (mkF m 431 #[iv p0, iv p1, iv p2, iv p3, iv p4, s5, iv c0, iv c1, iv c2, rv va1, rv va2, rv va3, rv ea, s13, iv pt, rv st, s16, iv (Int32.ofNat (pl ++ ([(.int (own_dgt pt 100))] : List Value)).length), iv 3] [])
      have Vx118 : Arv Z h119 ea k40 .char (11 : Int32) (pl ++ ([(.int (own_dgt pt 100)), (.int (own_dgt pt 10))] : List Value)) (.int 0) := by have v_ := V119; rw [own_row_set, own_row_snoc, own_ncb (own_dgt_b pt 10).1 (own_dgt_b pt 10).2] at v_; exact v_
      have hX118 : (pl ++ ([(.int (own_dgt pt 100)), (.int (own_dgt pt 10))] : List Value)).length = pl.length + 2 := by rw [List.length_append]; rfl
      refine Go.iinc 434 X119 hx (1 : Int32) (L' := #[iv p0, iv p1, iv p2, iv p3, iv p4, s5, iv c0, iv c1, iv c2, rv va1, rv va2, rv va3, rv ea, s13, iv pt, rv st, s16, iv ((Int32.ofNat (pl ++ ([(.int (own_dgt pt 100))] : List Value)).length) + (1 : Int32)), iv 3]) (hb hby at_431) (by decide) rfl rfl rfl ?_
      rw [show Int32.ofNat (pl ++ ([(.int (own_dgt pt 100))] : List Value)).length + (1 : Int32) = Int32.ofNat (pl ++ ([(.int (own_dgt pt 100)), (.int (own_dgt pt 10))] : List Value)).length from own_inc ([(.int (own_dgt pt 100))] : List Value) (.int (own_dgt pt 10))]
      show Go _ _ _ _ T119 (mkF m 434 #[iv p0, iv p1, iv p2, iv p3, iv p4, s5, iv c0, iv c1, iv c2, rv va1, rv va2, rv va3, rv ea, s13, iv pt, rv st, s16, iv (Int32.ofNat (pl ++ ([(.int (own_dgt pt 100)), (.int (own_dgt pt 10))] : List Value)).length), iv 3] [])
      refine Go.aload2 436 X119 hx (hb hby at_434) rfl rfl rfl ?_
      refine Go.iload2 438 X119 hx (hb hby at_436) rfl rfl ?_
      refine Go.bipush 440 X119 hx (48 : Int32) (hb hby at_438) (by decide) rfl ?_
      refine Go.iload2 442 X119 hx (hb hby at_440) rfl rfl ?_
      refine Go.bipush 444 X119 hx (10 : Int32) (hb hby at_442) (by decide) rfl ?_
      refine Go.irem 445 X119 hx (hb hby at_444) (by decide) rfl ?_
      obtain ⟨n121, h_n121⟩ : ∃ z, z = (pt - pt / (10 : Int32) * (10 : Int32)) := ⟨_, rfl⟩
      rw [← h_n121]
      show Go _ _ _ _ T119 (mkF m 445 #[iv p0, iv p1, iv p2, iv p3, iv p4, s5, iv c0, iv c1, iv c2, rv va1, rv va2, rv va3, rv ea, s13, iv pt, rv st, s16, iv (Int32.ofNat (pl ++ ([(.int (own_dgt pt 100)), (.int (own_dgt pt 10))] : List Value)).length), iv 3] [(.int n121), (.int 48), (.int (Int32.ofNat (pl ++ ([(.int (own_dgt pt 100)), (.int (own_dgt pt 10))] : List Value)).length)), (.ref ea)])
      have e_n121 : n121.toInt = pt.toInt % 10 := by rw [h_n121]; exact (x_irem 10 (by decide)).1 (by omega)
      refine Go.iadd 446 X119 hx (hb hby at_445) rfl ?_
      refine Go.i2c 447 X119 hx (hb hby at_446) rfl ?_
      rw [(own_ld (v := n121) 1 hp (by omega) : (((48 : Int32) + n121).toUInt32.toUInt16.toUInt32.toInt32) = own_dgt pt 1)]
      show Go _ _ _ _ T119 (mkF m 447 #[iv p0, iv p1, iv p2, iv p3, iv p4, s5, iv c0, iv c1, iv c2, rv va1, rv va2, rv va3, rv ea, s13, iv pt, rv st, s16, iv (Int32.ofNat (pl ++ ([(.int (own_dgt pt 100)), (.int (own_dgt pt 10))] : List Value)).length), iv 3] [(.int (own_dgt pt 1)), (.int (Int32.ofNat (pl ++ ([(.int (own_dgt pt 100)), (.int (own_dgt pt 10))] : List Value)).length)), (.ref ea)])
      have Vp122 : Arv Z h119 ea k40 .char (11 : Int32) (own_row (pl ++ ([(.int (own_dgt pt 100)), (.int (own_dgt pt 10))] : List Value)) 1 []) (.int 0) := own_row_inC 1 Vx118
      obtain ⟨cl123, Ar123, q123, S123, M123, H123, G123⟩ := id Vp122
      have hin123 : ¬ ((Int32.ofNat (pl ++ ([(.int (own_dgt pt 100)), (.int (own_dgt pt 10))] : List Value)).length) < 0 ∨ cl123.slots.size ≤ (Int32.ofNat (pl ++ ([(.int (own_dgt pt 100)), (.int (own_dgt pt 10))] : List Value)).length).toNatClampNeg) := inb_of S123 ⟨own_ofnn (by omega), own_oflt (j := 11) (by omega) (by omega)⟩
      obtain ⟨T123, h123, X123, e123, W123, st123⟩ := stC X119 hx hZj72 e119 Ar123 (j := (Int32.ofNat (pl ++ ([(.int (own_dgt pt 100)), (.int (own_dgt pt 10))] : List Value)).length)) hin123 (g := (mkF m 447 #[iv p0, iv p1, iv p2, iv p3, iv p4, s5, iv c0, iv c1, iv c2, rv va1, rv va2, rv va3, rv ea, s13, iv pt, rv st, s16, iv (Int32.ofNat (pl ++ ([(.int (own_dgt pt 100)), (.int (own_dgt pt 10))] : List Value)).length), iv 3] [(.int (own_dgt pt 1)), (.int (Int32.ofNat (pl ++ ([(.int (own_dgt pt 100)), (.int (own_dgt pt 10))] : List Value)).length)), (.ref ea)])) rfl rfl (hb hby at_447)
      have C124 : CHr Z own_EL s.vm h0 vmj72 h123 := C120.trans (CHr.wr W123 (Safe.arv hZj72.alike Vp122 (by decide)) C120.1)
      have N123 := Fr.snoc X123 N119 ge_ea
      have V123 : Arv Z h123 ea k40 .char (11 : Int32) ((own_row (pl ++ ([(.int (own_dgt pt 100)), (.int (own_dgt pt 10))] : List Value)) 1 []).set ((pl ++ ([(.int (own_dgt pt 100)), (.int (own_dgt pt 10))] : List Value)).length + 0) (.int (nar .char (own_dgt pt 1)))) (.int 0) := Arv.set Ar123 q123 S123 M123 H123 G123 (fits_nar_char _) W123 ((pl ++ ([(.int (own_dgt pt 100)), (.int (own_dgt pt 10))] : List Value)).length + 0) (own_ofn (by omega)) (by rw [own_row_len]; omega)
      refine Go.by st123 ?_
      show Go _ _ _ _ T123 (mkF m 448 #[iv p0, iv p1, iv p2, iv p3, iv p4, s5, iv c0, iv c1, iv c2, rv va1, rv va2, rv va3, rv ea, s13, iv pt, rv st, s16, iv (Int32.ofNat (pl ++ ([(.int (own_dgt pt 100)), (.int (own_dgt pt 10))] : List Value)).length), iv 3] [])
      have Vx122 : Arv Z h123 ea k40 .char (11 : Int32) (pl ++ ([(.int (own_dgt pt 100)), (.int (own_dgt pt 10)), (.int (own_dgt pt 1))] : List Value)) (.int 0) := by have v_ := V123; rw [own_row_set, own_row_snoc, own_ncb (own_dgt_b pt 1).1 (own_dgt_b pt 1).2] at v_; exact v_
      have hX122 : (pl ++ ([(.int (own_dgt pt 100)), (.int (own_dgt pt 10)), (.int (own_dgt pt 1))] : List Value)).length = pl.length + 3 := by rw [List.length_append]; rfl
      refine Go.iinc 451 X123 hx (1 : Int32) (L' := #[iv p0, iv p1, iv p2, iv p3, iv p4, s5, iv c0, iv c1, iv c2, rv va1, rv va2, rv va3, rv ea, s13, iv pt, rv st, s16, iv ((Int32.ofNat (pl ++ ([(.int (own_dgt pt 100)), (.int (own_dgt pt 10))] : List Value)).length) + (1 : Int32)), iv 3]) (hb hby at_448) (by decide) rfl rfl rfl ?_
      rw [show Int32.ofNat (pl ++ ([(.int (own_dgt pt 100)), (.int (own_dgt pt 10))] : List Value)).length + (1 : Int32) = Int32.ofNat (pl ++ ([(.int (own_dgt pt 100)), (.int (own_dgt pt 10)), (.int (own_dgt pt 1))] : List Value)).length from own_inc ([(.int (own_dgt pt 100)), (.int (own_dgt pt 10))] : List Value) (.int (own_dgt pt 1))]
      show Go _ _ _ _ T123 (mkF m 451 #[iv p0, iv p1, iv p2, iv p3, iv p4, s5, iv c0, iv c1, iv c2, rv va1, rv va2, rv va3, rv ea, s13, iv pt, rv st, s16, iv (Int32.ofNat (pl ++ ([(.int (own_dgt pt 100)), (.int (own_dgt pt 10)), (.int (own_dgt pt 1))] : List Value)).length), iv 3] [])
      have F125 : Keep H72 h114 [ea] := (Keep.refl H72 [ea]).wr W114 (Or.inl (List.mem_of_getElem? (i := 0) rfl))
      have F126 : Keep H72 h119 [ea] := F125.wr W119 (Or.inl (List.mem_of_getElem? (i := 0) rfl))
      have F127 : Keep H72 h123 [ea] := F126.wr W123 (Or.inl (List.mem_of_getElem? (i := 0) rfl))
      have F128 : Exa Z h123 st "java/lang/String" := Fj72_0.keep F127
      have F129 : Fld Z h123 st "java/lang/String" "coder" "B" (.int 0) := Fj72_1.keep F127 (ninS Fj72_6 nin0)
      have F130 : Fld Z h123 st "java/lang/String" "value" "[B" (.ref sv) := Fj72_2.keep F127 (ninS Fj72_6 nin0)
      have F131 : Arv Z h123 sv ksv .byte (Int32.ofNat (sl ++ own_dg pt).length) (sl ++ own_dg pt) (.int 0) := Fj72_3.keep F127 (ninS Fj72_5 nin0)
      have hY : (sl ++ ([(.int (own_dgt pt 100)), (.int (own_dgt pt 10)), (.int (own_dgt pt 1))] : List Value)).length = (pl ++ ([(.int (own_dgt pt 100)), (.int (own_dgt pt 10)), (.int (own_dgt pt 1))] : List Value)).length := by rw [List.length_append, List.length_append, hls]
      have Vd : Arv Z h123 sv ksv .byte (Int32.ofNat (pl ++ ([(.int (own_dgt pt 100)), (.int (own_dgt pt 10)), (.int (own_dgt pt 1))] : List Value)).length) (sl ++ ([(.int (own_dgt pt 100)), (.int (own_dgt pt 10)), (.int (own_dgt pt 1))] : List Value)) (.int 0) := by have v_ := F131; rw [hd, hY] at v_; exact v_
      have F132 : n0 ≤ h114.size := Nat.le_trans Zj72 (Nat.le_of_eq (Wr.size W114).symm)
      have F133 : n0 ≤ h119.size := Nat.le_trans F132 (Nat.le_of_eq (Wr.size W119).symm)
      have F134 : n0 ≤ h123.size := Nat.le_trans F133 (Nat.le_of_eq (Wr.size W123).symm)
      have F135 : Old Z n0 h114 := Oj72.wr W114 ge_ea
      have F136 : Old Z n0 h119 := F135.wr W119 ge_ea
      have F137 : Old Z n0 h123 := F136.wr W123 ge_ea
      have F138 : nk72 ≤ h114.size := Nat.le_trans hkj72 (Nat.le_of_eq (Wr.size W114).symm)
      have F139 : nk72 ≤ h119.size := Nat.le_trans F138 (Nat.le_of_eq (Wr.size W119).symm)
      have F140 : nk72 ≤ h123.size := Nat.le_trans F139 (Nat.le_of_eq (Wr.size W123).symm)
      exact J59 _ _ _ _ _ st sv ksv (sl ++ ([(.int (own_dgt pt 100)), (.int (own_dgt pt 10)), (.int (own_dgt pt 1))] : List Value)) (pl ++ ([(.int (own_dgt pt 100)), (.int (own_dgt pt 10)), (.int (own_dgt pt 1))] : List Value)) ((pl ++ ([(.int (own_dgt pt 100)), (.int (own_dgt pt 10)), (.int (own_dgt pt 1))] : List Value)).length) s5 s13 (iv pt) s16 (iv 3) (X123.more (by decide) (by decide)) e123 N123 F134 F137 C124 F140 hSj72 hZj72 hownj72 F128 F129 F130 Vd Vx122 (by rw [hX122]; exact own_says_app hsay0 hls rfl (own_sC (own_pd pt 100) (own_sC (own_pd pt 10) (own_sC (own_pd pt 1) own_s0)))) (by rw [hX122]; omega)
    · have hd := own_dg_4 hs
      have hX : (pl ++ ([] : List Value)).length = pl.length + 0 := by rw [List.length_append]; rfl
      refine Go.iload2 281 X72 hx (hb hby at_279) rfl rfl ?_
      refine Go.sipush 284 X72 hx (10000 : Int32) (hb hby at_281) (by decide) rfl ?_
      refine Go.icmpY 291 X72 hx (hb hby at_284) (XT.ii_lt_t (u_lt32 (by omega))) (by decide) (by decide) ?_
      refine Go.iload2 293 X72 hx (hb hby at_291) rfl rfl ?_
      refine Go.sipush 296 X72 hx (1000 : Int32) (hb hby at_293) (by decide) rfl ?_
      refine Go.icmpN 299 X72 hx (hb hby at_296) (XT.ii_lt_f (u_nlt32 (by omega))) rfl ?_
      refine Go.iconst 300 X72 hx (4 : Int32) (hb hby at_299) (by decide) rfl ?_
      refine Go.goto 326 X72 hx (hb hby at_300) (by decide) (by decide) ?_
      refine Go.istore2 328 X72 hx (L' := #[iv p0, iv p1, iv p2, iv p3, iv p4, s5, iv c0, iv c1, iv c2, rv va1, rv va2, rv va3, rv ea, s13, iv pt, rv st, s16, iv (Int32.ofNat (pl ++ ([] : List Value)).length), iv 4]) (hb hby at_326) rfl rfl ?_
      refine Go.iload2 330 X72 hx (hb hby at_328) rfl rfl ?_
      refine Go.iconst 331 X72 hx (5 : Int32) (hb hby at_330) (by decide) rfl ?_
      refine Go.icmpY 355 X72 hx (hb hby at_331) (XT.ii_lt_t (by decide)) (by decide) (by decide) ?_
      refine Go.iload2 357 X72 hx (hb hby at_355) rfl rfl ?_
      refine Go.iconst 358 X72 hx (4 : Int32) (hb hby at_357) (by decide) rfl ?_
      refine Go.icmpN 361 X72 hx (hb hby at_358) (XT.ii_lt_f (by decide)) rfl ?_
      refine Go.aload2 363 X72 hx (hb hby at_361) rfl rfl rfl ?_
      refine Go.iload2 365 X72 hx (hb hby at_363) rfl rfl ?_
      refine Go.bipush 367 X72 hx (48 : Int32) (hb hby at_365) (by decide) rfl ?_
      refine Go.iload2 369 X72 hx (hb hby at_367) rfl rfl ?_
      refine Go.sipush 372 X72 hx (1000 : Int32) (hb hby at_369) (by decide) rfl ?_
      refine Go.idiv 373 X72 hx (hb hby at_372) (by decide) rfl ?_
      obtain ⟨n141, h_n141⟩ : ∃ z, z = (pt / (1000 : Int32)) := ⟨_, rfl⟩
      rw [← h_n141]
      show Go _ _ _ _ T72 (mkF m 373 #[iv p0, iv p1, iv p2, iv p3, iv p4, s5, iv c0, iv c1, iv c2, rv va1, rv va2, rv va3, rv ea, s13, iv pt, rv st, s16, iv (Int32.ofNat (pl ++ ([] : List Value)).length), iv 4] [(.int n141), (.int 48), (.int (Int32.ofNat (pl ++ ([] : List Value)).length)), (.ref ea)])
      have e_n141 : n141.toInt = pt.toInt / 1000 := by rw [h_n141]; exact (x_idiv 1000 (by decide) (by decide)).1 (by omega)
      refine Go.bipush 375 X72 hx (10 : Int32) (hb hby at_373) (by decide) rfl ?_
      refine Go.irem 376 X72 hx (hb hby at_375) (by decide) rfl ?_
      obtain ⟨n142, h_n142⟩ : ∃ z, z = (n141 - n141 / (10 : Int32) * (10 : Int32)) := ⟨_, rfl⟩
      rw [← h_n142]
      show Go _ _ _ _ T72 (mkF m 376 #[iv p0, iv p1, iv p2, iv p3, iv p4, s5, iv c0, iv c1, iv c2, rv va1, rv va2, rv va3, rv ea, s13, iv pt, rv st, s16, iv (Int32.ofNat (pl ++ ([] : List Value)).length), iv 4] [(.int n142), (.int 48), (.int (Int32.ofNat (pl ++ ([] : List Value)).length)), (.ref ea)])
      have e_n142 : n142.toInt = n141.toInt % 10 := by rw [h_n142]; exact (x_irem 10 (by decide)).1 (by omega)
      refine Go.iadd 377 X72 hx (hb hby at_376) rfl ?_
      refine Go.i2c 378 X72 hx (hb hby at_377) rfl ?_
      rw [(own_ld (v := n142) 1000 hp (by omega) : (((48 : Int32) + n142).toUInt32.toUInt16.toUInt32.toInt32) = own_dgt pt 1000)]
      show Go _ _ _ _ T72 (mkF m 378 #[iv p0, iv p1, iv p2, iv p3, iv p4, s5, iv c0, iv c1, iv c2, rv va1, rv va2, rv va3, rv ea, s13, iv pt, rv st, s16, iv (Int32.ofNat (pl ++ ([] : List Value)).length), iv 4] [(.int (own_dgt pt 1000)), (.int (Int32.ofNat (pl ++ ([] : List Value)).length)), (.ref ea)])
      have Vp143 : Arv Z H72 ea k40 .char (11 : Int32) (own_row (pl ++ ([] : List Value)) 1 []) (.int 0) := own_row_inC 1 Fj72_4
      obtain ⟨cl144, Ar144, q144, S144, M144, H144, G144⟩ := id Vp143
      have hin144 : ¬ ((Int32.ofNat (pl ++ ([] : List Value)).length) < 0 ∨ cl144.slots.size ≤ (Int32.ofNat (pl ++ ([] : List Value)).length).toNatClampNeg) := inb_of S144 ⟨own_ofnn (by omega), own_oflt (j := 11) (by omega) (by omega)⟩
      obtain ⟨T144, h144, X144, e144, W144, st144⟩ := stC X72 hx hZj72 e72 Ar144 (j := (Int32.ofNat (pl ++ ([] : List Value)).length)) hin144 (g := (mkF m 378 #[iv p0, iv p1, iv p2, iv p3, iv p4, s5, iv c0, iv c1, iv c2, rv va1, rv va2, rv va3, rv ea, s13, iv pt, rv st, s16, iv (Int32.ofNat (pl ++ ([] : List Value)).length), iv 4] [(.int (own_dgt pt 1000)), (.int (Int32.ofNat (pl ++ ([] : List Value)).length)), (.ref ea)])) rfl rfl (hb hby at_378)
      have C145 : CHr Z own_EL s.vm h0 vmj72 h144 := C72.trans (CHr.wr W144 (Safe.arv hZj72.alike Vp143 (by decide)) C72.1)
      have N144 := Fr.snoc X144 N72 ge_ea
      have V144 : Arv Z h144 ea k40 .char (11 : Int32) ((own_row (pl ++ ([] : List Value)) 1 []).set ((pl ++ ([] : List Value)).length + 0) (.int (nar .char (own_dgt pt 1000)))) (.int 0) := Arv.set Ar144 q144 S144 M144 H144 G144 (fits_nar_char _) W144 ((pl ++ ([] : List Value)).length + 0) (own_ofn (by omega)) (by rw [own_row_len]; omega)
      refine Go.by st144 ?_
      show Go _ _ _ _ T144 (mkF m 379 #[iv p0, iv p1, iv p2, iv p3, iv p4, s5, iv c0, iv c1, iv c2, rv va1, rv va2, rv va3, rv ea, s13, iv pt, rv st, s16, iv (Int32.ofNat (pl ++ ([] : List Value)).length), iv 4] [])
      have Vx143 : Arv Z h144 ea k40 .char (11 : Int32) (pl ++ ([(.int (own_dgt pt 1000))] : List Value)) (.int 0) := by have v_ := V144; rw [own_row_set, own_row_snoc, own_ncb (own_dgt_b pt 1000).1 (own_dgt_b pt 1000).2] at v_; exact v_
      have hX143 : (pl ++ ([(.int (own_dgt pt 1000))] : List Value)).length = pl.length + 1 := by rw [List.length_append]; rfl
      refine Go.iinc 382 X144 hx (1 : Int32) (L' := #[iv p0, iv p1, iv p2, iv p3, iv p4, s5, iv c0, iv c1, iv c2, rv va1, rv va2, rv va3, rv ea, s13, iv pt, rv st, s16, iv ((Int32.ofNat (pl ++ ([] : List Value)).length) + (1 : Int32)), iv 4]) (hb hby at_379) (by decide) rfl rfl rfl ?_
      rw [show Int32.ofNat (pl ++ ([] : List Value)).length + (1 : Int32) = Int32.ofNat (pl ++ ([(.int (own_dgt pt 1000))] : List Value)).length from own_inc ([] : List Value) (.int (own_dgt pt 1000))]
      show Go _ _ _ _ T144 (mkF m 382 #[iv p0, iv p1, iv p2, iv p3, iv p4, s5, iv c0, iv c1, iv c2, rv va1, rv va2, rv va3, rv ea, s13, iv pt, rv st, s16, iv (Int32.ofNat (pl ++ ([(.int (own_dgt pt 1000))] : List Value)).length), iv 4] [])
      refine Go.iload2 384 X144 hx (hb hby at_382) rfl rfl ?_
      refine Go.iconst 385 X144 hx (3 : Int32) (hb hby at_384) (by decide) rfl ?_
      refine Go.icmpN 388 X144 hx (hb hby at_385) (XT.ii_lt_f (by decide)) rfl ?_
      refine Go.aload2 390 X144 hx (hb hby at_388) rfl rfl rfl ?_
      refine Go.iload2 392 X144 hx (hb hby at_390) rfl rfl ?_
      refine Go.bipush 394 X144 hx (48 : Int32) (hb hby at_392) (by decide) rfl ?_
      refine Go.iload2 396 X144 hx (hb hby at_394) rfl rfl ?_
      refine Go.bipush 398 X144 hx (100 : Int32) (hb hby at_396) (by decide) rfl ?_
      refine Go.idiv 399 X144 hx (hb hby at_398) (by decide) rfl ?_
      obtain ⟨n146, h_n146⟩ : ∃ z, z = (pt / (100 : Int32)) := ⟨_, rfl⟩
      rw [← h_n146]
      show Go _ _ _ _ T144 (mkF m 399 #[iv p0, iv p1, iv p2, iv p3, iv p4, s5, iv c0, iv c1, iv c2, rv va1, rv va2, rv va3, rv ea, s13, iv pt, rv st, s16, iv (Int32.ofNat (pl ++ ([(.int (own_dgt pt 1000))] : List Value)).length), iv 4] [(.int n146), (.int 48), (.int (Int32.ofNat (pl ++ ([(.int (own_dgt pt 1000))] : List Value)).length)), (.ref ea)])
      have e_n146 : n146.toInt = pt.toInt / 100 := by rw [h_n146]; exact (x_idiv 100 (by decide) (by decide)).1 (by omega)
      refine Go.bipush 401 X144 hx (10 : Int32) (hb hby at_399) (by decide) rfl ?_
      refine Go.irem 402 X144 hx (hb hby at_401) (by decide) rfl ?_
      obtain ⟨n147, h_n147⟩ : ∃ z, z = (n146 - n146 / (10 : Int32) * (10 : Int32)) := ⟨_, rfl⟩
      rw [← h_n147]
      show Go _ _ _ _ T144 (mkF m 402 #[iv p0, iv p1, iv p2, iv p3, iv p4, s5, iv c0, iv c1, iv c2, rv va1, rv va2, rv va3, rv ea, s13, iv pt, rv st, s16, iv (Int32.ofNat (pl ++ ([(.int (own_dgt pt 1000))] : List Value)).length), iv 4] [(.int n147), (.int 48), (.int (Int32.ofNat (pl ++ ([(.int (own_dgt pt 1000))] : List Value)).length)), (.ref ea)])
      have e_n147 : n147.toInt = n146.toInt % 10 := by rw [h_n147]; exact (x_irem 10 (by decide)).1 (by omega)
      refine Go.iadd 403 X144 hx (hb hby at_402) rfl ?_
      refine Go.i2c 404 X144 hx (hb hby at_403) rfl ?_
      rw [(own_ld (v := n147) 100 hp (by omega) : (((48 : Int32) + n147).toUInt32.toUInt16.toUInt32.toInt32) = own_dgt pt 100)]
      show Go _ _ _ _ T144 (mkF m 404 #[iv p0, iv p1, iv p2, iv p3, iv p4, s5, iv c0, iv c1, iv c2, rv va1, rv va2, rv va3, rv ea, s13, iv pt, rv st, s16, iv (Int32.ofNat (pl ++ ([(.int (own_dgt pt 1000))] : List Value)).length), iv 4] [(.int (own_dgt pt 100)), (.int (Int32.ofNat (pl ++ ([(.int (own_dgt pt 1000))] : List Value)).length)), (.ref ea)])
      have Vp148 : Arv Z h144 ea k40 .char (11 : Int32) (own_row (pl ++ ([(.int (own_dgt pt 1000))] : List Value)) 1 []) (.int 0) := own_row_inC 1 Vx143
      obtain ⟨cl149, Ar149, q149, S149, M149, H149, G149⟩ := id Vp148
      have hin149 : ¬ ((Int32.ofNat (pl ++ ([(.int (own_dgt pt 1000))] : List Value)).length) < 0 ∨ cl149.slots.size ≤ (Int32.ofNat (pl ++ ([(.int (own_dgt pt 1000))] : List Value)).length).toNatClampNeg) := inb_of S149 ⟨own_ofnn (by omega), own_oflt (j := 11) (by omega) (by omega)⟩
      obtain ⟨T149, h149, X149, e149, W149, st149⟩ := stC X144 hx hZj72 e144 Ar149 (j := (Int32.ofNat (pl ++ ([(.int (own_dgt pt 1000))] : List Value)).length)) hin149 (g := (mkF m 404 #[iv p0, iv p1, iv p2, iv p3, iv p4, s5, iv c0, iv c1, iv c2, rv va1, rv va2, rv va3, rv ea, s13, iv pt, rv st, s16, iv (Int32.ofNat (pl ++ ([(.int (own_dgt pt 1000))] : List Value)).length), iv 4] [(.int (own_dgt pt 100)), (.int (Int32.ofNat (pl ++ ([(.int (own_dgt pt 1000))] : List Value)).length)), (.ref ea)])) rfl rfl (hb hby at_404)
      have C150 : CHr Z own_EL s.vm h0 vmj72 h149 := C145.trans (CHr.wr W149 (Safe.arv hZj72.alike Vp148 (by decide)) C145.1)
      have N149 := Fr.snoc X149 N144 ge_ea
      have V149 : Arv Z h149 ea k40 .char (11 : Int32) ((own_row (pl ++ ([(.int (own_dgt pt 1000))] : List Value)) 1 []).set ((pl ++ ([(.int (own_dgt pt 1000))] : List Value)).length + 0) (.int (nar .char (own_dgt pt 100)))) (.int 0) := Arv.set Ar149 q149 S149 M149 H149 G149 (fits_nar_char _) W149 ((pl ++ ([(.int (own_dgt pt 1000))] : List Value)).length + 0) (own_ofn (by omega)) (by rw [own_row_len]; omega)
      refine Go.by st149 ?_
      show Go _ _ _ _ T149 (mkF m 405 #[iv p0, iv p1, iv p2, iv p3, iv p4, s5, iv c0, iv c1, iv c2, rv va1, rv va2, rv va3, rv ea, s13, iv pt, rv st, s16, iv (Int32.ofNat (pl ++ ([(.int (own_dgt pt 1000))] : List Value)).length), iv 4] [])
      have Vx148 : Arv Z h149 ea k40 .char (11 : Int32) (pl ++ ([(.int (own_dgt pt 1000)), (.int (own_dgt pt 100))] : List Value)) (.int 0) := by have v_ := V149; rw [own_row_set, own_row_snoc, own_ncb (own_dgt_b pt 100).1 (own_dgt_b pt 100).2] at v_; exact v_
      have hX148 : (pl ++ ([(.int (own_dgt pt 1000)), (.int (own_dgt pt 100))] : List Value)).length = pl.length + 2 := by rw [List.length_append]; rfl
      refine Go.iinc 408 X149 hx (1 : Int32) (L' := #[iv p0, iv p1, iv p2, iv p3, iv p4, s5, iv c0, iv c1, iv c2, rv va1, rv va2, rv va3, rv ea, s13, iv pt, rv st, s16, iv ((Int32.ofNat (pl ++ ([(.int (own_dgt pt 1000))] : List Value)).length) + (1 : Int32)), iv 4]) (hb hby at_405) (by decide) rfl rfl rfl ?_
      rw [show Int32.ofNat (pl ++ ([(.int (own_dgt pt 1000))] : List Value)).length + (1 : Int32) = Int32.ofNat (pl ++ ([(.int (own_dgt pt 1000)), (.int (own_dgt pt 100))] : List Value)).length from own_inc ([(.int (own_dgt pt 1000))] : List Value) (.int (own_dgt pt 100))]
      show Go _ _ _ _ T149 (mkF m 408 #[iv p0, iv p1, iv p2, iv p3, iv p4, s5, iv c0, iv c1, iv c2, rv va1, rv va2, rv va3, rv ea, s13, iv pt, rv st, s16, iv (Int32.ofNat (pl ++ ([(.int (own_dgt pt 1000)), (.int (own_dgt pt 100))] : List Value)).length), iv 4] [])
      refine Go.iload2 410 X149 hx (hb hby at_408) rfl rfl ?_
      refine Go.iconst 411 X149 hx (2 : Int32) (hb hby at_410) (by decide) rfl ?_
      refine Go.icmpN 414 X149 hx (hb hby at_411) (XT.ii_lt_f (by decide)) rfl ?_
      refine Go.aload2 416 X149 hx (hb hby at_414) rfl rfl rfl ?_
      refine Go.iload2 418 X149 hx (hb hby at_416) rfl rfl ?_
      refine Go.bipush 420 X149 hx (48 : Int32) (hb hby at_418) (by decide) rfl ?_
      refine Go.iload2 422 X149 hx (hb hby at_420) rfl rfl ?_
      refine Go.bipush 424 X149 hx (10 : Int32) (hb hby at_422) (by decide) rfl ?_
      refine Go.idiv 425 X149 hx (hb hby at_424) (by decide) rfl ?_
      obtain ⟨n151, h_n151⟩ : ∃ z, z = (pt / (10 : Int32)) := ⟨_, rfl⟩
      rw [← h_n151]
      show Go _ _ _ _ T149 (mkF m 425 #[iv p0, iv p1, iv p2, iv p3, iv p4, s5, iv c0, iv c1, iv c2, rv va1, rv va2, rv va3, rv ea, s13, iv pt, rv st, s16, iv (Int32.ofNat (pl ++ ([(.int (own_dgt pt 1000)), (.int (own_dgt pt 100))] : List Value)).length), iv 4] [(.int n151), (.int 48), (.int (Int32.ofNat (pl ++ ([(.int (own_dgt pt 1000)), (.int (own_dgt pt 100))] : List Value)).length)), (.ref ea)])
      have e_n151 : n151.toInt = pt.toInt / 10 := by rw [h_n151]; exact (x_idiv 10 (by decide) (by decide)).1 (by omega)
      refine Go.bipush 427 X149 hx (10 : Int32) (hb hby at_425) (by decide) rfl ?_
      refine Go.irem 428 X149 hx (hb hby at_427) (by decide) rfl ?_
      obtain ⟨n152, h_n152⟩ : ∃ z, z = (n151 - n151 / (10 : Int32) * (10 : Int32)) := ⟨_, rfl⟩
      rw [← h_n152]
      show Go _ _ _ _ T149 (mkF m 428 #[iv p0, iv p1, iv p2, iv p3, iv p4, s5, iv c0, iv c1, iv c2, rv va1, rv va2, rv va3, rv ea, s13, iv pt, rv st, s16, iv (Int32.ofNat (pl ++ ([(.int (own_dgt pt 1000)), (.int (own_dgt pt 100))] : List Value)).length), iv 4] [(.int n152), (.int 48), (.int (Int32.ofNat (pl ++ ([(.int (own_dgt pt 1000)), (.int (own_dgt pt 100))] : List Value)).length)), (.ref ea)])
      have e_n152 : n152.toInt = n151.toInt % 10 := by rw [h_n152]; exact (x_irem 10 (by decide)).1 (by omega)
      refine Go.iadd 429 X149 hx (hb hby at_428) rfl ?_
      refine Go.i2c 430 X149 hx (hb hby at_429) rfl ?_
      rw [(own_ld (v := n152) 10 hp (by omega) : (((48 : Int32) + n152).toUInt32.toUInt16.toUInt32.toInt32) = own_dgt pt 10)]
      show Go _ _ _ _ T149 (mkF m 430 #[iv p0, iv p1, iv p2, iv p3, iv p4, s5, iv c0, iv c1, iv c2, rv va1, rv va2, rv va3, rv ea, s13, iv pt, rv st, s16, iv (Int32.ofNat (pl ++ ([(.int (own_dgt pt 1000)), (.int (own_dgt pt 100))] : List Value)).length), iv 4] [(.int (own_dgt pt 10)), (.int (Int32.ofNat (pl ++ ([(.int (own_dgt pt 1000)), (.int (own_dgt pt 100))] : List Value)).length)), (.ref ea)])
      have Vp153 : Arv Z h149 ea k40 .char (11 : Int32) (own_row (pl ++ ([(.int (own_dgt pt 1000)), (.int (own_dgt pt 100))] : List Value)) 1 []) (.int 0) := own_row_inC 1 Vx148
      obtain ⟨cl154, Ar154, q154, S154, M154, H154, G154⟩ := id Vp153
      have hin154 : ¬ ((Int32.ofNat (pl ++ ([(.int (own_dgt pt 1000)), (.int (own_dgt pt 100))] : List Value)).length) < 0 ∨ cl154.slots.size ≤ (Int32.ofNat (pl ++ ([(.int (own_dgt pt 1000)), (.int (own_dgt pt 100))] : List Value)).length).toNatClampNeg) := inb_of S154 ⟨own_ofnn (by omega), own_oflt (j := 11) (by omega) (by omega)⟩
      obtain ⟨T154, h154, X154, e154, W154, st154⟩ := stC X149 hx hZj72 e149 Ar154 (j := (Int32.ofNat (pl ++ ([(.int (own_dgt pt 1000)), (.int (own_dgt pt 100))] : List Value)).length)) hin154 (g := (mkF m 430 #[iv p0, iv p1, iv p2, iv p3, iv p4, s5, iv c0, iv c1, iv c2, rv va1, rv va2, rv va3, rv ea, s13, iv pt, rv st, s16, iv (Int32.ofNat (pl ++ ([(.int (own_dgt pt 1000)), (.int (own_dgt pt 100))] : List Value)).length), iv 4] [(.int (own_dgt pt 10)), (.int (Int32.ofNat (pl ++ ([(.int (own_dgt pt 1000)), (.int (own_dgt pt 100))] : List Value)).length)), (.ref ea)])) rfl rfl (hb hby at_430)
      have C155 : CHr Z own_EL s.vm h0 vmj72 h154 := C150.trans (CHr.wr W154 (Safe.arv hZj72.alike Vp153 (by decide)) C150.1)
      have N154 := Fr.snoc X154 N149 ge_ea
      have V154 : Arv Z h154 ea k40 .char (11 : Int32) ((own_row (pl ++ ([(.int (own_dgt pt 1000)), (.int (own_dgt pt 100))] : List Value)) 1 []).set ((pl ++ ([(.int (own_dgt pt 1000)), (.int (own_dgt pt 100))] : List Value)).length + 0) (.int (nar .char (own_dgt pt 10)))) (.int 0) := Arv.set Ar154 q154 S154 M154 H154 G154 (fits_nar_char _) W154 ((pl ++ ([(.int (own_dgt pt 1000)), (.int (own_dgt pt 100))] : List Value)).length + 0) (own_ofn (by omega)) (by rw [own_row_len]; omega)
      refine Go.by st154 ?_
      show Go _ _ _ _ T154 (mkF m 431 #[iv p0, iv p1, iv p2, iv p3, iv p4, s5, iv c0, iv c1, iv c2, rv va1, rv va2, rv va3, rv ea, s13, iv pt, rv st, s16, iv (Int32.ofNat (pl ++ ([(.int (own_dgt pt 1000)), (.int (own_dgt pt 100))] : List Value)).length), iv 4] [])
      have Vx153 : Arv Z h154 ea k40 .char (11 : Int32) (pl ++ ([(.int (own_dgt pt 1000)), (.int (own_dgt pt 100)), (.int (own_dgt pt 10))] : List Value)) (.int 0) := by have v_ := V154; rw [own_row_set, own_row_snoc, own_ncb (own_dgt_b pt 10).1 (own_dgt_b pt 10).2] at v_; exact v_
      have hX153 : (pl ++ ([(.int (own_dgt pt 1000)), (.int (own_dgt pt 100)), (.int (own_dgt pt 10))] : List Value)).length = pl.length + 3 := by rw [List.length_append]; rfl
      refine Go.iinc 434 X154 hx (1 : Int32) (L' := #[iv p0, iv p1, iv p2, iv p3, iv p4, s5, iv c0, iv c1, iv c2, rv va1, rv va2, rv va3, rv ea, s13, iv pt, rv st, s16, iv ((Int32.ofNat (pl ++ ([(.int (own_dgt pt 1000)), (.int (own_dgt pt 100))] : List Value)).length) + (1 : Int32)), iv 4]) (hb hby at_431) (by decide) rfl rfl rfl ?_
      rw [show Int32.ofNat (pl ++ ([(.int (own_dgt pt 1000)), (.int (own_dgt pt 100))] : List Value)).length + (1 : Int32) = Int32.ofNat (pl ++ ([(.int (own_dgt pt 1000)), (.int (own_dgt pt 100)), (.int (own_dgt pt 10))] : List Value)).length from own_inc ([(.int (own_dgt pt 1000)), (.int (own_dgt pt 100))] : List Value) (.int (own_dgt pt 10))]
      show Go _ _ _ _ T154 (mkF m 434 #[iv p0, iv p1, iv p2, iv p3, iv p4, s5, iv c0, iv c1, iv c2, rv va1, rv va2, rv va3, rv ea, s13, iv pt, rv st, s16, iv (Int32.ofNat (pl ++ ([(.int (own_dgt pt 1000)), (.int (own_dgt pt 100)), (.int (own_dgt pt 10))] : List Value)).length), iv 4] [])
      refine Go.aload2 436 X154 hx (hb hby at_434) rfl rfl rfl ?_
      refine Go.iload2 438 X154 hx (hb hby at_436) rfl rfl ?_
      refine Go.bipush 440 X154 hx (48 : Int32) (hb hby at_438) (by decide) rfl ?_
      refine Go.iload2 442 X154 hx (hb hby at_440) rfl rfl ?_
      refine Go.bipush 444 X154 hx (10 : Int32) (hb hby at_442) (by decide) rfl ?_
      refine Go.irem 445 X154 hx (hb hby at_444) (by decide) rfl ?_
      obtain ⟨n156, h_n156⟩ : ∃ z, z = (pt - pt / (10 : Int32) * (10 : Int32)) := ⟨_, rfl⟩
      rw [← h_n156]
      show Go _ _ _ _ T154 (mkF m 445 #[iv p0, iv p1, iv p2, iv p3, iv p4, s5, iv c0, iv c1, iv c2, rv va1, rv va2, rv va3, rv ea, s13, iv pt, rv st, s16, iv (Int32.ofNat (pl ++ ([(.int (own_dgt pt 1000)), (.int (own_dgt pt 100)), (.int (own_dgt pt 10))] : List Value)).length), iv 4] [(.int n156), (.int 48), (.int (Int32.ofNat (pl ++ ([(.int (own_dgt pt 1000)), (.int (own_dgt pt 100)), (.int (own_dgt pt 10))] : List Value)).length)), (.ref ea)])
      have e_n156 : n156.toInt = pt.toInt % 10 := by rw [h_n156]; exact (x_irem 10 (by decide)).1 (by omega)
      refine Go.iadd 446 X154 hx (hb hby at_445) rfl ?_
      refine Go.i2c 447 X154 hx (hb hby at_446) rfl ?_
      rw [(own_ld (v := n156) 1 hp (by omega) : (((48 : Int32) + n156).toUInt32.toUInt16.toUInt32.toInt32) = own_dgt pt 1)]
      show Go _ _ _ _ T154 (mkF m 447 #[iv p0, iv p1, iv p2, iv p3, iv p4, s5, iv c0, iv c1, iv c2, rv va1, rv va2, rv va3, rv ea, s13, iv pt, rv st, s16, iv (Int32.ofNat (pl ++ ([(.int (own_dgt pt 1000)), (.int (own_dgt pt 100)), (.int (own_dgt pt 10))] : List Value)).length), iv 4] [(.int (own_dgt pt 1)), (.int (Int32.ofNat (pl ++ ([(.int (own_dgt pt 1000)), (.int (own_dgt pt 100)), (.int (own_dgt pt 10))] : List Value)).length)), (.ref ea)])
      have Vp157 : Arv Z h154 ea k40 .char (11 : Int32) (own_row (pl ++ ([(.int (own_dgt pt 1000)), (.int (own_dgt pt 100)), (.int (own_dgt pt 10))] : List Value)) 1 []) (.int 0) := own_row_inC 1 Vx153
      obtain ⟨cl158, Ar158, q158, S158, M158, H158, G158⟩ := id Vp157
      have hin158 : ¬ ((Int32.ofNat (pl ++ ([(.int (own_dgt pt 1000)), (.int (own_dgt pt 100)), (.int (own_dgt pt 10))] : List Value)).length) < 0 ∨ cl158.slots.size ≤ (Int32.ofNat (pl ++ ([(.int (own_dgt pt 1000)), (.int (own_dgt pt 100)), (.int (own_dgt pt 10))] : List Value)).length).toNatClampNeg) := inb_of S158 ⟨own_ofnn (by omega), own_oflt (j := 11) (by omega) (by omega)⟩
      obtain ⟨T158, h158, X158, e158, W158, st158⟩ := stC X154 hx hZj72 e154 Ar158 (j := (Int32.ofNat (pl ++ ([(.int (own_dgt pt 1000)), (.int (own_dgt pt 100)), (.int (own_dgt pt 10))] : List Value)).length)) hin158 (g := (mkF m 447 #[iv p0, iv p1, iv p2, iv p3, iv p4, s5, iv c0, iv c1, iv c2, rv va1, rv va2, rv va3, rv ea, s13, iv pt, rv st, s16, iv (Int32.ofNat (pl ++ ([(.int (own_dgt pt 1000)), (.int (own_dgt pt 100)), (.int (own_dgt pt 10))] : List Value)).length), iv 4] [(.int (own_dgt pt 1)), (.int (Int32.ofNat (pl ++ ([(.int (own_dgt pt 1000)), (.int (own_dgt pt 100)), (.int (own_dgt pt 10))] : List Value)).length)), (.ref ea)])) rfl rfl (hb hby at_447)
      have C159 : CHr Z own_EL s.vm h0 vmj72 h158 := C155.trans (CHr.wr W158 (Safe.arv hZj72.alike Vp157 (by decide)) C155.1)
      have N158 := Fr.snoc X158 N154 ge_ea
      have V158 : Arv Z h158 ea k40 .char (11 : Int32) ((own_row (pl ++ ([(.int (own_dgt pt 1000)), (.int (own_dgt pt 100)), (.int (own_dgt pt 10))] : List Value)) 1 []).set ((pl ++ ([(.int (own_dgt pt 1000)), (.int (own_dgt pt 100)), (.int (own_dgt pt 10))] : List Value)).length + 0) (.int (nar .char (own_dgt pt 1)))) (.int 0) := Arv.set Ar158 q158 S158 M158 H158 G158 (fits_nar_char _) W158 ((pl ++ ([(.int (own_dgt pt 1000)), (.int (own_dgt pt 100)), (.int (own_dgt pt 10))] : List Value)).length + 0) (own_ofn (by omega)) (by rw [own_row_len]; omega)
      refine Go.by st158 ?_
      show Go _ _ _ _ T158 (mkF m 448 #[iv p0, iv p1, iv p2, iv p3, iv p4, s5, iv c0, iv c1, iv c2, rv va1, rv va2, rv va3, rv ea, s13, iv pt, rv st, s16, iv (Int32.ofNat (pl ++ ([(.int (own_dgt pt 1000)), (.int (own_dgt pt 100)), (.int (own_dgt pt 10))] : List Value)).length), iv 4] [])
      have Vx157 : Arv Z h158 ea k40 .char (11 : Int32) (pl ++ ([(.int (own_dgt pt 1000)), (.int (own_dgt pt 100)), (.int (own_dgt pt 10)), (.int (own_dgt pt 1))] : List Value)) (.int 0) := by have v_ := V158; rw [own_row_set, own_row_snoc, own_ncb (own_dgt_b pt 1).1 (own_dgt_b pt 1).2] at v_; exact v_
      have hX157 : (pl ++ ([(.int (own_dgt pt 1000)), (.int (own_dgt pt 100)), (.int (own_dgt pt 10)), (.int (own_dgt pt 1))] : List Value)).length = pl.length + 4 := by rw [List.length_append]; rfl
      refine Go.iinc 451 X158 hx (1 : Int32) (L' := #[iv p0, iv p1, iv p2, iv p3, iv p4, s5, iv c0, iv c1, iv c2, rv va1, rv va2, rv va3, rv ea, s13, iv pt, rv st, s16, iv ((Int32.ofNat (pl ++ ([(.int (own_dgt pt 1000)), (.int (own_dgt pt 100)), (.int (own_dgt pt 10))] : List Value)).length) + (1 : Int32)), iv 4]) (hb hby at_448) (by decide) rfl rfl rfl ?_
      rw [show Int32.ofNat (pl ++ ([(.int (own_dgt pt 1000)), (.int (own_dgt pt 100)), (.int (own_dgt pt 10))] : List Value)).length + (1 : Int32) = Int32.ofNat (pl ++ ([(.int (own_dgt pt 1000)), (.int (own_dgt pt 100)), (.int (own_dgt pt 10)), (.int (own_dgt pt 1))] : List Value)).length from own_inc ([(.int (own_dgt pt 1000)), (.int (own_dgt pt 100)), (.int (own_dgt pt 10))] : List Value) (.int (own_dgt pt 1))]
      show Go _ _ _ _ T158 (mkF m 451 #[iv p0, iv p1, iv p2, iv p3, iv p4, s5, iv c0, iv c1, iv c2, rv va1, rv va2, rv va3, rv ea, s13, iv pt, rv st, s16, iv (Int32.ofNat (pl ++ ([(.int (own_dgt pt 1000)), (.int (own_dgt pt 100)), (.int (own_dgt pt 10)), (.int (own_dgt pt 1))] : List Value)).length), iv 4] [])
      have F160 : Keep H72 h144 [ea] := (Keep.refl H72 [ea]).wr W144 (Or.inl (List.mem_of_getElem? (i := 0) rfl))
      have F161 : Keep H72 h149 [ea] := F160.wr W149 (Or.inl (List.mem_of_getElem? (i := 0) rfl))
      have F162 : Keep H72 h154 [ea] := F161.wr W154 (Or.inl (List.mem_of_getElem? (i := 0) rfl))
      have F163 : Keep H72 h158 [ea] := F162.wr W158 (Or.inl (List.mem_of_getElem? (i := 0) rfl))
      have F164 : Exa Z h158 st "java/lang/String" := Fj72_0.keep F163
      have F165 : Fld Z h158 st "java/lang/String" "coder" "B" (.int 0) := Fj72_1.keep F163 (ninS Fj72_6 nin0)
      have F166 : Fld Z h158 st "java/lang/String" "value" "[B" (.ref sv) := Fj72_2.keep F163 (ninS Fj72_6 nin0)
      have F167 : Arv Z h158 sv ksv .byte (Int32.ofNat (sl ++ own_dg pt).length) (sl ++ own_dg pt) (.int 0) := Fj72_3.keep F163 (ninS Fj72_5 nin0)
      have hY : (sl ++ ([(.int (own_dgt pt 1000)), (.int (own_dgt pt 100)), (.int (own_dgt pt 10)), (.int (own_dgt pt 1))] : List Value)).length = (pl ++ ([(.int (own_dgt pt 1000)), (.int (own_dgt pt 100)), (.int (own_dgt pt 10)), (.int (own_dgt pt 1))] : List Value)).length := by rw [List.length_append, List.length_append, hls]
      have Vd : Arv Z h158 sv ksv .byte (Int32.ofNat (pl ++ ([(.int (own_dgt pt 1000)), (.int (own_dgt pt 100)), (.int (own_dgt pt 10)), (.int (own_dgt pt 1))] : List Value)).length) (sl ++ ([(.int (own_dgt pt 1000)), (.int (own_dgt pt 100)), (.int (own_dgt pt 10)), (.int (own_dgt pt 1))] : List Value)) (.int 0) := by have v_ := F167; rw [hd, hY] at v_; exact v_
      have F168 : n0 ≤ h144.size := Nat.le_trans Zj72 (Nat.le_of_eq (Wr.size W144).symm)
      have F169 : n0 ≤ h149.size := Nat.le_trans F168 (Nat.le_of_eq (Wr.size W149).symm)
      have F170 : n0 ≤ h154.size := Nat.le_trans F169 (Nat.le_of_eq (Wr.size W154).symm)
      have F171 : n0 ≤ h158.size := Nat.le_trans F170 (Nat.le_of_eq (Wr.size W158).symm)
      have F172 : Old Z n0 h144 := Oj72.wr W144 ge_ea
      have F173 : Old Z n0 h149 := F172.wr W149 ge_ea
      have F174 : Old Z n0 h154 := F173.wr W154 ge_ea
      have F175 : Old Z n0 h158 := F174.wr W158 ge_ea
      have F176 : nk72 ≤ h144.size := Nat.le_trans hkj72 (Nat.le_of_eq (Wr.size W144).symm)
      have F177 : nk72 ≤ h149.size := Nat.le_trans F176 (Nat.le_of_eq (Wr.size W149).symm)
      have F178 : nk72 ≤ h154.size := Nat.le_trans F177 (Nat.le_of_eq (Wr.size W154).symm)
      have F179 : nk72 ≤ h158.size := Nat.le_trans F178 (Nat.le_of_eq (Wr.size W158).symm)
      exact J59 _ _ _ _ _ st sv ksv (sl ++ ([(.int (own_dgt pt 1000)), (.int (own_dgt pt 100)), (.int (own_dgt pt 10)), (.int (own_dgt pt 1))] : List Value)) (pl ++ ([(.int (own_dgt pt 1000)), (.int (own_dgt pt 100)), (.int (own_dgt pt 10)), (.int (own_dgt pt 1))] : List Value)) ((pl ++ ([(.int (own_dgt pt 1000)), (.int (own_dgt pt 100)), (.int (own_dgt pt 10)), (.int (own_dgt pt 1))] : List Value)).length) s5 s13 (iv pt) s16 (iv 4) (X158.more (by decide) (by decide)) e158 N158 F171 F175 C159 F179 hSj72 hZj72 hownj72 F164 F165 F166 Vd Vx157 (by rw [hX157]; exact own_says_app hsay0 hls rfl (own_sC (own_pd pt 1000) (own_sC (own_pd pt 100) (own_sC (own_pd pt 10) (own_sC (own_pd pt 1) own_s0))))) (by rw [hX157]; omega)
    · have hd := own_dg_5 hs
      have hX : (pl ++ ([] : List Value)).length = pl.length + 0 := by rw [List.length_append]; rfl
      refine Go.iload2 281 X72 hx (hb hby at_279) rfl rfl ?_
      refine Go.sipush 284 X72 hx (10000 : Int32) (hb hby at_281) (by decide) rfl ?_
      refine Go.icmpN 287 X72 hx (hb hby at_284) (XT.ii_lt_f (u_nlt32 (by omega))) rfl ?_
      refine Go.iconst 288 X72 hx (5 : Int32) (hb hby at_287) (by decide) rfl ?_
      refine Go.goto 326 X72 hx (hb hby at_288) (by decide) (by decide) ?_
      refine Go.istore2 328 X72 hx (L' := #[iv p0, iv p1, iv p2, iv p3, iv p4, s5, iv c0, iv c1, iv c2, rv va1, rv va2, rv va3, rv ea, s13, iv pt, rv st, s16, iv (Int32.ofNat (pl ++ ([] : List Value)).length), iv 5]) (hb hby at_326) rfl rfl ?_
      refine Go.iload2 330 X72 hx (hb hby at_328) rfl rfl ?_
      refine Go.iconst 331 X72 hx (5 : Int32) (hb hby at_330) (by decide) rfl ?_
      refine Go.icmpN 334 X72 hx (hb hby at_331) (XT.ii_lt_f (by decide)) rfl ?_
      refine Go.aload2 336 X72 hx (hb hby at_334) rfl rfl rfl ?_
      refine Go.iload2 338 X72 hx (hb hby at_336) rfl rfl ?_
      refine Go.bipush 340 X72 hx (48 : Int32) (hb hby at_338) (by decide) rfl ?_
      refine Go.iload2 342 X72 hx (hb hby at_340) rfl rfl ?_
      refine Go.sipush 345 X72 hx (10000 : Int32) (hb hby at_342) (by decide) rfl ?_
      refine Go.idiv 346 X72 hx (hb hby at_345) (by decide) rfl ?_
      obtain ⟨n180, h_n180⟩ : ∃ z, z = (pt / (10000 : Int32)) := ⟨_, rfl⟩
      rw [← h_n180]
      show Go _ _ _ _ T72 (mkF m 346 #[iv p0, iv p1, iv p2, iv p3, iv p4, s5, iv c0, iv c1, iv c2, rv va1, rv va2, rv va3, rv ea, s13, iv pt, rv st, s16, iv (Int32.ofNat (pl ++ ([] : List Value)).length), iv 5] [(.int n180), (.int 48), (.int (Int32.ofNat (pl ++ ([] : List Value)).length)), (.ref ea)])
      have e_n180 : n180.toInt = pt.toInt / 10000 := by rw [h_n180]; exact (x_idiv 10000 (by decide) (by decide)).1 (by omega)
      refine Go.bipush 348 X72 hx (10 : Int32) (hb hby at_346) (by decide) rfl ?_
      refine Go.irem 349 X72 hx (hb hby at_348) (by decide) rfl ?_
      obtain ⟨n181, h_n181⟩ : ∃ z, z = (n180 - n180 / (10 : Int32) * (10 : Int32)) := ⟨_, rfl⟩
      rw [← h_n181]
      show Go _ _ _ _ T72 (mkF m 349 #[iv p0, iv p1, iv p2, iv p3, iv p4, s5, iv c0, iv c1, iv c2, rv va1, rv va2, rv va3, rv ea, s13, iv pt, rv st, s16, iv (Int32.ofNat (pl ++ ([] : List Value)).length), iv 5] [(.int n181), (.int 48), (.int (Int32.ofNat (pl ++ ([] : List Value)).length)), (.ref ea)])
      have e_n181 : n181.toInt = n180.toInt % 10 := by rw [h_n181]; exact (x_irem 10 (by decide)).1 (by omega)
      refine Go.iadd 350 X72 hx (hb hby at_349) rfl ?_
      refine Go.i2c 351 X72 hx (hb hby at_350) rfl ?_
      rw [(own_ld (v := n181) 10000 hp (by omega) : (((48 : Int32) + n181).toUInt32.toUInt16.toUInt32.toInt32) = own_dgt pt 10000)]
      show Go _ _ _ _ T72 (mkF m 351 #[iv p0, iv p1, iv p2, iv p3, iv p4, s5, iv c0, iv c1, iv c2, rv va1, rv va2, rv va3, rv ea, s13, iv pt, rv st, s16, iv (Int32.ofNat (pl ++ ([] : List Value)).length), iv 5] [(.int (own_dgt pt 10000)), (.int (Int32.ofNat (pl ++ ([] : List Value)).length)), (.ref ea)])
      have Vp182 : Arv Z H72 ea k40 .char (11 : Int32) (own_row (pl ++ ([] : List Value)) 1 []) (.int 0) := own_row_inC 1 Fj72_4
      obtain ⟨cl183, Ar183, q183, S183, M183, H183, G183⟩ := id Vp182
      have hin183 : ¬ ((Int32.ofNat (pl ++ ([] : List Value)).length) < 0 ∨ cl183.slots.size ≤ (Int32.ofNat (pl ++ ([] : List Value)).length).toNatClampNeg) := inb_of S183 ⟨own_ofnn (by omega), own_oflt (j := 11) (by omega) (by omega)⟩
      obtain ⟨T183, h183, X183, e183, W183, st183⟩ := stC X72 hx hZj72 e72 Ar183 (j := (Int32.ofNat (pl ++ ([] : List Value)).length)) hin183 (g := (mkF m 351 #[iv p0, iv p1, iv p2, iv p3, iv p4, s5, iv c0, iv c1, iv c2, rv va1, rv va2, rv va3, rv ea, s13, iv pt, rv st, s16, iv (Int32.ofNat (pl ++ ([] : List Value)).length), iv 5] [(.int (own_dgt pt 10000)), (.int (Int32.ofNat (pl ++ ([] : List Value)).length)), (.ref ea)])) rfl rfl (hb hby at_351)
      have C184 : CHr Z own_EL s.vm h0 vmj72 h183 := C72.trans (CHr.wr W183 (Safe.arv hZj72.alike Vp182 (by decide)) C72.1)
      have N183 := Fr.snoc X183 N72 ge_ea
      have V183 : Arv Z h183 ea k40 .char (11 : Int32) ((own_row (pl ++ ([] : List Value)) 1 []).set ((pl ++ ([] : List Value)).length + 0) (.int (nar .char (own_dgt pt 10000)))) (.int 0) := Arv.set Ar183 q183 S183 M183 H183 G183 (fits_nar_char _) W183 ((pl ++ ([] : List Value)).length + 0) (own_ofn (by omega)) (by rw [own_row_len]; omega)
      refine Go.by st183 ?_
      show Go _ _ _ _ T183 (mkF m 352 #[iv p0, iv p1, iv p2, iv p3, iv p4, s5, iv c0, iv c1, iv c2, rv va1, rv va2, rv va3, rv ea, s13, iv pt, rv st, s16, iv (Int32.ofNat (pl ++ ([] : List Value)).length), iv 5] [])
      have Vx182 : Arv Z h183 ea k40 .char (11 : Int32) (pl ++ ([(.int (own_dgt pt 10000))] : List Value)) (.int 0) := by have v_ := V183; rw [own_row_set, own_row_snoc, own_ncb (own_dgt_b pt 10000).1 (own_dgt_b pt 10000).2] at v_; exact v_
      have hX182 : (pl ++ ([(.int (own_dgt pt 10000))] : List Value)).length = pl.length + 1 := by rw [List.length_append]; rfl
      refine Go.iinc 355 X183 hx (1 : Int32) (L' := #[iv p0, iv p1, iv p2, iv p3, iv p4, s5, iv c0, iv c1, iv c2, rv va1, rv va2, rv va3, rv ea, s13, iv pt, rv st, s16, iv ((Int32.ofNat (pl ++ ([] : List Value)).length) + (1 : Int32)), iv 5]) (hb hby at_352) (by decide) rfl rfl rfl ?_
      rw [show Int32.ofNat (pl ++ ([] : List Value)).length + (1 : Int32) = Int32.ofNat (pl ++ ([(.int (own_dgt pt 10000))] : List Value)).length from own_inc ([] : List Value) (.int (own_dgt pt 10000))]
      show Go _ _ _ _ T183 (mkF m 355 #[iv p0, iv p1, iv p2, iv p3, iv p4, s5, iv c0, iv c1, iv c2, rv va1, rv va2, rv va3, rv ea, s13, iv pt, rv st, s16, iv (Int32.ofNat (pl ++ ([(.int (own_dgt pt 10000))] : List Value)).length), iv 5] [])
      refine Go.iload2 357 X183 hx (hb hby at_355) rfl rfl ?_
      refine Go.iconst 358 X183 hx (4 : Int32) (hb hby at_357) (by decide) rfl ?_
      refine Go.icmpN 361 X183 hx (hb hby at_358) (XT.ii_lt_f (by decide)) rfl ?_
      refine Go.aload2 363 X183 hx (hb hby at_361) rfl rfl rfl ?_
      refine Go.iload2 365 X183 hx (hb hby at_363) rfl rfl ?_
      refine Go.bipush 367 X183 hx (48 : Int32) (hb hby at_365) (by decide) rfl ?_
      refine Go.iload2 369 X183 hx (hb hby at_367) rfl rfl ?_
      refine Go.sipush 372 X183 hx (1000 : Int32) (hb hby at_369) (by decide) rfl ?_
      refine Go.idiv 373 X183 hx (hb hby at_372) (by decide) rfl ?_
      obtain ⟨n185, h_n185⟩ : ∃ z, z = (pt / (1000 : Int32)) := ⟨_, rfl⟩
      rw [← h_n185]
      show Go _ _ _ _ T183 (mkF m 373 #[iv p0, iv p1, iv p2, iv p3, iv p4, s5, iv c0, iv c1, iv c2, rv va1, rv va2, rv va3, rv ea, s13, iv pt, rv st, s16, iv (Int32.ofNat (pl ++ ([(.int (own_dgt pt 10000))] : List Value)).length), iv 5] [(.int n185), (.int 48), (.int (Int32.ofNat (pl ++ ([(.int (own_dgt pt 10000))] : List Value)).length)), (.ref ea)])
      have e_n185 : n185.toInt = pt.toInt / 1000 := by rw [h_n185]; exact (x_idiv 1000 (by decide) (by decide)).1 (by omega)
      refine Go.bipush 375 X183 hx (10 : Int32) (hb hby at_373) (by decide) rfl ?_
      refine Go.irem 376 X183 hx (hb hby at_375) (by decide) rfl ?_
      obtain ⟨n186, h_n186⟩ : ∃ z, z = (n185 - n185 / (10 : Int32) * (10 : Int32)) := ⟨_, rfl⟩
      rw [← h_n186]
      show Go _ _ _ _ T183 (mkF m 376 #[iv p0, iv p1, iv p2, iv p3, iv p4, s5, iv c0, iv c1, iv c2, rv va1, rv va2, rv va3, rv ea, s13, iv pt, rv st, s16, iv (Int32.ofNat (pl ++ ([(.int (own_dgt pt 10000))] : List Value)).length), iv 5] [(.int n186), (.int 48), (.int (Int32.ofNat (pl ++ ([(.int (own_dgt pt 10000))] : List Value)).length)), (.ref ea)])
      have e_n186 : n186.toInt = n185.toInt % 10 := by rw [h_n186]; exact (x_irem 10 (by decide)).1 (by omega)
      refine Go.iadd 377 X183 hx (hb hby at_376) rfl ?_
      refine Go.i2c 378 X183 hx (hb hby at_377) rfl ?_
      rw [(own_ld (v := n186) 1000 hp (by omega) : (((48 : Int32) + n186).toUInt32.toUInt16.toUInt32.toInt32) = own_dgt pt 1000)]
      show Go _ _ _ _ T183 (mkF m 378 #[iv p0, iv p1, iv p2, iv p3, iv p4, s5, iv c0, iv c1, iv c2, rv va1, rv va2, rv va3, rv ea, s13, iv pt, rv st, s16, iv (Int32.ofNat (pl ++ ([(.int (own_dgt pt 10000))] : List Value)).length), iv 5] [(.int (own_dgt pt 1000)), (.int (Int32.ofNat (pl ++ ([(.int (own_dgt pt 10000))] : List Value)).length)), (.ref ea)])
      have Vp187 : Arv Z h183 ea k40 .char (11 : Int32) (own_row (pl ++ ([(.int (own_dgt pt 10000))] : List Value)) 1 []) (.int 0) := own_row_inC 1 Vx182
      obtain ⟨cl188, Ar188, q188, S188, M188, H188, G188⟩ := id Vp187
      have hin188 : ¬ ((Int32.ofNat (pl ++ ([(.int (own_dgt pt 10000))] : List Value)).length) < 0 ∨ cl188.slots.size ≤ (Int32.ofNat (pl ++ ([(.int (own_dgt pt 10000))] : List Value)).length).toNatClampNeg) := inb_of S188 ⟨own_ofnn (by omega), own_oflt (j := 11) (by omega) (by omega)⟩
      obtain ⟨T188, h188, X188, e188, W188, st188⟩ := stC X183 hx hZj72 e183 Ar188 (j := (Int32.ofNat (pl ++ ([(.int (own_dgt pt 10000))] : List Value)).length)) hin188 (g := (mkF m 378 #[iv p0, iv p1, iv p2, iv p3, iv p4, s5, iv c0, iv c1, iv c2, rv va1, rv va2, rv va3, rv ea, s13, iv pt, rv st, s16, iv (Int32.ofNat (pl ++ ([(.int (own_dgt pt 10000))] : List Value)).length), iv 5] [(.int (own_dgt pt 1000)), (.int (Int32.ofNat (pl ++ ([(.int (own_dgt pt 10000))] : List Value)).length)), (.ref ea)])) rfl rfl (hb hby at_378)
      have C189 : CHr Z own_EL s.vm h0 vmj72 h188 := C184.trans (CHr.wr W188 (Safe.arv hZj72.alike Vp187 (by decide)) C184.1)
      have N188 := Fr.snoc X188 N183 ge_ea
      have V188 : Arv Z h188 ea k40 .char (11 : Int32) ((own_row (pl ++ ([(.int (own_dgt pt 10000))] : List Value)) 1 []).set ((pl ++ ([(.int (own_dgt pt 10000))] : List Value)).length + 0) (.int (nar .char (own_dgt pt 1000)))) (.int 0) := Arv.set Ar188 q188 S188 M188 H188 G188 (fits_nar_char _) W188 ((pl ++ ([(.int (own_dgt pt 10000))] : List Value)).length + 0) (own_ofn (by omega)) (by rw [own_row_len]; omega)
      refine Go.by st188 ?_
      show Go _ _ _ _ T188 (mkF m 379 #[iv p0, iv p1, iv p2, iv p3, iv p4, s5, iv c0, iv c1, iv c2, rv va1, rv va2, rv va3, rv ea, s13, iv pt, rv st, s16, iv (Int32.ofNat (pl ++ ([(.int (own_dgt pt 10000))] : List Value)).length), iv 5] [])
      have Vx187 : Arv Z h188 ea k40 .char (11 : Int32) (pl ++ ([(.int (own_dgt pt 10000)), (.int (own_dgt pt 1000))] : List Value)) (.int 0) := by have v_ := V188; rw [own_row_set, own_row_snoc, own_ncb (own_dgt_b pt 1000).1 (own_dgt_b pt 1000).2] at v_; exact v_
      have hX187 : (pl ++ ([(.int (own_dgt pt 10000)), (.int (own_dgt pt 1000))] : List Value)).length = pl.length + 2 := by rw [List.length_append]; rfl
      refine Go.iinc 382 X188 hx (1 : Int32) (L' := #[iv p0, iv p1, iv p2, iv p3, iv p4, s5, iv c0, iv c1, iv c2, rv va1, rv va2, rv va3, rv ea, s13, iv pt, rv st, s16, iv ((Int32.ofNat (pl ++ ([(.int (own_dgt pt 10000))] : List Value)).length) + (1 : Int32)), iv 5]) (hb hby at_379) (by decide) rfl rfl rfl ?_
      rw [show Int32.ofNat (pl ++ ([(.int (own_dgt pt 10000))] : List Value)).length + (1 : Int32) = Int32.ofNat (pl ++ ([(.int (own_dgt pt 10000)), (.int (own_dgt pt 1000))] : List Value)).length from own_inc ([(.int (own_dgt pt 10000))] : List Value) (.int (own_dgt pt 1000))]
      show Go _ _ _ _ T188 (mkF m 382 #[iv p0, iv p1, iv p2, iv p3, iv p4, s5, iv c0, iv c1, iv c2, rv va1, rv va2, rv va3, rv ea, s13, iv pt, rv st, s16, iv (Int32.ofNat (pl ++ ([(.int (own_dgt pt 10000)), (.int (own_dgt pt 1000))] : List Value)).length), iv 5] [])
      refine Go.iload2 384 X188 hx (hb hby at_382) rfl rfl ?_
      refine Go.iconst 385 X188 hx (3 : Int32) (hb hby at_384) (by decide) rfl ?_
      refine Go.icmpN 388 X188 hx (hb hby at_385) (XT.ii_lt_f (by decide)) rfl ?_
      refine Go.aload2 390 X188 hx (hb hby at_388) rfl rfl rfl ?_
      refine Go.iload2 392 X188 hx (hb hby at_390) rfl rfl ?_
      refine Go.bipush 394 X188 hx (48 : Int32) (hb hby at_392) (by decide) rfl ?_
      refine Go.iload2 396 X188 hx (hb hby at_394) rfl rfl ?_
      refine Go.bipush 398 X188 hx (100 : Int32) (hb hby at_396) (by decide) rfl ?_
      refine Go.idiv 399 X188 hx (hb hby at_398) (by decide) rfl ?_
      obtain ⟨n190, h_n190⟩ : ∃ z, z = (pt / (100 : Int32)) := ⟨_, rfl⟩
      rw [← h_n190]
      show Go _ _ _ _ T188 (mkF m 399 #[iv p0, iv p1, iv p2, iv p3, iv p4, s5, iv c0, iv c1, iv c2, rv va1, rv va2, rv va3, rv ea, s13, iv pt, rv st, s16, iv (Int32.ofNat (pl ++ ([(.int (own_dgt pt 10000)), (.int (own_dgt pt 1000))] : List Value)).length), iv 5] [(.int n190), (.int 48), (.int (Int32.ofNat (pl ++ ([(.int (own_dgt pt 10000)), (.int (own_dgt pt 1000))] : List Value)).length)), (.ref ea)])
      have e_n190 : n190.toInt = pt.toInt / 100 := by rw [h_n190]; exact (x_idiv 100 (by decide) (by decide)).1 (by omega)
      refine Go.bipush 401 X188 hx (10 : Int32) (hb hby at_399) (by decide) rfl ?_
      refine Go.irem 402 X188 hx (hb hby at_401) (by decide) rfl ?_
      obtain ⟨n191, h_n191⟩ : ∃ z, z = (n190 - n190 / (10 : Int32) * (10 : Int32)) := ⟨_, rfl⟩
      rw [← h_n191]
      show Go _ _ _ _ T188 (mkF m 402 #[iv p0, iv p1, iv p2, iv p3, iv p4, s5, iv c0, iv c1, iv c2, rv va1, rv va2, rv va3, rv ea, s13, iv pt, rv st, s16, iv (Int32.ofNat (pl ++ ([(.int (own_dgt pt 10000)), (.int (own_dgt pt 1000))] : List Value)).length), iv 5] [(.int n191), (.int 48), (.int (Int32.ofNat (pl ++ ([(.int (own_dgt pt 10000)), (.int (own_dgt pt 1000))] : List Value)).length)), (.ref ea)])
      have e_n191 : n191.toInt = n190.toInt % 10 := by rw [h_n191]; exact (x_irem 10 (by decide)).1 (by omega)
      refine Go.iadd 403 X188 hx (hb hby at_402) rfl ?_
      refine Go.i2c 404 X188 hx (hb hby at_403) rfl ?_
      rw [(own_ld (v := n191) 100 hp (by omega) : (((48 : Int32) + n191).toUInt32.toUInt16.toUInt32.toInt32) = own_dgt pt 100)]
      show Go _ _ _ _ T188 (mkF m 404 #[iv p0, iv p1, iv p2, iv p3, iv p4, s5, iv c0, iv c1, iv c2, rv va1, rv va2, rv va3, rv ea, s13, iv pt, rv st, s16, iv (Int32.ofNat (pl ++ ([(.int (own_dgt pt 10000)), (.int (own_dgt pt 1000))] : List Value)).length), iv 5] [(.int (own_dgt pt 100)), (.int (Int32.ofNat (pl ++ ([(.int (own_dgt pt 10000)), (.int (own_dgt pt 1000))] : List Value)).length)), (.ref ea)])
      have Vp192 : Arv Z h188 ea k40 .char (11 : Int32) (own_row (pl ++ ([(.int (own_dgt pt 10000)), (.int (own_dgt pt 1000))] : List Value)) 1 []) (.int 0) := own_row_inC 1 Vx187
      obtain ⟨cl193, Ar193, q193, S193, M193, H193, G193⟩ := id Vp192
      have hin193 : ¬ ((Int32.ofNat (pl ++ ([(.int (own_dgt pt 10000)), (.int (own_dgt pt 1000))] : List Value)).length) < 0 ∨ cl193.slots.size ≤ (Int32.ofNat (pl ++ ([(.int (own_dgt pt 10000)), (.int (own_dgt pt 1000))] : List Value)).length).toNatClampNeg) := inb_of S193 ⟨own_ofnn (by omega), own_oflt (j := 11) (by omega) (by omega)⟩
      obtain ⟨T193, h193, X193, e193, W193, st193⟩ := stC X188 hx hZj72 e188 Ar193 (j := (Int32.ofNat (pl ++ ([(.int (own_dgt pt 10000)), (.int (own_dgt pt 1000))] : List Value)).length)) hin193 (g := (mkF m 404 #[iv p0, iv p1, iv p2, iv p3, iv p4, s5, iv c0, iv c1, iv c2, rv va1, rv va2, rv va3, rv ea, s13, iv pt, rv st, s16, iv (Int32.ofNat (pl ++ ([(.int (own_dgt pt 10000)), (.int (own_dgt pt 1000))] : List Value)).length), iv 5] [(.int (own_dgt pt 100)), (.int (Int32.ofNat (pl ++ ([(.int (own_dgt pt 10000)), (.int (own_dgt pt 1000))] : List Value)).length)), (.ref ea)])) rfl rfl (hb hby at_404)
      have C194 : CHr Z own_EL s.vm h0 vmj72 h193 := C189.trans (CHr.wr W193 (Safe.arv hZj72.alike Vp192 (by decide)) C189.1)
      have N193 := Fr.snoc X193 N188 ge_ea
      have V193 : Arv Z h193 ea k40 .char (11 : Int32) ((own_row (pl ++ ([(.int (own_dgt pt 10000)), (.int (own_dgt pt 1000))] : List Value)) 1 []).set ((pl ++ ([(.int (own_dgt pt 10000)), (.int (own_dgt pt 1000))] : List Value)).length + 0) (.int (nar .char (own_dgt pt 100)))) (.int 0) := Arv.set Ar193 q193 S193 M193 H193 G193 (fits_nar_char _) W193 ((pl ++ ([(.int (own_dgt pt 10000)), (.int (own_dgt pt 1000))] : List Value)).length + 0) (own_ofn (by omega)) (by rw [own_row_len]; omega)
      refine Go.by st193 ?_
      show Go _ _ _ _ T193 (mkF m 405 #[iv p0, iv p1, iv p2, iv p3, iv p4, s5, iv c0, iv c1, iv c2, rv va1, rv va2, rv va3, rv ea, s13, iv pt, rv st, s16, iv (Int32.ofNat (pl ++ ([(.int (own_dgt pt 10000)), (.int (own_dgt pt 1000))] : List Value)).length), iv 5] [])
      have Vx192 : Arv Z h193 ea k40 .char (11 : Int32) (pl ++ ([(.int (own_dgt pt 10000)), (.int (own_dgt pt 1000)), (.int (own_dgt pt 100))] : List Value)) (.int 0) := by have v_ := V193; rw [own_row_set, own_row_snoc, own_ncb (own_dgt_b pt 100).1 (own_dgt_b pt 100).2] at v_; exact v_
      have hX192 : (pl ++ ([(.int (own_dgt pt 10000)), (.int (own_dgt pt 1000)), (.int (own_dgt pt 100))] : List Value)).length = pl.length + 3 := by rw [List.length_append]; rfl
      refine Go.iinc 408 X193 hx (1 : Int32) (L' := #[iv p0, iv p1, iv p2, iv p3, iv p4, s5, iv c0, iv c1, iv c2, rv va1, rv va2, rv va3, rv ea, s13, iv pt, rv st, s16, iv ((Int32.ofNat (pl ++ ([(.int (own_dgt pt 10000)), (.int (own_dgt pt 1000))] : List Value)).length) + (1 : Int32)), iv 5]) (hb hby at_405) (by decide) rfl rfl rfl ?_
      rw [show Int32.ofNat (pl ++ ([(.int (own_dgt pt 10000)), (.int (own_dgt pt 1000))] : List Value)).length + (1 : Int32) = Int32.ofNat (pl ++ ([(.int (own_dgt pt 10000)), (.int (own_dgt pt 1000)), (.int (own_dgt pt 100))] : List Value)).length from own_inc ([(.int (own_dgt pt 10000)), (.int (own_dgt pt 1000))] : List Value) (.int (own_dgt pt 100))]
      show Go _ _ _ _ T193 (mkF m 408 #[iv p0, iv p1, iv p2, iv p3, iv p4, s5, iv c0, iv c1, iv c2, rv va1, rv va2, rv va3, rv ea, s13, iv pt, rv st, s16, iv (Int32.ofNat (pl ++ ([(.int (own_dgt pt 10000)), (.int (own_dgt pt 1000)), (.int (own_dgt pt 100))] : List Value)).length), iv 5] [])
      refine Go.iload2 410 X193 hx (hb hby at_408) rfl rfl ?_
      refine Go.iconst 411 X193 hx (2 : Int32) (hb hby at_410) (by decide) rfl ?_
      refine Go.icmpN 414 X193 hx (hb hby at_411) (XT.ii_lt_f (by decide)) rfl ?_
      refine Go.aload2 416 X193 hx (hb hby at_414) rfl rfl rfl ?_
      refine Go.iload2 418 X193 hx (hb hby at_416) rfl rfl ?_
      refine Go.bipush 420 X193 hx (48 : Int32) (hb hby at_418) (by decide) rfl ?_
      refine Go.iload2 422 X193 hx (hb hby at_420) rfl rfl ?_
      refine Go.bipush 424 X193 hx (10 : Int32) (hb hby at_422) (by decide) rfl ?_
      refine Go.idiv 425 X193 hx (hb hby at_424) (by decide) rfl ?_
      obtain ⟨n195, h_n195⟩ : ∃ z, z = (pt / (10 : Int32)) := ⟨_, rfl⟩
      rw [← h_n195]
      show Go _ _ _ _ T193 (mkF m 425 #[iv p0, iv p1, iv p2, iv p3, iv p4, s5, iv c0, iv c1, iv c2, rv va1, rv va2, rv va3, rv ea, s13, iv pt, rv st, s16, iv (Int32.ofNat (pl ++ ([(.int (own_dgt pt 10000)), (.int (own_dgt pt 1000)), (.int (own_dgt pt 100))] : List Value)).length), iv 5] [(.int n195), (.int 48), (.int (Int32.ofNat (pl ++ ([(.int (own_dgt pt 10000)), (.int (own_dgt pt 1000)), (.int (own_dgt pt 100))] : List Value)).length)), (.ref ea)])
      have e_n195 : n195.toInt = pt.toInt / 10 := by rw [h_n195]; exact (x_idiv 10 (by decide) (by decide)).1 (by omega)
      refine Go.bipush 427 X193 hx (10 : Int32) (hb hby at_425) (by decide) rfl ?_
      refine Go.irem 428 X193 hx (hb hby at_427) (by decide) rfl ?_
      obtain ⟨n196, h_n196⟩ : ∃ z, z = (n195 - n195 / (10 : Int32) * (10 : Int32)) := ⟨_, rfl⟩
      rw [← h_n196]
      show Go _ _ _ _ T193 (mkF m 428 #[iv p0, iv p1, iv p2, iv p3, iv p4, s5, iv c0, iv c1, iv c2, rv va1, rv va2, rv va3, rv ea, s13, iv pt, rv st, s16, iv (Int32.ofNat (pl ++ ([(.int (own_dgt pt 10000)), (.int (own_dgt pt 1000)), (.int (own_dgt pt 100))] : List Value)).length), iv 5] [(.int n196), (.int 48), (.int (Int32.ofNat (pl ++ ([(.int (own_dgt pt 10000)), (.int (own_dgt pt 1000)), (.int (own_dgt pt 100))] : List Value)).length)), (.ref ea)])
      have e_n196 : n196.toInt = n195.toInt % 10 := by rw [h_n196]; exact (x_irem 10 (by decide)).1 (by omega)
      refine Go.iadd 429 X193 hx (hb hby at_428) rfl ?_
      refine Go.i2c 430 X193 hx (hb hby at_429) rfl ?_
      rw [(own_ld (v := n196) 10 hp (by omega) : (((48 : Int32) + n196).toUInt32.toUInt16.toUInt32.toInt32) = own_dgt pt 10)]
      show Go _ _ _ _ T193 (mkF m 430 #[iv p0, iv p1, iv p2, iv p3, iv p4, s5, iv c0, iv c1, iv c2, rv va1, rv va2, rv va3, rv ea, s13, iv pt, rv st, s16, iv (Int32.ofNat (pl ++ ([(.int (own_dgt pt 10000)), (.int (own_dgt pt 1000)), (.int (own_dgt pt 100))] : List Value)).length), iv 5] [(.int (own_dgt pt 10)), (.int (Int32.ofNat (pl ++ ([(.int (own_dgt pt 10000)), (.int (own_dgt pt 1000)), (.int (own_dgt pt 100))] : List Value)).length)), (.ref ea)])
      have Vp197 : Arv Z h193 ea k40 .char (11 : Int32) (own_row (pl ++ ([(.int (own_dgt pt 10000)), (.int (own_dgt pt 1000)), (.int (own_dgt pt 100))] : List Value)) 1 []) (.int 0) := own_row_inC 1 Vx192
      obtain ⟨cl198, Ar198, q198, S198, M198, H198, G198⟩ := id Vp197
      have hin198 : ¬ ((Int32.ofNat (pl ++ ([(.int (own_dgt pt 10000)), (.int (own_dgt pt 1000)), (.int (own_dgt pt 100))] : List Value)).length) < 0 ∨ cl198.slots.size ≤ (Int32.ofNat (pl ++ ([(.int (own_dgt pt 10000)), (.int (own_dgt pt 1000)), (.int (own_dgt pt 100))] : List Value)).length).toNatClampNeg) := inb_of S198 ⟨own_ofnn (by omega), own_oflt (j := 11) (by omega) (by omega)⟩
      obtain ⟨T198, h198, X198, e198, W198, st198⟩ := stC X193 hx hZj72 e193 Ar198 (j := (Int32.ofNat (pl ++ ([(.int (own_dgt pt 10000)), (.int (own_dgt pt 1000)), (.int (own_dgt pt 100))] : List Value)).length)) hin198 (g := (mkF m 430 #[iv p0, iv p1, iv p2, iv p3, iv p4, s5, iv c0, iv c1, iv c2, rv va1, rv va2, rv va3, rv ea, s13, iv pt, rv st, s16, iv (Int32.ofNat (pl ++ ([(.int (own_dgt pt 10000)), (.int (own_dgt pt 1000)), (.int (own_dgt pt 100))] : List Value)).length), iv 5] [(.int (own_dgt pt 10)), (.int (Int32.ofNat (pl ++ ([(.int (own_dgt pt 10000)), (.int (own_dgt pt 1000)), (.int (own_dgt pt 100))] : List Value)).length)), (.ref ea)])) rfl rfl (hb hby at_430)
      have C199 : CHr Z own_EL s.vm h0 vmj72 h198 := C194.trans (CHr.wr W198 (Safe.arv hZj72.alike Vp197 (by decide)) C194.1)
      have N198 := Fr.snoc X198 N193 ge_ea
      have V198 : Arv Z h198 ea k40 .char (11 : Int32) ((own_row (pl ++ ([(.int (own_dgt pt 10000)), (.int (own_dgt pt 1000)), (.int (own_dgt pt 100))] : List Value)) 1 []).set ((pl ++ ([(.int (own_dgt pt 10000)), (.int (own_dgt pt 1000)), (.int (own_dgt pt 100))] : List Value)).length + 0) (.int (nar .char (own_dgt pt 10)))) (.int 0) := Arv.set Ar198 q198 S198 M198 H198 G198 (fits_nar_char _) W198 ((pl ++ ([(.int (own_dgt pt 10000)), (.int (own_dgt pt 1000)), (.int (own_dgt pt 100))] : List Value)).length + 0) (own_ofn (by omega)) (by rw [own_row_len]; omega)
      refine Go.by st198 ?_
      show Go _ _ _ _ T198 (mkF m 431 #[iv p0, iv p1, iv p2, iv p3, iv p4, s5, iv c0, iv c1, iv c2, rv va1, rv va2, rv va3, rv ea, s13, iv pt, rv st, s16, iv (Int32.ofNat (pl ++ ([(.int (own_dgt pt 10000)), (.int (own_dgt pt 1000)), (.int (own_dgt pt 100))] : List Value)).length), iv 5] [])
      have Vx197 : Arv Z h198 ea k40 .char (11 : Int32) (pl ++ ([(.int (own_dgt pt 10000)), (.int (own_dgt pt 1000)), (.int (own_dgt pt 100)), (.int (own_dgt pt 10))] : List Value)) (.int 0) := by have v_ := V198; rw [own_row_set, own_row_snoc, own_ncb (own_dgt_b pt 10).1 (own_dgt_b pt 10).2] at v_; exact v_
      have hX197 : (pl ++ ([(.int (own_dgt pt 10000)), (.int (own_dgt pt 1000)), (.int (own_dgt pt 100)), (.int (own_dgt pt 10))] : List Value)).length = pl.length + 4 := by rw [List.length_append]; rfl
      refine Go.iinc 434 X198 hx (1 : Int32) (L' := #[iv p0, iv p1, iv p2, iv p3, iv p4, s5, iv c0, iv c1, iv c2, rv va1, rv va2, rv va3, rv ea, s13, iv pt, rv st, s16, iv ((Int32.ofNat (pl ++ ([(.int (own_dgt pt 10000)), (.int (own_dgt pt 1000)), (.int (own_dgt pt 100))] : List Value)).length) + (1 : Int32)), iv 5]) (hb hby at_431) (by decide) rfl rfl rfl ?_
      rw [show Int32.ofNat (pl ++ ([(.int (own_dgt pt 10000)), (.int (own_dgt pt 1000)), (.int (own_dgt pt 100))] : List Value)).length + (1 : Int32) = Int32.ofNat (pl ++ ([(.int (own_dgt pt 10000)), (.int (own_dgt pt 1000)), (.int (own_dgt pt 100)), (.int (own_dgt pt 10))] : List Value)).length from own_inc ([(.int (own_dgt pt 10000)), (.int (own_dgt pt 1000)), (.int (own_dgt pt 100))] : List Value) (.int (own_dgt pt 10))]
      show Go _ _ _ _ T198 (mkF m 434 #[iv p0, iv p1, iv p2, iv p3, iv p4, s5, iv c0, iv c1, iv c2, rv va1, rv va2, rv va3, rv ea, s13, iv pt, rv st, s16, iv (Int32.ofNat (pl ++ ([(.int (own_dgt pt 10000)), (.int (own_dgt pt 1000)), (.int (own_dgt pt 100)), (.int (own_dgt pt 10))] : List Value)).length), iv 5] [])
      refine Go.aload2 436 X198 hx (hb hby at_434) rfl rfl rfl ?_
      refine Go.iload2 438 X198 hx (hb hby at_436) rfl rfl ?_
      refine Go.bipush 440 X198 hx (48 : Int32) (hb hby at_438) (by decide) rfl ?_
      refine Go.iload2 442 X198 hx (hb hby at_440) rfl rfl ?_
      refine Go.bipush 444 X198 hx (10 : Int32) (hb hby at_442) (by decide) rfl ?_
      refine Go.irem 445 X198 hx (hb hby at_444) (by decide) rfl ?_
      obtain ⟨n200, h_n200⟩ : ∃ z, z = (pt - pt / (10 : Int32) * (10 : Int32)) := ⟨_, rfl⟩
      rw [← h_n200]
      show Go _ _ _ _ T198 (mkF m 445 #[iv p0, iv p1, iv p2, iv p3, iv p4, s5, iv c0, iv c1, iv c2, rv va1, rv va2, rv va3, rv ea, s13, iv pt, rv st, s16, iv (Int32.ofNat (pl ++ ([(.int (own_dgt pt 10000)), (.int (own_dgt pt 1000)), (.int (own_dgt pt 100)), (.int (own_dgt pt 10))] : List Value)).length), iv 5] [(.int n200), (.int 48), (.int (Int32.ofNat (pl ++ ([(.int (own_dgt pt 10000)), (.int (own_dgt pt 1000)), (.int (own_dgt pt 100)), (.int (own_dgt pt 10))] : List Value)).length)), (.ref ea)])
      have e_n200 : n200.toInt = pt.toInt % 10 := by rw [h_n200]; exact (x_irem 10 (by decide)).1 (by omega)
      refine Go.iadd 446 X198 hx (hb hby at_445) rfl ?_
      refine Go.i2c 447 X198 hx (hb hby at_446) rfl ?_
      rw [(own_ld (v := n200) 1 hp (by omega) : (((48 : Int32) + n200).toUInt32.toUInt16.toUInt32.toInt32) = own_dgt pt 1)]
      show Go _ _ _ _ T198 (mkF m 447 #[iv p0, iv p1, iv p2, iv p3, iv p4, s5, iv c0, iv c1, iv c2, rv va1, rv va2, rv va3, rv ea, s13, iv pt, rv st, s16, iv (Int32.ofNat (pl ++ ([(.int (own_dgt pt 10000)), (.int (own_dgt pt 1000)), (.int (own_dgt pt 100)), (.int (own_dgt pt 10))] : List Value)).length), iv 5] [(.int (own_dgt pt 1)), (.int (Int32.ofNat (pl ++ ([(.int (own_dgt pt 10000)), (.int (own_dgt pt 1000)), (.int (own_dgt pt 100)), (.int (own_dgt pt 10))] : List Value)).length)), (.ref ea)])
      have Vp201 : Arv Z h198 ea k40 .char (11 : Int32) (own_row (pl ++ ([(.int (own_dgt pt 10000)), (.int (own_dgt pt 1000)), (.int (own_dgt pt 100)), (.int (own_dgt pt 10))] : List Value)) 1 []) (.int 0) := own_row_inC 1 Vx197
      obtain ⟨cl202, Ar202, q202, S202, M202, H202, G202⟩ := id Vp201
      have hin202 : ¬ ((Int32.ofNat (pl ++ ([(.int (own_dgt pt 10000)), (.int (own_dgt pt 1000)), (.int (own_dgt pt 100)), (.int (own_dgt pt 10))] : List Value)).length) < 0 ∨ cl202.slots.size ≤ (Int32.ofNat (pl ++ ([(.int (own_dgt pt 10000)), (.int (own_dgt pt 1000)), (.int (own_dgt pt 100)), (.int (own_dgt pt 10))] : List Value)).length).toNatClampNeg) := inb_of S202 ⟨own_ofnn (by omega), own_oflt (j := 11) (by omega) (by omega)⟩
      obtain ⟨T202, h202, X202, e202, W202, st202⟩ := stC X198 hx hZj72 e198 Ar202 (j := (Int32.ofNat (pl ++ ([(.int (own_dgt pt 10000)), (.int (own_dgt pt 1000)), (.int (own_dgt pt 100)), (.int (own_dgt pt 10))] : List Value)).length)) hin202 (g := (mkF m 447 #[iv p0, iv p1, iv p2, iv p3, iv p4, s5, iv c0, iv c1, iv c2, rv va1, rv va2, rv va3, rv ea, s13, iv pt, rv st, s16, iv (Int32.ofNat (pl ++ ([(.int (own_dgt pt 10000)), (.int (own_dgt pt 1000)), (.int (own_dgt pt 100)), (.int (own_dgt pt 10))] : List Value)).length), iv 5] [(.int (own_dgt pt 1)), (.int (Int32.ofNat (pl ++ ([(.int (own_dgt pt 10000)), (.int (own_dgt pt 1000)), (.int (own_dgt pt 100)), (.int (own_dgt pt 10))] : List Value)).length)), (.ref ea)])) rfl rfl (hb hby at_447)
      have C203 : CHr Z own_EL s.vm h0 vmj72 h202 := C199.trans (CHr.wr W202 (Safe.arv hZj72.alike Vp201 (by decide)) C199.1)
      have N202 := Fr.snoc X202 N198 ge_ea
      have V202 : Arv Z h202 ea k40 .char (11 : Int32) ((own_row (pl ++ ([(.int (own_dgt pt 10000)), (.int (own_dgt pt 1000)), (.int (own_dgt pt 100)), (.int (own_dgt pt 10))] : List Value)) 1 []).set ((pl ++ ([(.int (own_dgt pt 10000)), (.int (own_dgt pt 1000)), (.int (own_dgt pt 100)), (.int (own_dgt pt 10))] : List Value)).length + 0) (.int (nar .char (own_dgt pt 1)))) (.int 0) := Arv.set Ar202 q202 S202 M202 H202 G202 (fits_nar_char _) W202 ((pl ++ ([(.int (own_dgt pt 10000)), (.int (own_dgt pt 1000)), (.int (own_dgt pt 100)), (.int (own_dgt pt 10))] : List Value)).length + 0) (own_ofn (by omega)) (by rw [own_row_len]; omega)
      refine Go.by st202 ?_
      show Go _ _ _ _ T202 (mkF m 448 #[iv p0, iv p1, iv p2, iv p3, iv p4, s5, iv c0, iv c1, iv c2, rv va1, rv va2, rv va3, rv ea, s13, iv pt, rv st, s16, iv (Int32.ofNat (pl ++ ([(.int (own_dgt pt 10000)), (.int (own_dgt pt 1000)), (.int (own_dgt pt 100)), (.int (own_dgt pt 10))] : List Value)).length), iv 5] [])
      have Vx201 : Arv Z h202 ea k40 .char (11 : Int32) (pl ++ ([(.int (own_dgt pt 10000)), (.int (own_dgt pt 1000)), (.int (own_dgt pt 100)), (.int (own_dgt pt 10)), (.int (own_dgt pt 1))] : List Value)) (.int 0) := by have v_ := V202; rw [own_row_set, own_row_snoc, own_ncb (own_dgt_b pt 1).1 (own_dgt_b pt 1).2] at v_; exact v_
      have hX201 : (pl ++ ([(.int (own_dgt pt 10000)), (.int (own_dgt pt 1000)), (.int (own_dgt pt 100)), (.int (own_dgt pt 10)), (.int (own_dgt pt 1))] : List Value)).length = pl.length + 5 := by rw [List.length_append]; rfl
      refine Go.iinc 451 X202 hx (1 : Int32) (L' := #[iv p0, iv p1, iv p2, iv p3, iv p4, s5, iv c0, iv c1, iv c2, rv va1, rv va2, rv va3, rv ea, s13, iv pt, rv st, s16, iv ((Int32.ofNat (pl ++ ([(.int (own_dgt pt 10000)), (.int (own_dgt pt 1000)), (.int (own_dgt pt 100)), (.int (own_dgt pt 10))] : List Value)).length) + (1 : Int32)), iv 5]) (hb hby at_448) (by decide) rfl rfl rfl ?_
      rw [show Int32.ofNat (pl ++ ([(.int (own_dgt pt 10000)), (.int (own_dgt pt 1000)), (.int (own_dgt pt 100)), (.int (own_dgt pt 10))] : List Value)).length + (1 : Int32) = Int32.ofNat (pl ++ ([(.int (own_dgt pt 10000)), (.int (own_dgt pt 1000)), (.int (own_dgt pt 100)), (.int (own_dgt pt 10)), (.int (own_dgt pt 1))] : List Value)).length from own_inc ([(.int (own_dgt pt 10000)), (.int (own_dgt pt 1000)), (.int (own_dgt pt 100)), (.int (own_dgt pt 10))] : List Value) (.int (own_dgt pt 1))]
      show Go _ _ _ _ T202 (mkF m 451 #[iv p0, iv p1, iv p2, iv p3, iv p4, s5, iv c0, iv c1, iv c2, rv va1, rv va2, rv va3, rv ea, s13, iv pt, rv st, s16, iv (Int32.ofNat (pl ++ ([(.int (own_dgt pt 10000)), (.int (own_dgt pt 1000)), (.int (own_dgt pt 100)), (.int (own_dgt pt 10)), (.int (own_dgt pt 1))] : List Value)).length), iv 5] [])
      have F204 : Keep H72 h183 [ea] := (Keep.refl H72 [ea]).wr W183 (Or.inl (List.mem_of_getElem? (i := 0) rfl))
      have F205 : Keep H72 h188 [ea] := F204.wr W188 (Or.inl (List.mem_of_getElem? (i := 0) rfl))
      have F206 : Keep H72 h193 [ea] := F205.wr W193 (Or.inl (List.mem_of_getElem? (i := 0) rfl))
      have F207 : Keep H72 h198 [ea] := F206.wr W198 (Or.inl (List.mem_of_getElem? (i := 0) rfl))
      have F208 : Keep H72 h202 [ea] := F207.wr W202 (Or.inl (List.mem_of_getElem? (i := 0) rfl))
      have F209 : Exa Z h202 st "java/lang/String" := Fj72_0.keep F208
      have F210 : Fld Z h202 st "java/lang/String" "coder" "B" (.int 0) := Fj72_1.keep F208 (ninS Fj72_6 nin0)
      have F211 : Fld Z h202 st "java/lang/String" "value" "[B" (.ref sv) := Fj72_2.keep F208 (ninS Fj72_6 nin0)
      have F212 : Arv Z h202 sv ksv .byte (Int32.ofNat (sl ++ own_dg pt).length) (sl ++ own_dg pt) (.int 0) := Fj72_3.keep F208 (ninS Fj72_5 nin0)
      have hY : (sl ++ ([(.int (own_dgt pt 10000)), (.int (own_dgt pt 1000)), (.int (own_dgt pt 100)), (.int (own_dgt pt 10)), (.int (own_dgt pt 1))] : List Value)).length = (pl ++ ([(.int (own_dgt pt 10000)), (.int (own_dgt pt 1000)), (.int (own_dgt pt 100)), (.int (own_dgt pt 10)), (.int (own_dgt pt 1))] : List Value)).length := by rw [List.length_append, List.length_append, hls]
      have Vd : Arv Z h202 sv ksv .byte (Int32.ofNat (pl ++ ([(.int (own_dgt pt 10000)), (.int (own_dgt pt 1000)), (.int (own_dgt pt 100)), (.int (own_dgt pt 10)), (.int (own_dgt pt 1))] : List Value)).length) (sl ++ ([(.int (own_dgt pt 10000)), (.int (own_dgt pt 1000)), (.int (own_dgt pt 100)), (.int (own_dgt pt 10)), (.int (own_dgt pt 1))] : List Value)) (.int 0) := by have v_ := F212; rw [hd, hY] at v_; exact v_
      have F213 : n0 ≤ h183.size := Nat.le_trans Zj72 (Nat.le_of_eq (Wr.size W183).symm)
      have F214 : n0 ≤ h188.size := Nat.le_trans F213 (Nat.le_of_eq (Wr.size W188).symm)
      have F215 : n0 ≤ h193.size := Nat.le_trans F214 (Nat.le_of_eq (Wr.size W193).symm)
      have F216 : n0 ≤ h198.size := Nat.le_trans F215 (Nat.le_of_eq (Wr.size W198).symm)
      have F217 : n0 ≤ h202.size := Nat.le_trans F216 (Nat.le_of_eq (Wr.size W202).symm)
      have F218 : Old Z n0 h183 := Oj72.wr W183 ge_ea
      have F219 : Old Z n0 h188 := F218.wr W188 ge_ea
      have F220 : Old Z n0 h193 := F219.wr W193 ge_ea
      have F221 : Old Z n0 h198 := F220.wr W198 ge_ea
      have F222 : Old Z n0 h202 := F221.wr W202 ge_ea
      have F223 : nk72 ≤ h183.size := Nat.le_trans hkj72 (Nat.le_of_eq (Wr.size W183).symm)
      have F224 : nk72 ≤ h188.size := Nat.le_trans F223 (Nat.le_of_eq (Wr.size W188).symm)
      have F225 : nk72 ≤ h193.size := Nat.le_trans F224 (Nat.le_of_eq (Wr.size W193).symm)
      have F226 : nk72 ≤ h198.size := Nat.le_trans F225 (Nat.le_of_eq (Wr.size W198).symm)
      have F227 : nk72 ≤ h202.size := Nat.le_trans F226 (Nat.le_of_eq (Wr.size W202).symm)
      exact J59 _ _ _ _ _ st sv ksv (sl ++ ([(.int (own_dgt pt 10000)), (.int (own_dgt pt 1000)), (.int (own_dgt pt 100)), (.int (own_dgt pt 10)), (.int (own_dgt pt 1))] : List Value)) (pl ++ ([(.int (own_dgt pt 10000)), (.int (own_dgt pt 1000)), (.int (own_dgt pt 100)), (.int (own_dgt pt 10)), (.int (own_dgt pt 1))] : List Value)) ((pl ++ ([(.int (own_dgt pt 10000)), (.int (own_dgt pt 1000)), (.int (own_dgt pt 100)), (.int (own_dgt pt 10)), (.int (own_dgt pt 1))] : List Value)).length) s5 s13 (iv pt) s16 (iv 5) (X202.more (by decide) (by decide)) e202 N202 F217 F222 C203 F227 hSj72 hZj72 hownj72 F209 F210 F211 Vd Vx201 (by rw [hX201]; exact own_says_app hsay0 hls rfl (own_sC (own_pd pt 10000) (own_sC (own_pd pt 1000) (own_sC (own_pd pt 100) (own_sC (own_pd pt 10) (own_sC (own_pd pt 1) own_s0)))))) (by rw [hX201]; omega)
  have J228 : ∀ (T228 : State) (lc228 : List Loc) (H228 : Heap) (vmj228 : Vm) (nk228 : Nat) (hs : Addr) (hv : Addr) (hk : ClassId) (hl : List Value), (Stand p l e room_1 (s.setVm vmj228) m #[(.int p0), (.int p1), (.int p2), (.int p3), (.int p4)] below meth c T228 lc228 12 100) → (T228.heap = H228) → (Fr n0 lc228) → (n0 ≤ H228.size) → (Old Z n0 H228) → (CHr Z own_EL s.vm h0 vmj228 H228) → (nk228 ≤ H228.size) → (s.Since vmj228 nk228) → (Z.Warmed39 (s.setVm vmj228).vm) → ((s.setVm vmj228).vm.findClass "com/example/entries_to_nodes/entriestonodes/component/ServerAddressToStringPinLaw" = some m.cls) → (Exa Z H228 hs "java/lang/String") → (Fld Z H228 hs "java/lang/String" "coder" "B" (.int 0)) → (Fld Z H228 hs "java/lang/String" "value" "[B" (.ref hv)) → (Arv Z H228 hv hk .byte (Int32.ofNat hl.length) hl (.int 0)) → (Arv Z H228 ea k40 .char (11 : Int32) ([(.int 0), (.int 0), (.int 0), (.int 0), (.int 0), (.int 0), (.int 0), (.int 0), (.int 0), (.int 0), (.int 0)]) (.int 0)) → (own_hc nn c0 c1 c2 hl) → Go p e below (EndW Z own_EL s (Q_rm0 Z p0 p1 p2 p3 p4 cs d1 d2 kd1 kd2 sf h0 n0) 48 3328) T228 (mkF m 124 #[iv p0, iv p1, iv p2, iv p3, iv p4, iv nn, iv c0, iv c1, iv c2, rv va1, rv va2, rv va3, rv ea, un, un, un, un, un, un] [(.ref hs)]) := by
    intro T228 lc228 H228 vmj228 nk228 hs hv hk hl X228 e228 N228 Zj228 Oj228 C228 hkj228 hSj228 hZj228 hownj228 Fj228_0 Fj228_1 Fj228_2 Fj228_3 Fj228_4 hcs
    show Go _ _ _ _ T228 (mkF m 124 #[iv p0, iv p1, iv p2, iv p3, iv p4, iv nn, iv c0, iv c1, iv c2, rv va1, rv va2, rv va3, rv ea, un, un, un, un, un, un] [(.ref hs)])
    refine Go.astore2 126 X228 hx (L' := #[iv p0, iv p1, iv p2, iv p3, iv p4, iv nn, iv c0, iv c1, iv c2, rv va1, rv va2, rv va3, rv ea, rv hs, un, un, un, un, un]) (hb hby at_124) rfl rfl rfl ?_
    refine Go.iconst 127 X228 hx (1 : Int32) (hb hby at_126) (by decide) rfl ?_
    refine Go.iload2 129 X228 hx (hb hby at_127) rfl rfl ?_
    refine Go.by (fun _ gk => X228.ldcI hx hownj228 (mvT hZj228 (ow hw 0 rfl)) (g := (mkF m 129 #[iv p0, iv p1, iv p2, iv p3, iv p4, iv nn, iv c0, iv c1, iv c2, rv va1, rv va2, rv va3, rv ea, rv hs, un, un, un, un, un] [(.int p4), (.int 1)])) rfl (hb hby at_129) gk) ?_
    show Go _ _ _ _ T228 (mkF m 131 #[iv p0, iv p1, iv p2, iv p3, iv p4, iv nn, iv c0, iv c1, iv c2, rv va1, rv va2, rv va3, rv ea, rv hs, un, un, un, un, un] [(.int 2147483647), (.int p4), (.int 1)])
    refine Go.iand 132 X228 hx (hb hby at_131) rfl ?_
    refine Go.by (fun _ gk => X228.ldcI hx hownj228 (mvT hZj228 (ow hw 35 rfl)) (g := (mkF m 132 #[iv p0, iv p1, iv p2, iv p3, iv p4, iv nn, iv c0, iv c1, iv c2, rv va1, rv va2, rv va3, rv ea, rv hs, un, un, un, un, un] [(.int (p4 &&& (2147483647 : Int32))), (.int 1)])) rfl (hb hby at_132) gk) ?_
    show Go _ _ _ _ T228 (mkF m 134 #[iv p0, iv p1, iv p2, iv p3, iv p4, iv nn, iv c0, iv c1, iv c2, rv va1, rv va2, rv va3, rv ea, rv hs, un, un, un, un, un] [(.int 65535), (.int (p4 &&& (2147483647 : Int32))), (.int 1)])
    refine Go.irem 135 X228 hx (hb hby at_134) (by decide) rfl ?_
    refine Go.iadd 136 X228 hx (hb hby at_135) rfl ?_
    refine Go.istore2 138 X228 hx (L' := #[iv p0, iv p1, iv p2, iv p3, iv p4, iv nn, iv c0, iv c1, iv c2, rv va1, rv va2, rv va3, rv ea, rv hs, iv ((1 : Int32) + ((p4 &&& (2147483647 : Int32)) - (p4 &&& (2147483647 : Int32)) / (65535 : Int32) * (65535 : Int32))), un, un, un, un]) (hb hby at_136) rfl rfl ?_
    obtain ⟨pt, h_pt⟩ : ∃ z, z = ((1 : Int32) + ((p4 &&& (2147483647 : Int32)) - (p4 &&& (2147483647 : Int32)) / (65535 : Int32) * (65535 : Int32))) := ⟨_, rfl⟩
    rw [← h_pt]
    show Go _ _ _ _ T228 (mkF m 138 #[iv p0, iv p1, iv p2, iv p3, iv p4, iv nn, iv c0, iv c1, iv c2, rv va1, rv va2, rv va3, rv ea, rv hs, iv pt, un, un, un, un] [])
    have hp := own_port h_pt
    have hho := own_hc_host hcs
    obtain ⟨sa, g229⟩ : ∃ z, z = H228.size := ⟨_, rfl⟩
    have ge_sa : n0 ≤ sa := Nat.le_trans Zj228 (Nat.le_of_eq g229.symm)
    have ne_ea_sa : ea ≠ sa := Nat.ne_of_lt (Nat.lt_of_lt_of_le Fj228_4.lt (Nat.le_of_eq g229.symm))
    have ne_hs_sa : hs ≠ sa := Nat.ne_of_lt (Nat.lt_of_lt_of_le Fj228_0.lt (Nat.le_of_eq g229.symm))
    have ne_hv_sa : hv ≠ sa := Nat.ne_of_lt (Nat.lt_of_lt_of_le Fj228_3.lt (Nat.le_of_eq g229.symm))
    obtain ⟨T229, h229, X229, e229, E229, A229, D229, -, st229⟩ := newO X228 hx hZj228 hownj228 (ow hw 36 rfl) (ow hw 37 rfl) (ow hw 38 rfl) e228 (g := (mkF m 138 #[iv p0, iv p1, iv p2, iv p3, iv p4, iv nn, iv c0, iv c1, iv c2, rv va1, rv va2, rv va3, rv ea, rv hs, iv pt, un, un, un, un] [])) rfl (hb hby at_138) (by decide) (by decide)
    rw [← g229] at A229 D229 st229
    have C230 : CHr Z own_EL s.vm h0 vmj228 h229 := C228.trans (CHr.ext E229 C228.1)
    have F_host_sa : Fld Z h229 sa "com/example/entries_to_nodes/entriestonodes/component/ServerAddress" "host" "Ljava/lang/String;" .null := D229 (Or.inr (ow hw 50 rfl)) (ty := (.object "java/lang/String")) (by decide)
    have F_port_sa : Fld Z h229 sa "com/example/entries_to_nodes/entriestonodes/component/ServerAddress" "port" "I" (.int 0) := D229 (Or.inr (ow hw 52 rfl)) (ty := .int) (by decide)
    refine Go.by st229 ?_
    show Go _ _ _ _ T229 (mkF m 141 #[iv p0, iv p1, iv p2, iv p3, iv p4, iv nn, iv c0, iv c1, iv c2, rv va1, rv va2, rv va3, rv ea, rv hs, iv pt, un, un, un, un] [(.ref sa)])
    refine Go.dup 142 X229 hx (hb hby at_141) rfl rfl ?_
    refine Go.aload2 144 X229 hx (hb hby at_142) rfl rfl rfl ?_
    refine Go.iload2 146 X229 hx (hb hby at_144) rfl rfl ?_
    have F231 : Exa Z h229 hs "java/lang/String" := Fj228_0.ext E229
    have F232 : Fld Z h229 hs "java/lang/String" "coder" "B" (.int 0) := Fj228_1.ext E229
    have F233 : Fld Z h229 hs "java/lang/String" "value" "[B" (.ref hv) := Fj228_2.ext E229
    have F234 : Arv Z h229 hv hk .byte (Int32.ofNat hl.length) hl (.int 0) := Fj228_3.ext E229
    have F235 : n0 ≤ h229.size := Nat.le_trans Zj228 E229.1
    obtain ⟨_, _, ⟨T236, L236, k236, n236⟩, -, X236, ⟨Lc236, hQ236, l236, y236, z236⟩, st236⟩ := X229.specialBack hx (y := (⟨"com/example/entries_to_nodes/entriestonodes/component/ServerAddress", "<init>", "(Ljava/lang/String;I)V"⟩ : MethodName)) rfl hownj228 (mvT hZj228 (ow hw 39 rfl)) (mvT hZj228 (ow hw 40 rfl)) (mvT hZj228 (ow hw 41 rfl)) (by decide) (backOf (W := 1) (rmSaInit l Z a0 hw [] sa hs hv hk (Int32.ofNat hl.length) hl pt h229 n0 F235 A229 F_host_sa F_port_sa ge_sa F231 F232 F233 F234 hp (own_host0 hho)) hZj228 (ow hw 41 rfl) (ow hw 38 rfl) (by decide) (by decide)) (g := (mkF m 146 #[iv p0, iv p1, iv p2, iv p3, iv p4, iv nn, iv c0, iv c1, iv c2, rv va1, rv va2, rv va3, rv ea, rv hs, iv pt, un, un, un, un] [(.int pt), (.ref hs), (.ref sa), (.ref sa)])) rfl (by rw [hml]; rfl) (Steps.refl _) (a := sa) (argsL := [(.ref hs), (.int pt)]) (rest := [(.ref sa)]) (lenOf pd_604 rfl) rfl (by show 2 * 0 + _ ≤ _; exact Nat.le_of_eq rfl) (hb hby at_146) (fun _ _ => ⟨rfl, e229, (by decide : 13 + 0 ≤ _), (by decide : 102 + 0 ≤ _)⟩)
    dsimp only [Pt.U, Pt.locs, Pt.cells, Pt.slots] at X236 l236 y236 z236 st236 hQ236
    subst l236 y236 z236
    obtain ⟨rfl, N236q, K236, Q236_0, Q236_1, Q236_2⟩ := hQ236
    have N236 := Fr.app N228 N236q
    have C237 : CHr Z own_EL s.vm h0 vmj228 T236.heap := C230.trans (CHr.keep K236 (sfS (Safe.exa hZj228.alike A229 (by decide) (by decide)) sf0) C230.1)
    refine Go.to st236 ?_
    show Go _ _ _ _ T236 (mkF m 149 #[iv p0, iv p1, iv p2, iv p3, iv p4, iv nn, iv c0, iv c1, iv c2, rv va1, rv va2, rv va3, rv ea, rv hs, iv pt, un, un, un, un] [(.ref sa)])
    have F238 : Old Z n0 h229 := Oj228.ext E229
    have F239 : Old Z n0 T236.heap := F238.keep K236 (allS ge_sa all0)
    have F240 : Exa Z T236.heap hs "java/lang/String" := F231.keep K236
    have F241 : Fld Z T236.heap hs "java/lang/String" "coder" "B" (.int 0) := F232.keep K236 (ninS ne_hs_sa nin0)
    have F242 : Fld Z T236.heap hs "java/lang/String" "value" "[B" (.ref hv) := F233.keep K236 (ninS ne_hs_sa nin0)
    have F243 : Arv Z T236.heap hv hk .byte (Int32.ofNat hl.length) hl (.int 0) := F234.keep K236 (ninS ne_hv_sa nin0)
    have F244 : n0 ≤ T236.heap.size := Nat.le_trans F235 K236.1
    have F245 : Arv Z h229 ea k40 .char (11 : Int32) [(.int 0), (.int 0), (.int 0), (.int 0), (.int 0), (.int 0), (.int 0), (.int 0), (.int 0), (.int 0), (.int 0)] (.int 0) := Fj228_4.ext E229
    have F246 : Arv Z T236.heap ea k40 .char (11 : Int32) [(.int 0), (.int 0), (.int 0), (.int 0), (.int 0), (.int 0), (.int 0), (.int 0), (.int 0), (.int 0), (.int 0)] (.int 0) := F245.keep K236 (ninS ne_ea_sa nin0)
    obtain ⟨cq247, kq247, q247a, q247b, q247c⟩ := isOf hZj228 rfl Q236_0
    have F248 : nk228 ≤ h229.size := Nat.le_trans hkj228 E229.1
    have F249 : nk228 ≤ T236.heap.size := Nat.le_trans F248 K236.1
    obtain ⟨_, _, ⟨T247, L247, k247, n247⟩, -, Xq247, hSq247, hgr247, ⟨Lc247, hQ247, l247, y247, z247, CH247⟩, st247⟩ := X236.virtualBackS hx (y := (⟨"com/example/entries_to_nodes/entriestonodes/component/ServerAddress", "toString", "()Ljava/lang/String;"⟩ : MethodName)) (z := (⟨"com/example/entries_to_nodes/entriestonodes/component/ServerAddress", "toString", "()Ljava/lang/String;"⟩ : MethodName)) hownj228 (mvT hZj228 (ow hw 53 rfl)) (mvT hZj228 (ow hw 54 rfl)) (notFace_of_selects (args := #[]) (mvT hZj228 (ow hw 56 rfl))) (mvT hZj228 (ow hw 56 rfl)) (mvT hZj228 (ow hw 55 rfl)) (by decide) (backOfSH (W := 0) (rmTs l Z a0 hw [] sa hs hv hk pt hl cs d1 d2 kd1 kd2 T236.heap n0 F244 F239 Q236_0 Q236_1 Q236_2 F240 F241 F242 F243 hp hho S_cs n_cs S_d1 V_d1 S_d2 V_d2) hZj228 (ow hw 57 rfl) (ow hw 38 rfl) (by decide) (by decide) hEL C237.1) q247a q247c (g := (mkF m 149 #[iv p0, iv p1, iv p2, iv p3, iv p4, iv nn, iv c0, iv c1, iv c2, rv va1, rv va2, rv va3, rv ea, rv hs, iv pt, un, un, un, un] [(.ref sa)])) rfl (by rw [hml]; rfl) (Steps.refl _) (argsL := []) (rest := []) (lenOf pd_525 rfl) rfl (by show 2 * 0 + _ ≤ _; exact Nat.le_of_eq rfl) (hb hby at_149) (fun _ _ => ⟨rfl, rfl, (by decide : 13 + 16 ≤ _), (by decide : 102 + 112 ≤ _)⟩)
    dsimp only [Pt.U, Pt.locs, Pt.cells, Pt.slots] at Xq247 hSq247 hgr247 l247 y247 z247 st247 hQ247 CH247
    subst l247 y247 z247
    obtain ⟨st, sv, ksv, us, rfl, N247q, K247, Q247_0, Q247_1, Q247_2, Q247_3, Q247_4, Q247_5, Q247_6⟩ := hQ247
    have N247 := Fr.app N236 N247q
    obtain ⟨X247, hS247, hZ247, hown247⟩ := rebS hSj228 (by exact F249) Xq247 hSq247 hgr247 hZj228 hownj228
    have C250 : CHr Z own_EL s.vm h0 T247.vm T247.heap := C237.trans CH247
    refine Go.to st247 ?_
    show Go _ _ _ _ T247 (mkF m 152 #[iv p0, iv p1, iv p2, iv p3, iv p4, iv nn, iv c0, iv c1, iv c2, rv va1, rv va2, rv va3, rv ea, rv hs, iv pt, un, un, un, un] [(.ref st)])
    have ge_st : n0 ≤ st := Nat.le_trans F244 Q247_5
    have ne_ea_st : ea ≠ st := Nat.ne_of_lt (Nat.lt_of_lt_of_le F246.lt Q247_5)
    have ne_hs_st : hs ≠ st := Nat.ne_of_lt (Nat.lt_of_lt_of_le F240.lt Q247_5)
    have ne_hv_st : hv ≠ st := Nat.ne_of_lt (Nat.lt_of_lt_of_le F243.lt Q247_5)
    have ne_sa_st : sa ≠ st := Nat.ne_of_lt (Nat.lt_of_lt_of_le Q236_0.lt Q247_5)
    have ge_sv : n0 ≤ sv := Nat.le_trans F244 Q247_6
    have ne_ea_sv : ea ≠ sv := Nat.ne_of_lt (Nat.lt_of_lt_of_le F246.lt Q247_6)
    have ne_hs_sv : hs ≠ sv := Nat.ne_of_lt (Nat.lt_of_lt_of_le F240.lt Q247_6)
    have ne_hv_sv : hv ≠ sv := Nat.ne_of_lt (Nat.lt_of_lt_of_le F243.lt Q247_6)
    have ne_sa_sv : sa ≠ sv := Nat.ne_of_lt (Nat.lt_of_lt_of_le Q236_0.lt Q247_6)
    refine Go.astore2 154 X247 hx (L' := #[iv p0, iv p1, iv p2, iv p3, iv p4, iv nn, iv c0, iv c1, iv c2, rv va1, rv va2, rv va3, rv ea, rv hs, iv pt, rv st, un, un, un]) (hb hby at_152) rfl rfl rfl ?_
    refine Go.iload2 156 X247 hx (hb hby at_154) rfl rfl ?_
    refine Go.bipush 158 X247 hx (58 : Int32) (hb hby at_156) (by decide) rfl ?_
    rcases Q247_4 with ⟨hC, rfl⟩ | ⟨hC, rfl⟩
    · rcases hcs with ⟨rfl, rfl⟩ | ⟨rfl, rfl⟩ | ⟨rfl, rfl⟩
      · show Go _ _ _ _ T247 (mkF m 158 #[iv p0, iv p1, iv p2, iv p3, iv p4, iv 1, iv c0, iv c1, iv c2, rv va1, rv va2, rv va3, rv ea, rv hs, iv pt, rv st, un, un, un] [(.int 58), (.int c0)])
        refine Go.join (α := Int32) (P := fun co => co = 1) (fr := fun co => (mkF m 192 #[iv p0, iv p1, iv p2, iv p3, iv p4, iv 1, iv c0, iv c1, iv c2, rv va1, rv va2, rv va3, rv ea, rv hs, iv pt, rv st, un, un, un] [(.int co)])) ?_ ?_
        · intro co h_co
          show Go _ _ _ _ T247 (mkF m 192 #[iv p0, iv p1, iv p2, iv p3, iv p4, iv 1, iv c0, iv c1, iv c2, rv va1, rv va2, rv va3, rv ea, rv hs, iv pt, rv st, un, un, un] [(.int co)])
          subst h_co
          show Go _ _ _ _ T247 (mkF m 192 #[iv p0, iv p1, iv p2, iv p3, iv p4, iv 1, iv c0, iv c1, iv c2, rv va1, rv va2, rv va3, rv ea, rv hs, iv pt, rv st, un, un, un] [(.int 1)])
          refine Go.istore2 194 X247 hx (L' := #[iv p0, iv p1, iv p2, iv p3, iv p4, iv 1, iv c0, iv c1, iv c2, rv va1, rv va2, rv va3, rv ea, rv hs, iv pt, rv st, iv 1, un, un]) (hb hby at_192) rfl rfl ?_
          refine Go.iconst 195 X247 hx (0 : Int32) (hb hby at_194) (by decide) rfl ?_
          refine Go.istore2 197 X247 hx (L' := #[iv p0, iv p1, iv p2, iv p3, iv p4, iv 1, iv c0, iv c1, iv c2, rv va1, rv va2, rv va3, rv ea, rv hs, iv pt, rv st, iv 1, iv 0, un]) (hb hby at_195) rfl rfl ?_
          refine Go.iload2 199 X247 hx (hb hby at_197) rfl rfl ?_
          refine Go.ifN 202 X247 hx (hb hby at_199) (XT.i0_eq_f (by decide)) rfl ?_
          refine Go.aload2 204 X247 hx (hb hby at_202) rfl rfl rfl ?_
          refine Go.iload2 206 X247 hx (hb hby at_204) rfl rfl ?_
          refine Go.bipush 208 X247 hx (91 : Int32) (hb hby at_206) (by decide) rfl ?_
          have F252 : Arv Z T247.heap ea k40 .char (11 : Int32) [(.int 0), (.int 0), (.int 0), (.int 0), (.int 0), (.int 0), (.int 0), (.int 0), (.int 0), (.int 0), (.int 0)] (.int 0) := F246.keep K247 nin0
          obtain ⟨cl253, Ar253, q253, S253, M253, H253, G253⟩ := id F252
          have hin253 : ¬ ((0 : Int32) < 0 ∨ cl253.slots.size ≤ (0 : Int32).toNatClampNeg) := inb_of S253 ⟨by decide, by decide⟩
          obtain ⟨T253, h253, X253, e253, W253, st253⟩ := stC X247 hx hZ247 rfl Ar253 (j := (0 : Int32)) hin253 (g := (mkF m 208 #[iv p0, iv p1, iv p2, iv p3, iv p4, iv 1, iv c0, iv c1, iv c2, rv va1, rv va2, rv va3, rv ea, rv hs, iv pt, rv st, iv 1, iv 0, un] [(.int 91), (.int 0), (.ref ea)])) rfl rfl (hb hby at_208)
          have C254 : CHr Z own_EL s.vm h0 T247.vm h253 := C250.trans (CHr.wr W253 (Safe.arv hZ247.alike F252 (by decide)) C250.1)
          have N253 := Fr.snoc X253 N247 ge_ea
          have V253 : Arv Z h253 ea k40 .char (11 : Int32) [(.int (nar .char (91 : Int32))), (.int 0), (.int 0), (.int 0), (.int 0), (.int 0), (.int 0), (.int 0), (.int 0), (.int 0), (.int 0)] (.int 0) := Arv.set Ar253 q253 S253 M253 H253 G253 (fits_nar_char _) W253 0 rfl (Nat.le_of_ble_eq_true rfl)
          refine Go.by st253 ?_
          show Go _ _ _ _ T253 (mkF m 209 #[iv p0, iv p1, iv p2, iv p3, iv p4, iv 1, iv c0, iv c1, iv c2, rv va1, rv va2, rv va3, rv ea, rv hs, iv pt, rv st, iv 1, iv 0, un] [])
          rw [own_ncb (t := (91 : Int32)) (⟨by decide, by decide⟩ : ¬ (91 : Int32) < 0 ∧ ¬ (255 : Int32) < (91 : Int32)).1 (⟨by decide, by decide⟩ : ¬ (91 : Int32) < 0 ∧ ¬ (255 : Int32) < (91 : Int32)).2] at V253
          refine Go.iinc 212 X253 hx (1 : Int32) (L' := #[iv p0, iv p1, iv p2, iv p3, iv p4, iv 1, iv c0, iv c1, iv c2, rv va1, rv va2, rv va3, rv ea, rv hs, iv pt, rv st, iv 1, iv 1, un]) (hb hby at_209) (by decide) rfl rfl rfl ?_
          refine Go.aload2 214 X253 hx (hb hby at_212) rfl rfl rfl ?_
          refine Go.iload2 216 X253 hx (hb hby at_214) rfl rfl ?_
          refine Go.iload2 218 X253 hx (hb hby at_216) rfl rfl ?_
          obtain ⟨cl255, Ar255, q255, S255, M255, H255, G255⟩ := id V253
          have hin255 : ¬ ((1 : Int32) < 0 ∨ cl255.slots.size ≤ (1 : Int32).toNatClampNeg) := inb_of S255 ⟨by decide, by decide⟩
          obtain ⟨T255, h255, X255, e255, W255, st255⟩ := stC X253 hx hZ247 e253 Ar255 (j := (1 : Int32)) hin255 (g := (mkF m 218 #[iv p0, iv p1, iv p2, iv p3, iv p4, iv 1, iv c0, iv c1, iv c2, rv va1, rv va2, rv va3, rv ea, rv hs, iv pt, rv st, iv 1, iv 1, un] [(.int c0), (.int 1), (.ref ea)])) rfl rfl (hb hby at_218)
          have C256 : CHr Z own_EL s.vm h0 T247.vm h255 := C254.trans (CHr.wr W255 (Safe.arv hZ247.alike V253 (by decide)) C254.1)
          have N255 := Fr.snoc X255 N253 ge_ea
          have V255 : Arv Z h255 ea k40 .char (11 : Int32) [(.int 91), (.int (nar .char c0)), (.int 0), (.int 0), (.int 0), (.int 0), (.int 0), (.int 0), (.int 0), (.int 0), (.int 0)] (.int 0) := Arv.set Ar255 q255 S255 M255 H255 G255 (fits_nar_char _) W255 1 rfl (Nat.le_of_ble_eq_true rfl)
          refine Go.by st255 ?_
          show Go _ _ _ _ T255 (mkF m 219 #[iv p0, iv p1, iv p2, iv p3, iv p4, iv 1, iv c0, iv c1, iv c2, rv va1, rv va2, rv va3, rv ea, rv hs, iv pt, rv st, iv 1, iv 1, un] [])
          rw [own_ncb (t := c0) Q1_0.1 Q1_0.2] at V255
          refine Go.iinc 222 X255 hx (1 : Int32) (L' := #[iv p0, iv p1, iv p2, iv p3, iv p4, iv 1, iv c0, iv c1, iv c2, rv va1, rv va2, rv va3, rv ea, rv hs, iv pt, rv st, iv 1, iv 2, un]) (hb hby at_219) (by decide) rfl rfl rfl ?_
          refine Go.iload2 224 X255 hx (hb hby at_222) rfl rfl ?_
          refine Go.iconst 225 X255 hx (2 : Int32) (hb hby at_224) (by decide) rfl ?_
          refine Go.icmpY 238 X255 hx (hb hby at_225) (XT.ii_lt_t (by decide)) (by decide) (by decide) ?_
          refine Go.iload2 240 X255 hx (hb hby at_238) rfl rfl ?_
          refine Go.iconst 241 X255 hx (3 : Int32) (hb hby at_240) (by decide) rfl ?_
          refine Go.icmpY 254 X255 hx (hb hby at_241) (XT.ii_lt_t (by decide)) (by decide) (by decide) ?_
          refine Go.iload2 256 X255 hx (hb hby at_254) rfl rfl ?_
          refine Go.ifN 259 X255 hx (hb hby at_256) (XT.i0_eq_f (by decide)) rfl ?_
          refine Go.aload2 261 X255 hx (hb hby at_259) rfl rfl rfl ?_
          refine Go.iload2 263 X255 hx (hb hby at_261) rfl rfl ?_
          refine Go.bipush 265 X255 hx (93 : Int32) (hb hby at_263) (by decide) rfl ?_
          obtain ⟨cl257, Ar257, q257, S257, M257, H257, G257⟩ := id V255
          have hin257 : ¬ ((2 : Int32) < 0 ∨ cl257.slots.size ≤ (2 : Int32).toNatClampNeg) := inb_of S257 ⟨by decide, by decide⟩
          obtain ⟨T257, h257, X257, e257, W257, st257⟩ := stC X255 hx hZ247 e255 Ar257 (j := (2 : Int32)) hin257 (g := (mkF m 265 #[iv p0, iv p1, iv p2, iv p3, iv p4, iv 1, iv c0, iv c1, iv c2, rv va1, rv va2, rv va3, rv ea, rv hs, iv pt, rv st, iv 1, iv 2, un] [(.int 93), (.int 2), (.ref ea)])) rfl rfl (hb hby at_265)
          have C258 : CHr Z own_EL s.vm h0 T247.vm h257 := C256.trans (CHr.wr W257 (Safe.arv hZ247.alike V255 (by decide)) C256.1)
          have N257 := Fr.snoc X257 N255 ge_ea
          have V257 : Arv Z h257 ea k40 .char (11 : Int32) [(.int 91), (.int c0), (.int (nar .char (93 : Int32))), (.int 0), (.int 0), (.int 0), (.int 0), (.int 0), (.int 0), (.int 0), (.int 0)] (.int 0) := Arv.set Ar257 q257 S257 M257 H257 G257 (fits_nar_char _) W257 2 rfl (Nat.le_of_ble_eq_true rfl)
          refine Go.by st257 ?_
          show Go _ _ _ _ T257 (mkF m 266 #[iv p0, iv p1, iv p2, iv p3, iv p4, iv 1, iv c0, iv c1, iv c2, rv va1, rv va2, rv va3, rv ea, rv hs, iv pt, rv st, iv 1, iv 2, un] [])
          rw [own_ncb (t := (93 : Int32)) (⟨by decide, by decide⟩ : ¬ (93 : Int32) < 0 ∧ ¬ (255 : Int32) < (93 : Int32)).1 (⟨by decide, by decide⟩ : ¬ (93 : Int32) < 0 ∧ ¬ (255 : Int32) < (93 : Int32)).2] at V257
          refine Go.iinc 269 X257 hx (1 : Int32) (L' := #[iv p0, iv p1, iv p2, iv p3, iv p4, iv 1, iv c0, iv c1, iv c2, rv va1, rv va2, rv va3, rv ea, rv hs, iv pt, rv st, iv 1, iv 3, un]) (hb hby at_266) (by decide) rfl rfl rfl ?_
          refine Go.aload2 271 X257 hx (hb hby at_269) rfl rfl rfl ?_
          refine Go.iload2 273 X257 hx (hb hby at_271) rfl rfl ?_
          refine Go.bipush 275 X257 hx (58 : Int32) (hb hby at_273) (by decide) rfl ?_
          obtain ⟨cl259, Ar259, q259, S259, M259, H259, G259⟩ := id V257
          have hin259 : ¬ ((3 : Int32) < 0 ∨ cl259.slots.size ≤ (3 : Int32).toNatClampNeg) := inb_of S259 ⟨by decide, by decide⟩
          obtain ⟨T259, h259, X259, e259, W259, st259⟩ := stC X257 hx hZ247 e257 Ar259 (j := (3 : Int32)) hin259 (g := (mkF m 275 #[iv p0, iv p1, iv p2, iv p3, iv p4, iv 1, iv c0, iv c1, iv c2, rv va1, rv va2, rv va3, rv ea, rv hs, iv pt, rv st, iv 1, iv 3, un] [(.int 58), (.int 3), (.ref ea)])) rfl rfl (hb hby at_275)
          have C260 : CHr Z own_EL s.vm h0 T247.vm h259 := C258.trans (CHr.wr W259 (Safe.arv hZ247.alike V257 (by decide)) C258.1)
          have N259 := Fr.snoc X259 N257 ge_ea
          have V259 : Arv Z h259 ea k40 .char (11 : Int32) [(.int 91), (.int c0), (.int 93), (.int (nar .char (58 : Int32))), (.int 0), (.int 0), (.int 0), (.int 0), (.int 0), (.int 0), (.int 0)] (.int 0) := Arv.set Ar259 q259 S259 M259 H259 G259 (fits_nar_char _) W259 3 rfl (Nat.le_of_ble_eq_true rfl)
          refine Go.by st259 ?_
          show Go _ _ _ _ T259 (mkF m 276 #[iv p0, iv p1, iv p2, iv p3, iv p4, iv 1, iv c0, iv c1, iv c2, rv va1, rv va2, rv va3, rv ea, rv hs, iv pt, rv st, iv 1, iv 3, un] [])
          rw [own_ncb (t := (58 : Int32)) (⟨by decide, by decide⟩ : ¬ (58 : Int32) < 0 ∧ ¬ (255 : Int32) < (58 : Int32)).1 (⟨by decide, by decide⟩ : ¬ (58 : Int32) < 0 ∧ ¬ (255 : Int32) < (58 : Int32)).2] at V259
          refine Go.iinc 279 X259 hx (1 : Int32) (L' := #[iv p0, iv p1, iv p2, iv p3, iv p4, iv 1, iv c0, iv c1, iv c2, rv va1, rv va2, rv va3, rv ea, rv hs, iv pt, rv st, iv 1, iv 4, un]) (hb hby at_276) (by decide) rfl rfl rfl ?_
          have F261 : Keep T247.heap h253 [ea] := (Keep.refl T247.heap [ea]).wr W253 (Or.inl (List.mem_of_getElem? (i := 0) rfl))
          have F262 : Keep T247.heap h255 [ea] := F261.wr W255 (Or.inl (List.mem_of_getElem? (i := 0) rfl))
          have F263 : Keep T247.heap h257 [ea] := F262.wr W257 (Or.inl (List.mem_of_getElem? (i := 0) rfl))
          have F264 : Keep T247.heap h259 [ea] := F263.wr W259 (Or.inl (List.mem_of_getElem? (i := 0) rfl))
          have F265 : Exa Z h259 st "java/lang/String" := Q247_0.keep F264
          have F266 : Fld Z h259 st "java/lang/String" "coder" "B" (.int 0) := Q247_1.keep F264 (ninS (Ne.symm ne_ea_st) nin0)
          have F267 : Fld Z h259 st "java/lang/String" "value" "[B" (.ref sv) := Q247_2.keep F264 (ninS (Ne.symm ne_ea_st) nin0)
          have F268 : Arv Z h259 sv ksv .byte (Int32.ofNat ((((([(.int 91)] : List Value) ++ ([(.int (own_b c0))] : List Value)) ++ ([(.int 93)] : List Value)) ++ ([(.int 58)] : List Value)) ++ own_dg pt).length) ((((([(.int 91)] : List Value) ++ ([(.int (own_b c0))] : List Value)) ++ ([(.int 93)] : List Value)) ++ ([(.int 58)] : List Value)) ++ own_dg pt) (.int 0) := Q247_3.keep F264 (ninS (Ne.symm ne_ea_sv) nin0)
          have Ve : Arv Z h259 ea k40 .char (11 : Int32) (([(.int 91), (.int c0), (.int 93), (.int 58)] : List Value) ++ ([] : List Value)) (.int 0) := Arv.pad V259 (fun i => (pad_rep [(.int 91), (.int c0), (.int 93), (.int 58)] (.int 0) 7 i).symm)
          have F269 : n0 ≤ T247.heap.size := Nat.le_trans F244 K247.1
          have F270 : n0 ≤ h253.size := Nat.le_trans F269 (Nat.le_of_eq (Wr.size W253).symm)
          have F271 : n0 ≤ h255.size := Nat.le_trans F270 (Nat.le_of_eq (Wr.size W255).symm)
          have F272 : n0 ≤ h257.size := Nat.le_trans F271 (Nat.le_of_eq (Wr.size W257).symm)
          have F273 : n0 ≤ h259.size := Nat.le_trans F272 (Nat.le_of_eq (Wr.size W259).symm)
          have F274 : Old Z n0 T247.heap := F239.keep K247 all0
          have F275 : Old Z n0 h253 := F274.wr W253 ge_ea
          have F276 : Old Z n0 h255 := F275.wr W255 ge_ea
          have F277 : Old Z n0 h257 := F276.wr W257 ge_ea
          have F278 : Old Z n0 h259 := F277.wr W259 ge_ea
          have F279 : T247.heap.size ≤ h253.size := Nat.le_trans (Nat.le_refl T247.heap.size) (Nat.le_of_eq (Wr.size W253).symm)
          have F280 : T247.heap.size ≤ h255.size := Nat.le_trans F279 (Nat.le_of_eq (Wr.size W255).symm)
          have F281 : T247.heap.size ≤ h257.size := Nat.le_trans F280 (Nat.le_of_eq (Wr.size W257).symm)
          have F282 : T247.heap.size ≤ h259.size := Nat.le_trans F281 (Nat.le_of_eq (Wr.size W259).symm)
          exact J72 _ _ _ _ _ st sv ksv ([(.int 91), (.int (own_b c0)), (.int 93), (.int 58)]) ([(.int 91), (.int c0), (.int 93), (.int 58)]) pt (iv 1) (rv hs) (iv 1) (X259.more (by decide) (by decide)) e259 N259 F273 F278 C260 F282 hS247 hZ247 hown247 F265 F266 F267 F268 Ve (Ne.symm ne_ea_sv) (Ne.symm ne_ea_st) hp rfl (Nat.le_of_ble_eq_true rfl) (own_sC (own_pl (91 : Int32) (by decide)) (own_sC (own_pb Q1_0) (own_sC (own_pl (93 : Int32) (by decide)) (own_sC (own_pl (58 : Int32) (by decide)) own_s0))))
        · intro J251
          show Go _ _ _ _ T247 (mkF m 158 #[iv p0, iv p1, iv p2, iv p3, iv p4, iv 1, iv c0, iv c1, iv c2, rv va1, rv va2, rv va3, rv ea, rv hs, iv pt, rv st, un, un, un] [(.int 58), (.int c0)])
          by_cases hb283 : c0 = (58 : Int32)
          · refine Go.icmpY 187 X247 hx (hb hby at_158) (XT.ii_eq_t hb283) (by decide) (by decide) ?_
            refine Go.iconst 188 X247 hx (1 : Int32) (hb hby at_187) (by decide) rfl ?_
            refine Go.goto 192 X247 hx (hb hby at_188) (by decide) (by decide) ?_
            exact J251 _ rfl
          · refine Go.icmpN 161 X247 hx (hb hby at_158) (XT.ii_eq_f hb283) rfl ?_
            refine Go.iload2 163 X247 hx (hb hby at_161) rfl rfl ?_
            refine Go.iconst 164 X247 hx (2 : Int32) (hb hby at_163) (by decide) rfl ?_
            refine Go.icmpY 174 X247 hx (hb hby at_164) (XT.ii_lt_t (by decide)) (by decide) (by decide) ?_
            refine Go.iload2 176 X247 hx (hb hby at_174) rfl rfl ?_
            refine Go.iconst 177 X247 hx (3 : Int32) (hb hby at_176) (by decide) rfl ?_
            refine Go.icmpY 191 X247 hx (hb hby at_177) (XT.ii_lt_t (by decide)) (by decide) (by decide) ?_
            refine Go.iconst 192 X247 hx (0 : Int32) (hb hby at_191) (by decide) rfl ?_
            exact absurd hC (own_nmC (fun z => hb283 ((own_58 Q1_0).mp z)) own_nm0)
      · show Go _ _ _ _ T247 (mkF m 158 #[iv p0, iv p1, iv p2, iv p3, iv p4, iv 2, iv c0, iv c1, iv c2, rv va1, rv va2, rv va3, rv ea, rv hs, iv pt, rv st, un, un, un] [(.int 58), (.int c0)])
        refine Go.join (α := Int32) (P := fun co => co = 1) (fr := fun co => (mkF m 192 #[iv p0, iv p1, iv p2, iv p3, iv p4, iv 2, iv c0, iv c1, iv c2, rv va1, rv va2, rv va3, rv ea, rv hs, iv pt, rv st, un, un, un] [(.int co)])) ?_ ?_
        · intro co h_co
          show Go _ _ _ _ T247 (mkF m 192 #[iv p0, iv p1, iv p2, iv p3, iv p4, iv 2, iv c0, iv c1, iv c2, rv va1, rv va2, rv va3, rv ea, rv hs, iv pt, rv st, un, un, un] [(.int co)])
          subst h_co
          show Go _ _ _ _ T247 (mkF m 192 #[iv p0, iv p1, iv p2, iv p3, iv p4, iv 2, iv c0, iv c1, iv c2, rv va1, rv va2, rv va3, rv ea, rv hs, iv pt, rv st, un, un, un] [(.int 1)])
          refine Go.istore2 194 X247 hx (L' := #[iv p0, iv p1, iv p2, iv p3, iv p4, iv 2, iv c0, iv c1, iv c2, rv va1, rv va2, rv va3, rv ea, rv hs, iv pt, rv st, iv 1, un, un]) (hb hby at_192) rfl rfl ?_
          refine Go.iconst 195 X247 hx (0 : Int32) (hb hby at_194) (by decide) rfl ?_
          refine Go.istore2 197 X247 hx (L' := #[iv p0, iv p1, iv p2, iv p3, iv p4, iv 2, iv c0, iv c1, iv c2, rv va1, rv va2, rv va3, rv ea, rv hs, iv pt, rv st, iv 1, iv 0, un]) (hb hby at_195) rfl rfl ?_
          refine Go.iload2 199 X247 hx (hb hby at_197) rfl rfl ?_
          refine Go.ifN 202 X247 hx (hb hby at_199) (XT.i0_eq_f (by decide)) rfl ?_
          refine Go.aload2 204 X247 hx (hb hby at_202) rfl rfl rfl ?_
          refine Go.iload2 206 X247 hx (hb hby at_204) rfl rfl ?_
          refine Go.bipush 208 X247 hx (91 : Int32) (hb hby at_206) (by decide) rfl ?_
          have F285 : Arv Z T247.heap ea k40 .char (11 : Int32) [(.int 0), (.int 0), (.int 0), (.int 0), (.int 0), (.int 0), (.int 0), (.int 0), (.int 0), (.int 0), (.int 0)] (.int 0) := F246.keep K247 nin0
          obtain ⟨cl286, Ar286, q286, S286, M286, H286, G286⟩ := id F285
          have hin286 : ¬ ((0 : Int32) < 0 ∨ cl286.slots.size ≤ (0 : Int32).toNatClampNeg) := inb_of S286 ⟨by decide, by decide⟩
          obtain ⟨T286, h286, X286, e286, W286, st286⟩ := stC X247 hx hZ247 rfl Ar286 (j := (0 : Int32)) hin286 (g := (mkF m 208 #[iv p0, iv p1, iv p2, iv p3, iv p4, iv 2, iv c0, iv c1, iv c2, rv va1, rv va2, rv va3, rv ea, rv hs, iv pt, rv st, iv 1, iv 0, un] [(.int 91), (.int 0), (.ref ea)])) rfl rfl (hb hby at_208)
          have C287 : CHr Z own_EL s.vm h0 T247.vm h286 := C250.trans (CHr.wr W286 (Safe.arv hZ247.alike F285 (by decide)) C250.1)
          have N286 := Fr.snoc X286 N247 ge_ea
          have V286 : Arv Z h286 ea k40 .char (11 : Int32) [(.int (nar .char (91 : Int32))), (.int 0), (.int 0), (.int 0), (.int 0), (.int 0), (.int 0), (.int 0), (.int 0), (.int 0), (.int 0)] (.int 0) := Arv.set Ar286 q286 S286 M286 H286 G286 (fits_nar_char _) W286 0 rfl (Nat.le_of_ble_eq_true rfl)
          refine Go.by st286 ?_
          show Go _ _ _ _ T286 (mkF m 209 #[iv p0, iv p1, iv p2, iv p3, iv p4, iv 2, iv c0, iv c1, iv c2, rv va1, rv va2, rv va3, rv ea, rv hs, iv pt, rv st, iv 1, iv 0, un] [])
          rw [own_ncb (t := (91 : Int32)) (⟨by decide, by decide⟩ : ¬ (91 : Int32) < 0 ∧ ¬ (255 : Int32) < (91 : Int32)).1 (⟨by decide, by decide⟩ : ¬ (91 : Int32) < 0 ∧ ¬ (255 : Int32) < (91 : Int32)).2] at V286
          refine Go.iinc 212 X286 hx (1 : Int32) (L' := #[iv p0, iv p1, iv p2, iv p3, iv p4, iv 2, iv c0, iv c1, iv c2, rv va1, rv va2, rv va3, rv ea, rv hs, iv pt, rv st, iv 1, iv 1, un]) (hb hby at_209) (by decide) rfl rfl rfl ?_
          refine Go.aload2 214 X286 hx (hb hby at_212) rfl rfl rfl ?_
          refine Go.iload2 216 X286 hx (hb hby at_214) rfl rfl ?_
          refine Go.iload2 218 X286 hx (hb hby at_216) rfl rfl ?_
          obtain ⟨cl288, Ar288, q288, S288, M288, H288, G288⟩ := id V286
          have hin288 : ¬ ((1 : Int32) < 0 ∨ cl288.slots.size ≤ (1 : Int32).toNatClampNeg) := inb_of S288 ⟨by decide, by decide⟩
          obtain ⟨T288, h288, X288, e288, W288, st288⟩ := stC X286 hx hZ247 e286 Ar288 (j := (1 : Int32)) hin288 (g := (mkF m 218 #[iv p0, iv p1, iv p2, iv p3, iv p4, iv 2, iv c0, iv c1, iv c2, rv va1, rv va2, rv va3, rv ea, rv hs, iv pt, rv st, iv 1, iv 1, un] [(.int c0), (.int 1), (.ref ea)])) rfl rfl (hb hby at_218)
          have C289 : CHr Z own_EL s.vm h0 T247.vm h288 := C287.trans (CHr.wr W288 (Safe.arv hZ247.alike V286 (by decide)) C287.1)
          have N288 := Fr.snoc X288 N286 ge_ea
          have V288 : Arv Z h288 ea k40 .char (11 : Int32) [(.int 91), (.int (nar .char c0)), (.int 0), (.int 0), (.int 0), (.int 0), (.int 0), (.int 0), (.int 0), (.int 0), (.int 0)] (.int 0) := Arv.set Ar288 q288 S288 M288 H288 G288 (fits_nar_char _) W288 1 rfl (Nat.le_of_ble_eq_true rfl)
          refine Go.by st288 ?_
          show Go _ _ _ _ T288 (mkF m 219 #[iv p0, iv p1, iv p2, iv p3, iv p4, iv 2, iv c0, iv c1, iv c2, rv va1, rv va2, rv va3, rv ea, rv hs, iv pt, rv st, iv 1, iv 1, un] [])
          rw [own_ncb (t := c0) Q1_0.1 Q1_0.2] at V288
          refine Go.iinc 222 X288 hx (1 : Int32) (L' := #[iv p0, iv p1, iv p2, iv p3, iv p4, iv 2, iv c0, iv c1, iv c2, rv va1, rv va2, rv va3, rv ea, rv hs, iv pt, rv st, iv 1, iv 2, un]) (hb hby at_219) (by decide) rfl rfl rfl ?_
          refine Go.iload2 224 X288 hx (hb hby at_222) rfl rfl ?_
          refine Go.iconst 225 X288 hx (2 : Int32) (hb hby at_224) (by decide) rfl ?_
          refine Go.icmpN 228 X288 hx (hb hby at_225) (XT.ii_lt_f (by decide)) rfl ?_
          refine Go.aload2 230 X288 hx (hb hby at_228) rfl rfl rfl ?_
          refine Go.iload2 232 X288 hx (hb hby at_230) rfl rfl ?_
          refine Go.iload2 234 X288 hx (hb hby at_232) rfl rfl ?_
          obtain ⟨cl290, Ar290, q290, S290, M290, H290, G290⟩ := id V288
          have hin290 : ¬ ((2 : Int32) < 0 ∨ cl290.slots.size ≤ (2 : Int32).toNatClampNeg) := inb_of S290 ⟨by decide, by decide⟩
          obtain ⟨T290, h290, X290, e290, W290, st290⟩ := stC X288 hx hZ247 e288 Ar290 (j := (2 : Int32)) hin290 (g := (mkF m 234 #[iv p0, iv p1, iv p2, iv p3, iv p4, iv 2, iv c0, iv c1, iv c2, rv va1, rv va2, rv va3, rv ea, rv hs, iv pt, rv st, iv 1, iv 2, un] [(.int c1), (.int 2), (.ref ea)])) rfl rfl (hb hby at_234)
          have C291 : CHr Z own_EL s.vm h0 T247.vm h290 := C289.trans (CHr.wr W290 (Safe.arv hZ247.alike V288 (by decide)) C289.1)
          have N290 := Fr.snoc X290 N288 ge_ea
          have V290 : Arv Z h290 ea k40 .char (11 : Int32) [(.int 91), (.int c0), (.int (nar .char c1)), (.int 0), (.int 0), (.int 0), (.int 0), (.int 0), (.int 0), (.int 0), (.int 0)] (.int 0) := Arv.set Ar290 q290 S290 M290 H290 G290 (fits_nar_char _) W290 2 rfl (Nat.le_of_ble_eq_true rfl)
          refine Go.by st290 ?_
          show Go _ _ _ _ T290 (mkF m 235 #[iv p0, iv p1, iv p2, iv p3, iv p4, iv 2, iv c0, iv c1, iv c2, rv va1, rv va2, rv va3, rv ea, rv hs, iv pt, rv st, iv 1, iv 2, un] [])
          rw [own_ncb (t := c1) Q2_0.1 Q2_0.2] at V290
          refine Go.iinc 238 X290 hx (1 : Int32) (L' := #[iv p0, iv p1, iv p2, iv p3, iv p4, iv 2, iv c0, iv c1, iv c2, rv va1, rv va2, rv va3, rv ea, rv hs, iv pt, rv st, iv 1, iv 3, un]) (hb hby at_235) (by decide) rfl rfl rfl ?_
          refine Go.iload2 240 X290 hx (hb hby at_238) rfl rfl ?_
          refine Go.iconst 241 X290 hx (3 : Int32) (hb hby at_240) (by decide) rfl ?_
          refine Go.icmpY 254 X290 hx (hb hby at_241) (XT.ii_lt_t (by decide)) (by decide) (by decide) ?_
          refine Go.iload2 256 X290 hx (hb hby at_254) rfl rfl ?_
          refine Go.ifN 259 X290 hx (hb hby at_256) (XT.i0_eq_f (by decide)) rfl ?_
          refine Go.aload2 261 X290 hx (hb hby at_259) rfl rfl rfl ?_
          refine Go.iload2 263 X290 hx (hb hby at_261) rfl rfl ?_
          refine Go.bipush 265 X290 hx (93 : Int32) (hb hby at_263) (by decide) rfl ?_
          obtain ⟨cl292, Ar292, q292, S292, M292, H292, G292⟩ := id V290
          have hin292 : ¬ ((3 : Int32) < 0 ∨ cl292.slots.size ≤ (3 : Int32).toNatClampNeg) := inb_of S292 ⟨by decide, by decide⟩
          obtain ⟨T292, h292, X292, e292, W292, st292⟩ := stC X290 hx hZ247 e290 Ar292 (j := (3 : Int32)) hin292 (g := (mkF m 265 #[iv p0, iv p1, iv p2, iv p3, iv p4, iv 2, iv c0, iv c1, iv c2, rv va1, rv va2, rv va3, rv ea, rv hs, iv pt, rv st, iv 1, iv 3, un] [(.int 93), (.int 3), (.ref ea)])) rfl rfl (hb hby at_265)
          have C293 : CHr Z own_EL s.vm h0 T247.vm h292 := C291.trans (CHr.wr W292 (Safe.arv hZ247.alike V290 (by decide)) C291.1)
          have N292 := Fr.snoc X292 N290 ge_ea
          have V292 : Arv Z h292 ea k40 .char (11 : Int32) [(.int 91), (.int c0), (.int c1), (.int (nar .char (93 : Int32))), (.int 0), (.int 0), (.int 0), (.int 0), (.int 0), (.int 0), (.int 0)] (.int 0) := Arv.set Ar292 q292 S292 M292 H292 G292 (fits_nar_char _) W292 3 rfl (Nat.le_of_ble_eq_true rfl)
          refine Go.by st292 ?_
          show Go _ _ _ _ T292 (mkF m 266 #[iv p0, iv p1, iv p2, iv p3, iv p4, iv 2, iv c0, iv c1, iv c2, rv va1, rv va2, rv va3, rv ea, rv hs, iv pt, rv st, iv 1, iv 3, un] [])
          rw [own_ncb (t := (93 : Int32)) (⟨by decide, by decide⟩ : ¬ (93 : Int32) < 0 ∧ ¬ (255 : Int32) < (93 : Int32)).1 (⟨by decide, by decide⟩ : ¬ (93 : Int32) < 0 ∧ ¬ (255 : Int32) < (93 : Int32)).2] at V292
          refine Go.iinc 269 X292 hx (1 : Int32) (L' := #[iv p0, iv p1, iv p2, iv p3, iv p4, iv 2, iv c0, iv c1, iv c2, rv va1, rv va2, rv va3, rv ea, rv hs, iv pt, rv st, iv 1, iv 4, un]) (hb hby at_266) (by decide) rfl rfl rfl ?_
          refine Go.aload2 271 X292 hx (hb hby at_269) rfl rfl rfl ?_
          refine Go.iload2 273 X292 hx (hb hby at_271) rfl rfl ?_
          refine Go.bipush 275 X292 hx (58 : Int32) (hb hby at_273) (by decide) rfl ?_
          obtain ⟨cl294, Ar294, q294, S294, M294, H294, G294⟩ := id V292
          have hin294 : ¬ ((4 : Int32) < 0 ∨ cl294.slots.size ≤ (4 : Int32).toNatClampNeg) := inb_of S294 ⟨by decide, by decide⟩
          obtain ⟨T294, h294, X294, e294, W294, st294⟩ := stC X292 hx hZ247 e292 Ar294 (j := (4 : Int32)) hin294 (g := (mkF m 275 #[iv p0, iv p1, iv p2, iv p3, iv p4, iv 2, iv c0, iv c1, iv c2, rv va1, rv va2, rv va3, rv ea, rv hs, iv pt, rv st, iv 1, iv 4, un] [(.int 58), (.int 4), (.ref ea)])) rfl rfl (hb hby at_275)
          have C295 : CHr Z own_EL s.vm h0 T247.vm h294 := C293.trans (CHr.wr W294 (Safe.arv hZ247.alike V292 (by decide)) C293.1)
          have N294 := Fr.snoc X294 N292 ge_ea
          have V294 : Arv Z h294 ea k40 .char (11 : Int32) [(.int 91), (.int c0), (.int c1), (.int 93), (.int (nar .char (58 : Int32))), (.int 0), (.int 0), (.int 0), (.int 0), (.int 0), (.int 0)] (.int 0) := Arv.set Ar294 q294 S294 M294 H294 G294 (fits_nar_char _) W294 4 rfl (Nat.le_of_ble_eq_true rfl)
          refine Go.by st294 ?_
          show Go _ _ _ _ T294 (mkF m 276 #[iv p0, iv p1, iv p2, iv p3, iv p4, iv 2, iv c0, iv c1, iv c2, rv va1, rv va2, rv va3, rv ea, rv hs, iv pt, rv st, iv 1, iv 4, un] [])
          rw [own_ncb (t := (58 : Int32)) (⟨by decide, by decide⟩ : ¬ (58 : Int32) < 0 ∧ ¬ (255 : Int32) < (58 : Int32)).1 (⟨by decide, by decide⟩ : ¬ (58 : Int32) < 0 ∧ ¬ (255 : Int32) < (58 : Int32)).2] at V294
          refine Go.iinc 279 X294 hx (1 : Int32) (L' := #[iv p0, iv p1, iv p2, iv p3, iv p4, iv 2, iv c0, iv c1, iv c2, rv va1, rv va2, rv va3, rv ea, rv hs, iv pt, rv st, iv 1, iv 5, un]) (hb hby at_276) (by decide) rfl rfl rfl ?_
          have F296 : Keep T247.heap h286 [ea] := (Keep.refl T247.heap [ea]).wr W286 (Or.inl (List.mem_of_getElem? (i := 0) rfl))
          have F297 : Keep T247.heap h288 [ea] := F296.wr W288 (Or.inl (List.mem_of_getElem? (i := 0) rfl))
          have F298 : Keep T247.heap h290 [ea] := F297.wr W290 (Or.inl (List.mem_of_getElem? (i := 0) rfl))
          have F299 : Keep T247.heap h292 [ea] := F298.wr W292 (Or.inl (List.mem_of_getElem? (i := 0) rfl))
          have F300 : Keep T247.heap h294 [ea] := F299.wr W294 (Or.inl (List.mem_of_getElem? (i := 0) rfl))
          have F301 : Exa Z h294 st "java/lang/String" := Q247_0.keep F300
          have F302 : Fld Z h294 st "java/lang/String" "coder" "B" (.int 0) := Q247_1.keep F300 (ninS (Ne.symm ne_ea_st) nin0)
          have F303 : Fld Z h294 st "java/lang/String" "value" "[B" (.ref sv) := Q247_2.keep F300 (ninS (Ne.symm ne_ea_st) nin0)
          have F304 : Arv Z h294 sv ksv .byte (Int32.ofNat ((((([(.int 91)] : List Value) ++ ([(.int (own_b c0)), (.int (own_b c1))] : List Value)) ++ ([(.int 93)] : List Value)) ++ ([(.int 58)] : List Value)) ++ own_dg pt).length) ((((([(.int 91)] : List Value) ++ ([(.int (own_b c0)), (.int (own_b c1))] : List Value)) ++ ([(.int 93)] : List Value)) ++ ([(.int 58)] : List Value)) ++ own_dg pt) (.int 0) := Q247_3.keep F300 (ninS (Ne.symm ne_ea_sv) nin0)
          have Ve : Arv Z h294 ea k40 .char (11 : Int32) (([(.int 91), (.int c0), (.int c1), (.int 93), (.int 58)] : List Value) ++ ([] : List Value)) (.int 0) := Arv.pad V294 (fun i => (pad_rep [(.int 91), (.int c0), (.int c1), (.int 93), (.int 58)] (.int 0) 6 i).symm)
          have F305 : n0 ≤ T247.heap.size := Nat.le_trans F244 K247.1
          have F306 : n0 ≤ h286.size := Nat.le_trans F305 (Nat.le_of_eq (Wr.size W286).symm)
          have F307 : n0 ≤ h288.size := Nat.le_trans F306 (Nat.le_of_eq (Wr.size W288).symm)
          have F308 : n0 ≤ h290.size := Nat.le_trans F307 (Nat.le_of_eq (Wr.size W290).symm)
          have F309 : n0 ≤ h292.size := Nat.le_trans F308 (Nat.le_of_eq (Wr.size W292).symm)
          have F310 : n0 ≤ h294.size := Nat.le_trans F309 (Nat.le_of_eq (Wr.size W294).symm)
          have F311 : Old Z n0 T247.heap := F239.keep K247 all0
          have F312 : Old Z n0 h286 := F311.wr W286 ge_ea
          have F313 : Old Z n0 h288 := F312.wr W288 ge_ea
          have F314 : Old Z n0 h290 := F313.wr W290 ge_ea
          have F315 : Old Z n0 h292 := F314.wr W292 ge_ea
          have F316 : Old Z n0 h294 := F315.wr W294 ge_ea
          have F317 : T247.heap.size ≤ h286.size := Nat.le_trans (Nat.le_refl T247.heap.size) (Nat.le_of_eq (Wr.size W286).symm)
          have F318 : T247.heap.size ≤ h288.size := Nat.le_trans F317 (Nat.le_of_eq (Wr.size W288).symm)
          have F319 : T247.heap.size ≤ h290.size := Nat.le_trans F318 (Nat.le_of_eq (Wr.size W290).symm)
          have F320 : T247.heap.size ≤ h292.size := Nat.le_trans F319 (Nat.le_of_eq (Wr.size W292).symm)
          have F321 : T247.heap.size ≤ h294.size := Nat.le_trans F320 (Nat.le_of_eq (Wr.size W294).symm)
          exact J72 _ _ _ _ _ st sv ksv ([(.int 91), (.int (own_b c0)), (.int (own_b c1)), (.int 93), (.int 58)]) ([(.int 91), (.int c0), (.int c1), (.int 93), (.int 58)]) pt (iv 2) (rv hs) (iv 1) (X294.more (by decide) (by decide)) e294 N294 F310 F316 C295 F321 hS247 hZ247 hown247 F301 F302 F303 F304 Ve (Ne.symm ne_ea_sv) (Ne.symm ne_ea_st) hp rfl (Nat.le_of_ble_eq_true rfl) (own_sC (own_pl (91 : Int32) (by decide)) (own_sC (own_pb Q1_0) (own_sC (own_pb Q2_0) (own_sC (own_pl (93 : Int32) (by decide)) (own_sC (own_pl (58 : Int32) (by decide)) own_s0)))))
        · intro J284
          show Go _ _ _ _ T247 (mkF m 158 #[iv p0, iv p1, iv p2, iv p3, iv p4, iv 2, iv c0, iv c1, iv c2, rv va1, rv va2, rv va3, rv ea, rv hs, iv pt, rv st, un, un, un] [(.int 58), (.int c0)])
          by_cases hb322 : c0 = (58 : Int32)
          · refine Go.icmpY 187 X247 hx (hb hby at_158) (XT.ii_eq_t hb322) (by decide) (by decide) ?_
            refine Go.iconst 188 X247 hx (1 : Int32) (hb hby at_187) (by decide) rfl ?_
            refine Go.goto 192 X247 hx (hb hby at_188) (by decide) (by decide) ?_
            exact J284 _ rfl
          · refine Go.icmpN 161 X247 hx (hb hby at_158) (XT.ii_eq_f hb322) rfl ?_
            refine Go.iload2 163 X247 hx (hb hby at_161) rfl rfl ?_
            refine Go.iconst 164 X247 hx (2 : Int32) (hb hby at_163) (by decide) rfl ?_
            refine Go.icmpN 167 X247 hx (hb hby at_164) (XT.ii_lt_f (by decide)) rfl ?_
            refine Go.iload2 169 X247 hx (hb hby at_167) rfl rfl ?_
            refine Go.bipush 171 X247 hx (58 : Int32) (hb hby at_169) (by decide) rfl ?_
            by_cases hb323 : c1 = (58 : Int32)
            · refine Go.icmpY 187 X247 hx (hb hby at_171) (XT.ii_eq_t hb323) (by decide) (by decide) ?_
              refine Go.iconst 188 X247 hx (1 : Int32) (hb hby at_187) (by decide) rfl ?_
              refine Go.goto 192 X247 hx (hb hby at_188) (by decide) (by decide) ?_
              exact J284 _ rfl
            · refine Go.icmpN 174 X247 hx (hb hby at_171) (XT.ii_eq_f hb323) rfl ?_
              refine Go.iload2 176 X247 hx (hb hby at_174) rfl rfl ?_
              refine Go.iconst 177 X247 hx (3 : Int32) (hb hby at_176) (by decide) rfl ?_
              refine Go.icmpY 191 X247 hx (hb hby at_177) (XT.ii_lt_t (by decide)) (by decide) (by decide) ?_
              refine Go.iconst 192 X247 hx (0 : Int32) (hb hby at_191) (by decide) rfl ?_
              exact absurd hC (own_nmC (fun z => hb322 ((own_58 Q1_0).mp z)) (own_nmC (fun z => hb323 ((own_58 Q2_0).mp z)) own_nm0))
      · show Go _ _ _ _ T247 (mkF m 158 #[iv p0, iv p1, iv p2, iv p3, iv p4, iv 3, iv c0, iv c1, iv c2, rv va1, rv va2, rv va3, rv ea, rv hs, iv pt, rv st, un, un, un] [(.int 58), (.int c0)])
        refine Go.join (α := Int32) (P := fun co => co = 1) (fr := fun co => (mkF m 192 #[iv p0, iv p1, iv p2, iv p3, iv p4, iv 3, iv c0, iv c1, iv c2, rv va1, rv va2, rv va3, rv ea, rv hs, iv pt, rv st, un, un, un] [(.int co)])) ?_ ?_
        · intro co h_co
          show Go _ _ _ _ T247 (mkF m 192 #[iv p0, iv p1, iv p2, iv p3, iv p4, iv 3, iv c0, iv c1, iv c2, rv va1, rv va2, rv va3, rv ea, rv hs, iv pt, rv st, un, un, un] [(.int co)])
          subst h_co
          show Go _ _ _ _ T247 (mkF m 192 #[iv p0, iv p1, iv p2, iv p3, iv p4, iv 3, iv c0, iv c1, iv c2, rv va1, rv va2, rv va3, rv ea, rv hs, iv pt, rv st, un, un, un] [(.int 1)])
          refine Go.istore2 194 X247 hx (L' := #[iv p0, iv p1, iv p2, iv p3, iv p4, iv 3, iv c0, iv c1, iv c2, rv va1, rv va2, rv va3, rv ea, rv hs, iv pt, rv st, iv 1, un, un]) (hb hby at_192) rfl rfl ?_
          refine Go.iconst 195 X247 hx (0 : Int32) (hb hby at_194) (by decide) rfl ?_
          refine Go.istore2 197 X247 hx (L' := #[iv p0, iv p1, iv p2, iv p3, iv p4, iv 3, iv c0, iv c1, iv c2, rv va1, rv va2, rv va3, rv ea, rv hs, iv pt, rv st, iv 1, iv 0, un]) (hb hby at_195) rfl rfl ?_
          refine Go.iload2 199 X247 hx (hb hby at_197) rfl rfl ?_
          refine Go.ifN 202 X247 hx (hb hby at_199) (XT.i0_eq_f (by decide)) rfl ?_
          refine Go.aload2 204 X247 hx (hb hby at_202) rfl rfl rfl ?_
          refine Go.iload2 206 X247 hx (hb hby at_204) rfl rfl ?_
          refine Go.bipush 208 X247 hx (91 : Int32) (hb hby at_206) (by decide) rfl ?_
          have F325 : Arv Z T247.heap ea k40 .char (11 : Int32) [(.int 0), (.int 0), (.int 0), (.int 0), (.int 0), (.int 0), (.int 0), (.int 0), (.int 0), (.int 0), (.int 0)] (.int 0) := F246.keep K247 nin0
          obtain ⟨cl326, Ar326, q326, S326, M326, H326, G326⟩ := id F325
          have hin326 : ¬ ((0 : Int32) < 0 ∨ cl326.slots.size ≤ (0 : Int32).toNatClampNeg) := inb_of S326 ⟨by decide, by decide⟩
          obtain ⟨T326, h326, X326, e326, W326, st326⟩ := stC X247 hx hZ247 rfl Ar326 (j := (0 : Int32)) hin326 (g := (mkF m 208 #[iv p0, iv p1, iv p2, iv p3, iv p4, iv 3, iv c0, iv c1, iv c2, rv va1, rv va2, rv va3, rv ea, rv hs, iv pt, rv st, iv 1, iv 0, un] [(.int 91), (.int 0), (.ref ea)])) rfl rfl (hb hby at_208)
          have C327 : CHr Z own_EL s.vm h0 T247.vm h326 := C250.trans (CHr.wr W326 (Safe.arv hZ247.alike F325 (by decide)) C250.1)
          have N326 := Fr.snoc X326 N247 ge_ea
          have V326 : Arv Z h326 ea k40 .char (11 : Int32) [(.int (nar .char (91 : Int32))), (.int 0), (.int 0), (.int 0), (.int 0), (.int 0), (.int 0), (.int 0), (.int 0), (.int 0), (.int 0)] (.int 0) := Arv.set Ar326 q326 S326 M326 H326 G326 (fits_nar_char _) W326 0 rfl (Nat.le_of_ble_eq_true rfl)
          refine Go.by st326 ?_
          show Go _ _ _ _ T326 (mkF m 209 #[iv p0, iv p1, iv p2, iv p3, iv p4, iv 3, iv c0, iv c1, iv c2, rv va1, rv va2, rv va3, rv ea, rv hs, iv pt, rv st, iv 1, iv 0, un] [])
          rw [own_ncb (t := (91 : Int32)) (⟨by decide, by decide⟩ : ¬ (91 : Int32) < 0 ∧ ¬ (255 : Int32) < (91 : Int32)).1 (⟨by decide, by decide⟩ : ¬ (91 : Int32) < 0 ∧ ¬ (255 : Int32) < (91 : Int32)).2] at V326
          refine Go.iinc 212 X326 hx (1 : Int32) (L' := #[iv p0, iv p1, iv p2, iv p3, iv p4, iv 3, iv c0, iv c1, iv c2, rv va1, rv va2, rv va3, rv ea, rv hs, iv pt, rv st, iv 1, iv 1, un]) (hb hby at_209) (by decide) rfl rfl rfl ?_
          refine Go.aload2 214 X326 hx (hb hby at_212) rfl rfl rfl ?_
          refine Go.iload2 216 X326 hx (hb hby at_214) rfl rfl ?_
          refine Go.iload2 218 X326 hx (hb hby at_216) rfl rfl ?_
          obtain ⟨cl328, Ar328, q328, S328, M328, H328, G328⟩ := id V326
          have hin328 : ¬ ((1 : Int32) < 0 ∨ cl328.slots.size ≤ (1 : Int32).toNatClampNeg) := inb_of S328 ⟨by decide, by decide⟩
          obtain ⟨T328, h328, X328, e328, W328, st328⟩ := stC X326 hx hZ247 e326 Ar328 (j := (1 : Int32)) hin328 (g := (mkF m 218 #[iv p0, iv p1, iv p2, iv p3, iv p4, iv 3, iv c0, iv c1, iv c2, rv va1, rv va2, rv va3, rv ea, rv hs, iv pt, rv st, iv 1, iv 1, un] [(.int c0), (.int 1), (.ref ea)])) rfl rfl (hb hby at_218)
          have C329 : CHr Z own_EL s.vm h0 T247.vm h328 := C327.trans (CHr.wr W328 (Safe.arv hZ247.alike V326 (by decide)) C327.1)
          have N328 := Fr.snoc X328 N326 ge_ea
          have V328 : Arv Z h328 ea k40 .char (11 : Int32) [(.int 91), (.int (nar .char c0)), (.int 0), (.int 0), (.int 0), (.int 0), (.int 0), (.int 0), (.int 0), (.int 0), (.int 0)] (.int 0) := Arv.set Ar328 q328 S328 M328 H328 G328 (fits_nar_char _) W328 1 rfl (Nat.le_of_ble_eq_true rfl)
          refine Go.by st328 ?_
          show Go _ _ _ _ T328 (mkF m 219 #[iv p0, iv p1, iv p2, iv p3, iv p4, iv 3, iv c0, iv c1, iv c2, rv va1, rv va2, rv va3, rv ea, rv hs, iv pt, rv st, iv 1, iv 1, un] [])
          rw [own_ncb (t := c0) Q1_0.1 Q1_0.2] at V328
          refine Go.iinc 222 X328 hx (1 : Int32) (L' := #[iv p0, iv p1, iv p2, iv p3, iv p4, iv 3, iv c0, iv c1, iv c2, rv va1, rv va2, rv va3, rv ea, rv hs, iv pt, rv st, iv 1, iv 2, un]) (hb hby at_219) (by decide) rfl rfl rfl ?_
          refine Go.iload2 224 X328 hx (hb hby at_222) rfl rfl ?_
          refine Go.iconst 225 X328 hx (2 : Int32) (hb hby at_224) (by decide) rfl ?_
          refine Go.icmpN 228 X328 hx (hb hby at_225) (XT.ii_lt_f (by decide)) rfl ?_
          refine Go.aload2 230 X328 hx (hb hby at_228) rfl rfl rfl ?_
          refine Go.iload2 232 X328 hx (hb hby at_230) rfl rfl ?_
          refine Go.iload2 234 X328 hx (hb hby at_232) rfl rfl ?_
          obtain ⟨cl330, Ar330, q330, S330, M330, H330, G330⟩ := id V328
          have hin330 : ¬ ((2 : Int32) < 0 ∨ cl330.slots.size ≤ (2 : Int32).toNatClampNeg) := inb_of S330 ⟨by decide, by decide⟩
          obtain ⟨T330, h330, X330, e330, W330, st330⟩ := stC X328 hx hZ247 e328 Ar330 (j := (2 : Int32)) hin330 (g := (mkF m 234 #[iv p0, iv p1, iv p2, iv p3, iv p4, iv 3, iv c0, iv c1, iv c2, rv va1, rv va2, rv va3, rv ea, rv hs, iv pt, rv st, iv 1, iv 2, un] [(.int c1), (.int 2), (.ref ea)])) rfl rfl (hb hby at_234)
          have C331 : CHr Z own_EL s.vm h0 T247.vm h330 := C329.trans (CHr.wr W330 (Safe.arv hZ247.alike V328 (by decide)) C329.1)
          have N330 := Fr.snoc X330 N328 ge_ea
          have V330 : Arv Z h330 ea k40 .char (11 : Int32) [(.int 91), (.int c0), (.int (nar .char c1)), (.int 0), (.int 0), (.int 0), (.int 0), (.int 0), (.int 0), (.int 0), (.int 0)] (.int 0) := Arv.set Ar330 q330 S330 M330 H330 G330 (fits_nar_char _) W330 2 rfl (Nat.le_of_ble_eq_true rfl)
          refine Go.by st330 ?_
          show Go _ _ _ _ T330 (mkF m 235 #[iv p0, iv p1, iv p2, iv p3, iv p4, iv 3, iv c0, iv c1, iv c2, rv va1, rv va2, rv va3, rv ea, rv hs, iv pt, rv st, iv 1, iv 2, un] [])
          rw [own_ncb (t := c1) Q2_0.1 Q2_0.2] at V330
          refine Go.iinc 238 X330 hx (1 : Int32) (L' := #[iv p0, iv p1, iv p2, iv p3, iv p4, iv 3, iv c0, iv c1, iv c2, rv va1, rv va2, rv va3, rv ea, rv hs, iv pt, rv st, iv 1, iv 3, un]) (hb hby at_235) (by decide) rfl rfl rfl ?_
          refine Go.iload2 240 X330 hx (hb hby at_238) rfl rfl ?_
          refine Go.iconst 241 X330 hx (3 : Int32) (hb hby at_240) (by decide) rfl ?_
          refine Go.icmpN 244 X330 hx (hb hby at_241) (XT.ii_lt_f (by decide)) rfl ?_
          refine Go.aload2 246 X330 hx (hb hby at_244) rfl rfl rfl ?_
          refine Go.iload2 248 X330 hx (hb hby at_246) rfl rfl ?_
          refine Go.iload2 250 X330 hx (hb hby at_248) rfl rfl ?_
          obtain ⟨cl332, Ar332, q332, S332, M332, H332, G332⟩ := id V330
          have hin332 : ¬ ((3 : Int32) < 0 ∨ cl332.slots.size ≤ (3 : Int32).toNatClampNeg) := inb_of S332 ⟨by decide, by decide⟩
          obtain ⟨T332, h332, X332, e332, W332, st332⟩ := stC X330 hx hZ247 e330 Ar332 (j := (3 : Int32)) hin332 (g := (mkF m 250 #[iv p0, iv p1, iv p2, iv p3, iv p4, iv 3, iv c0, iv c1, iv c2, rv va1, rv va2, rv va3, rv ea, rv hs, iv pt, rv st, iv 1, iv 3, un] [(.int c2), (.int 3), (.ref ea)])) rfl rfl (hb hby at_250)
          have C333 : CHr Z own_EL s.vm h0 T247.vm h332 := C331.trans (CHr.wr W332 (Safe.arv hZ247.alike V330 (by decide)) C331.1)
          have N332 := Fr.snoc X332 N330 ge_ea
          have V332 : Arv Z h332 ea k40 .char (11 : Int32) [(.int 91), (.int c0), (.int c1), (.int (nar .char c2)), (.int 0), (.int 0), (.int 0), (.int 0), (.int 0), (.int 0), (.int 0)] (.int 0) := Arv.set Ar332 q332 S332 M332 H332 G332 (fits_nar_char _) W332 3 rfl (Nat.le_of_ble_eq_true rfl)
          refine Go.by st332 ?_
          show Go _ _ _ _ T332 (mkF m 251 #[iv p0, iv p1, iv p2, iv p3, iv p4, iv 3, iv c0, iv c1, iv c2, rv va1, rv va2, rv va3, rv ea, rv hs, iv pt, rv st, iv 1, iv 3, un] [])
          rw [own_ncb (t := c2) Q3_0.1 Q3_0.2] at V332
          refine Go.iinc 254 X332 hx (1 : Int32) (L' := #[iv p0, iv p1, iv p2, iv p3, iv p4, iv 3, iv c0, iv c1, iv c2, rv va1, rv va2, rv va3, rv ea, rv hs, iv pt, rv st, iv 1, iv 4, un]) (hb hby at_251) (by decide) rfl rfl rfl ?_
          refine Go.iload2 256 X332 hx (hb hby at_254) rfl rfl ?_
          refine Go.ifN 259 X332 hx (hb hby at_256) (XT.i0_eq_f (by decide)) rfl ?_
          refine Go.aload2 261 X332 hx (hb hby at_259) rfl rfl rfl ?_
          refine Go.iload2 263 X332 hx (hb hby at_261) rfl rfl ?_
          refine Go.bipush 265 X332 hx (93 : Int32) (hb hby at_263) (by decide) rfl ?_
          obtain ⟨cl334, Ar334, q334, S334, M334, H334, G334⟩ := id V332
          have hin334 : ¬ ((4 : Int32) < 0 ∨ cl334.slots.size ≤ (4 : Int32).toNatClampNeg) := inb_of S334 ⟨by decide, by decide⟩
          obtain ⟨T334, h334, X334, e334, W334, st334⟩ := stC X332 hx hZ247 e332 Ar334 (j := (4 : Int32)) hin334 (g := (mkF m 265 #[iv p0, iv p1, iv p2, iv p3, iv p4, iv 3, iv c0, iv c1, iv c2, rv va1, rv va2, rv va3, rv ea, rv hs, iv pt, rv st, iv 1, iv 4, un] [(.int 93), (.int 4), (.ref ea)])) rfl rfl (hb hby at_265)
          have C335 : CHr Z own_EL s.vm h0 T247.vm h334 := C333.trans (CHr.wr W334 (Safe.arv hZ247.alike V332 (by decide)) C333.1)
          have N334 := Fr.snoc X334 N332 ge_ea
          have V334 : Arv Z h334 ea k40 .char (11 : Int32) [(.int 91), (.int c0), (.int c1), (.int c2), (.int (nar .char (93 : Int32))), (.int 0), (.int 0), (.int 0), (.int 0), (.int 0), (.int 0)] (.int 0) := Arv.set Ar334 q334 S334 M334 H334 G334 (fits_nar_char _) W334 4 rfl (Nat.le_of_ble_eq_true rfl)
          refine Go.by st334 ?_
          show Go _ _ _ _ T334 (mkF m 266 #[iv p0, iv p1, iv p2, iv p3, iv p4, iv 3, iv c0, iv c1, iv c2, rv va1, rv va2, rv va3, rv ea, rv hs, iv pt, rv st, iv 1, iv 4, un] [])
          rw [own_ncb (t := (93 : Int32)) (⟨by decide, by decide⟩ : ¬ (93 : Int32) < 0 ∧ ¬ (255 : Int32) < (93 : Int32)).1 (⟨by decide, by decide⟩ : ¬ (93 : Int32) < 0 ∧ ¬ (255 : Int32) < (93 : Int32)).2] at V334
          refine Go.iinc 269 X334 hx (1 : Int32) (L' := #[iv p0, iv p1, iv p2, iv p3, iv p4, iv 3, iv c0, iv c1, iv c2, rv va1, rv va2, rv va3, rv ea, rv hs, iv pt, rv st, iv 1, iv 5, un]) (hb hby at_266) (by decide) rfl rfl rfl ?_
          refine Go.aload2 271 X334 hx (hb hby at_269) rfl rfl rfl ?_
          refine Go.iload2 273 X334 hx (hb hby at_271) rfl rfl ?_
          refine Go.bipush 275 X334 hx (58 : Int32) (hb hby at_273) (by decide) rfl ?_
          obtain ⟨cl336, Ar336, q336, S336, M336, H336, G336⟩ := id V334
          have hin336 : ¬ ((5 : Int32) < 0 ∨ cl336.slots.size ≤ (5 : Int32).toNatClampNeg) := inb_of S336 ⟨by decide, by decide⟩
          obtain ⟨T336, h336, X336, e336, W336, st336⟩ := stC X334 hx hZ247 e334 Ar336 (j := (5 : Int32)) hin336 (g := (mkF m 275 #[iv p0, iv p1, iv p2, iv p3, iv p4, iv 3, iv c0, iv c1, iv c2, rv va1, rv va2, rv va3, rv ea, rv hs, iv pt, rv st, iv 1, iv 5, un] [(.int 58), (.int 5), (.ref ea)])) rfl rfl (hb hby at_275)
          have C337 : CHr Z own_EL s.vm h0 T247.vm h336 := C335.trans (CHr.wr W336 (Safe.arv hZ247.alike V334 (by decide)) C335.1)
          have N336 := Fr.snoc X336 N334 ge_ea
          have V336 : Arv Z h336 ea k40 .char (11 : Int32) [(.int 91), (.int c0), (.int c1), (.int c2), (.int 93), (.int (nar .char (58 : Int32))), (.int 0), (.int 0), (.int 0), (.int 0), (.int 0)] (.int 0) := Arv.set Ar336 q336 S336 M336 H336 G336 (fits_nar_char _) W336 5 rfl (Nat.le_of_ble_eq_true rfl)
          refine Go.by st336 ?_
          show Go _ _ _ _ T336 (mkF m 276 #[iv p0, iv p1, iv p2, iv p3, iv p4, iv 3, iv c0, iv c1, iv c2, rv va1, rv va2, rv va3, rv ea, rv hs, iv pt, rv st, iv 1, iv 5, un] [])
          rw [own_ncb (t := (58 : Int32)) (⟨by decide, by decide⟩ : ¬ (58 : Int32) < 0 ∧ ¬ (255 : Int32) < (58 : Int32)).1 (⟨by decide, by decide⟩ : ¬ (58 : Int32) < 0 ∧ ¬ (255 : Int32) < (58 : Int32)).2] at V336
          refine Go.iinc 279 X336 hx (1 : Int32) (L' := #[iv p0, iv p1, iv p2, iv p3, iv p4, iv 3, iv c0, iv c1, iv c2, rv va1, rv va2, rv va3, rv ea, rv hs, iv pt, rv st, iv 1, iv 6, un]) (hb hby at_276) (by decide) rfl rfl rfl ?_
          have F338 : Keep T247.heap h326 [ea] := (Keep.refl T247.heap [ea]).wr W326 (Or.inl (List.mem_of_getElem? (i := 0) rfl))
          have F339 : Keep T247.heap h328 [ea] := F338.wr W328 (Or.inl (List.mem_of_getElem? (i := 0) rfl))
          have F340 : Keep T247.heap h330 [ea] := F339.wr W330 (Or.inl (List.mem_of_getElem? (i := 0) rfl))
          have F341 : Keep T247.heap h332 [ea] := F340.wr W332 (Or.inl (List.mem_of_getElem? (i := 0) rfl))
          have F342 : Keep T247.heap h334 [ea] := F341.wr W334 (Or.inl (List.mem_of_getElem? (i := 0) rfl))
          have F343 : Keep T247.heap h336 [ea] := F342.wr W336 (Or.inl (List.mem_of_getElem? (i := 0) rfl))
          have F344 : Exa Z h336 st "java/lang/String" := Q247_0.keep F343
          have F345 : Fld Z h336 st "java/lang/String" "coder" "B" (.int 0) := Q247_1.keep F343 (ninS (Ne.symm ne_ea_st) nin0)
          have F346 : Fld Z h336 st "java/lang/String" "value" "[B" (.ref sv) := Q247_2.keep F343 (ninS (Ne.symm ne_ea_st) nin0)
          have F347 : Arv Z h336 sv ksv .byte (Int32.ofNat ((((([(.int 91)] : List Value) ++ ([(.int (own_b c0)), (.int (own_b c1)), (.int (own_b c2))] : List Value)) ++ ([(.int 93)] : List Value)) ++ ([(.int 58)] : List Value)) ++ own_dg pt).length) ((((([(.int 91)] : List Value) ++ ([(.int (own_b c0)), (.int (own_b c1)), (.int (own_b c2))] : List Value)) ++ ([(.int 93)] : List Value)) ++ ([(.int 58)] : List Value)) ++ own_dg pt) (.int 0) := Q247_3.keep F343 (ninS (Ne.symm ne_ea_sv) nin0)
          have Ve : Arv Z h336 ea k40 .char (11 : Int32) (([(.int 91), (.int c0), (.int c1), (.int c2), (.int 93), (.int 58)] : List Value) ++ ([] : List Value)) (.int 0) := Arv.pad V336 (fun i => (pad_rep [(.int 91), (.int c0), (.int c1), (.int c2), (.int 93), (.int 58)] (.int 0) 5 i).symm)
          have F348 : n0 ≤ T247.heap.size := Nat.le_trans F244 K247.1
          have F349 : n0 ≤ h326.size := Nat.le_trans F348 (Nat.le_of_eq (Wr.size W326).symm)
          have F350 : n0 ≤ h328.size := Nat.le_trans F349 (Nat.le_of_eq (Wr.size W328).symm)
          have F351 : n0 ≤ h330.size := Nat.le_trans F350 (Nat.le_of_eq (Wr.size W330).symm)
          have F352 : n0 ≤ h332.size := Nat.le_trans F351 (Nat.le_of_eq (Wr.size W332).symm)
          have F353 : n0 ≤ h334.size := Nat.le_trans F352 (Nat.le_of_eq (Wr.size W334).symm)
          have F354 : n0 ≤ h336.size := Nat.le_trans F353 (Nat.le_of_eq (Wr.size W336).symm)
          have F355 : Old Z n0 T247.heap := F239.keep K247 all0
          have F356 : Old Z n0 h326 := F355.wr W326 ge_ea
          have F357 : Old Z n0 h328 := F356.wr W328 ge_ea
          have F358 : Old Z n0 h330 := F357.wr W330 ge_ea
          have F359 : Old Z n0 h332 := F358.wr W332 ge_ea
          have F360 : Old Z n0 h334 := F359.wr W334 ge_ea
          have F361 : Old Z n0 h336 := F360.wr W336 ge_ea
          have F362 : T247.heap.size ≤ h326.size := Nat.le_trans (Nat.le_refl T247.heap.size) (Nat.le_of_eq (Wr.size W326).symm)
          have F363 : T247.heap.size ≤ h328.size := Nat.le_trans F362 (Nat.le_of_eq (Wr.size W328).symm)
          have F364 : T247.heap.size ≤ h330.size := Nat.le_trans F363 (Nat.le_of_eq (Wr.size W330).symm)
          have F365 : T247.heap.size ≤ h332.size := Nat.le_trans F364 (Nat.le_of_eq (Wr.size W332).symm)
          have F366 : T247.heap.size ≤ h334.size := Nat.le_trans F365 (Nat.le_of_eq (Wr.size W334).symm)
          have F367 : T247.heap.size ≤ h336.size := Nat.le_trans F366 (Nat.le_of_eq (Wr.size W336).symm)
          exact J72 _ _ _ _ _ st sv ksv ([(.int 91), (.int (own_b c0)), (.int (own_b c1)), (.int (own_b c2)), (.int 93), (.int 58)]) ([(.int 91), (.int c0), (.int c1), (.int c2), (.int 93), (.int 58)]) pt (iv 3) (rv hs) (iv 1) (X336.more (by decide) (by decide)) e336 N336 F354 F361 C337 F367 hS247 hZ247 hown247 F344 F345 F346 F347 Ve (Ne.symm ne_ea_sv) (Ne.symm ne_ea_st) hp rfl (Nat.le_of_ble_eq_true rfl) (own_sC (own_pl (91 : Int32) (by decide)) (own_sC (own_pb Q1_0) (own_sC (own_pb Q2_0) (own_sC (own_pb Q3_0) (own_sC (own_pl (93 : Int32) (by decide)) (own_sC (own_pl (58 : Int32) (by decide)) own_s0))))))
        · intro J324
          show Go _ _ _ _ T247 (mkF m 158 #[iv p0, iv p1, iv p2, iv p3, iv p4, iv 3, iv c0, iv c1, iv c2, rv va1, rv va2, rv va3, rv ea, rv hs, iv pt, rv st, un, un, un] [(.int 58), (.int c0)])
          by_cases hb368 : c0 = (58 : Int32)
          · refine Go.icmpY 187 X247 hx (hb hby at_158) (XT.ii_eq_t hb368) (by decide) (by decide) ?_
            refine Go.iconst 188 X247 hx (1 : Int32) (hb hby at_187) (by decide) rfl ?_
            refine Go.goto 192 X247 hx (hb hby at_188) (by decide) (by decide) ?_
            exact J324 _ rfl
          · refine Go.icmpN 161 X247 hx (hb hby at_158) (XT.ii_eq_f hb368) rfl ?_
            refine Go.iload2 163 X247 hx (hb hby at_161) rfl rfl ?_
            refine Go.iconst 164 X247 hx (2 : Int32) (hb hby at_163) (by decide) rfl ?_
            refine Go.icmpN 167 X247 hx (hb hby at_164) (XT.ii_lt_f (by decide)) rfl ?_
            refine Go.iload2 169 X247 hx (hb hby at_167) rfl rfl ?_
            refine Go.bipush 171 X247 hx (58 : Int32) (hb hby at_169) (by decide) rfl ?_
            by_cases hb369 : c1 = (58 : Int32)
            · refine Go.icmpY 187 X247 hx (hb hby at_171) (XT.ii_eq_t hb369) (by decide) (by decide) ?_
              refine Go.iconst 188 X247 hx (1 : Int32) (hb hby at_187) (by decide) rfl ?_
              refine Go.goto 192 X247 hx (hb hby at_188) (by decide) (by decide) ?_
              exact J324 _ rfl
            · refine Go.icmpN 174 X247 hx (hb hby at_171) (XT.ii_eq_f hb369) rfl ?_
              refine Go.iload2 176 X247 hx (hb hby at_174) rfl rfl ?_
              refine Go.iconst 177 X247 hx (3 : Int32) (hb hby at_176) (by decide) rfl ?_
              refine Go.icmpN 180 X247 hx (hb hby at_177) (XT.ii_lt_f (by decide)) rfl ?_
              refine Go.iload2 182 X247 hx (hb hby at_180) rfl rfl ?_
              refine Go.bipush 184 X247 hx (58 : Int32) (hb hby at_182) (by decide) rfl ?_
              by_cases hb370 : c2 = (58 : Int32)
              · refine Go.icmpN 187 X247 hx (hb hby at_184) (XT.ii_ne_f hb370) rfl ?_
                refine Go.iconst 188 X247 hx (1 : Int32) (hb hby at_187) (by decide) rfl ?_
                refine Go.goto 192 X247 hx (hb hby at_188) (by decide) (by decide) ?_
                exact J324 _ rfl
              · refine Go.icmpY 191 X247 hx (hb hby at_184) (XT.ii_ne_t hb370) (by decide) (by decide) ?_
                refine Go.iconst 192 X247 hx (0 : Int32) (hb hby at_191) (by decide) rfl ?_
                exact absurd hC (own_nmC (fun z => hb368 ((own_58 Q1_0).mp z)) (own_nmC (fun z => hb369 ((own_58 Q2_0).mp z)) (own_nmC (fun z => hb370 ((own_58 Q3_0).mp z)) own_nm0)))
    · rcases hcs with ⟨rfl, rfl⟩ | ⟨rfl, rfl⟩ | ⟨rfl, rfl⟩
      · show Go _ _ _ _ T247 (mkF m 158 #[iv p0, iv p1, iv p2, iv p3, iv p4, iv 1, iv c0, iv c1, iv c2, rv va1, rv va2, rv va3, rv ea, rv hs, iv pt, rv st, un, un, un] [(.int 58), (.int c0)])
        refine Go.icmpN 161 X247 hx (hb hby at_158) (XT.ii_eq_f (fun z => hC (own_mH ((own_58 Q1_0).mpr z)))) rfl ?_
        refine Go.iload2 163 X247 hx (hb hby at_161) rfl rfl ?_
        refine Go.iconst 164 X247 hx (2 : Int32) (hb hby at_163) (by decide) rfl ?_
        refine Go.icmpY 174 X247 hx (hb hby at_164) (XT.ii_lt_t (by decide)) (by decide) (by decide) ?_
        refine Go.iload2 176 X247 hx (hb hby at_174) rfl rfl ?_
        refine Go.iconst 177 X247 hx (3 : Int32) (hb hby at_176) (by decide) rfl ?_
        refine Go.icmpY 191 X247 hx (hb hby at_177) (XT.ii_lt_t (by decide)) (by decide) (by decide) ?_
        refine Go.iconst 192 X247 hx (0 : Int32) (hb hby at_191) (by decide) rfl ?_
        refine Go.istore2 194 X247 hx (L' := #[iv p0, iv p1, iv p2, iv p3, iv p4, iv 1, iv c0, iv c1, iv c2, rv va1, rv va2, rv va3, rv ea, rv hs, iv pt, rv st, iv 0, un, un]) (hb hby at_192) rfl rfl ?_
        refine Go.iconst 195 X247 hx (0 : Int32) (hb hby at_194) (by decide) rfl ?_
        refine Go.istore2 197 X247 hx (L' := #[iv p0, iv p1, iv p2, iv p3, iv p4, iv 1, iv c0, iv c1, iv c2, rv va1, rv va2, rv va3, rv ea, rv hs, iv pt, rv st, iv 0, iv 0, un]) (hb hby at_195) rfl rfl ?_
        refine Go.iload2 199 X247 hx (hb hby at_197) rfl rfl ?_
        refine Go.ifY 212 X247 hx (hb hby at_199) (XT.i0_eq_t rfl) (by decide) (by decide) ?_
        refine Go.aload2 214 X247 hx (hb hby at_212) rfl rfl rfl ?_
        refine Go.iload2 216 X247 hx (hb hby at_214) rfl rfl ?_
        refine Go.iload2 218 X247 hx (hb hby at_216) rfl rfl ?_
        have F371 : Arv Z T247.heap ea k40 .char (11 : Int32) [(.int 0), (.int 0), (.int 0), (.int 0), (.int 0), (.int 0), (.int 0), (.int 0), (.int 0), (.int 0), (.int 0)] (.int 0) := F246.keep K247 nin0
        obtain ⟨cl372, Ar372, q372, S372, M372, H372, G372⟩ := id F371
        have hin372 : ¬ ((0 : Int32) < 0 ∨ cl372.slots.size ≤ (0 : Int32).toNatClampNeg) := inb_of S372 ⟨by decide, by decide⟩
        obtain ⟨T372, h372, X372, e372, W372, st372⟩ := stC X247 hx hZ247 rfl Ar372 (j := (0 : Int32)) hin372 (g := (mkF m 218 #[iv p0, iv p1, iv p2, iv p3, iv p4, iv 1, iv c0, iv c1, iv c2, rv va1, rv va2, rv va3, rv ea, rv hs, iv pt, rv st, iv 0, iv 0, un] [(.int c0), (.int 0), (.ref ea)])) rfl rfl (hb hby at_218)
        have C373 : CHr Z own_EL s.vm h0 T247.vm h372 := C250.trans (CHr.wr W372 (Safe.arv hZ247.alike F371 (by decide)) C250.1)
        have N372 := Fr.snoc X372 N247 ge_ea
        have V372 : Arv Z h372 ea k40 .char (11 : Int32) [(.int (nar .char c0)), (.int 0), (.int 0), (.int 0), (.int 0), (.int 0), (.int 0), (.int 0), (.int 0), (.int 0), (.int 0)] (.int 0) := Arv.set Ar372 q372 S372 M372 H372 G372 (fits_nar_char _) W372 0 rfl (Nat.le_of_ble_eq_true rfl)
        refine Go.by st372 ?_
        show Go _ _ _ _ T372 (mkF m 219 #[iv p0, iv p1, iv p2, iv p3, iv p4, iv 1, iv c0, iv c1, iv c2, rv va1, rv va2, rv va3, rv ea, rv hs, iv pt, rv st, iv 0, iv 0, un] [])
        rw [own_ncb (t := c0) Q1_0.1 Q1_0.2] at V372
        refine Go.iinc 222 X372 hx (1 : Int32) (L' := #[iv p0, iv p1, iv p2, iv p3, iv p4, iv 1, iv c0, iv c1, iv c2, rv va1, rv va2, rv va3, rv ea, rv hs, iv pt, rv st, iv 0, iv 1, un]) (hb hby at_219) (by decide) rfl rfl rfl ?_
        refine Go.iload2 224 X372 hx (hb hby at_222) rfl rfl ?_
        refine Go.iconst 225 X372 hx (2 : Int32) (hb hby at_224) (by decide) rfl ?_
        refine Go.icmpY 238 X372 hx (hb hby at_225) (XT.ii_lt_t (by decide)) (by decide) (by decide) ?_
        refine Go.iload2 240 X372 hx (hb hby at_238) rfl rfl ?_
        refine Go.iconst 241 X372 hx (3 : Int32) (hb hby at_240) (by decide) rfl ?_
        refine Go.icmpY 254 X372 hx (hb hby at_241) (XT.ii_lt_t (by decide)) (by decide) (by decide) ?_
        refine Go.iload2 256 X372 hx (hb hby at_254) rfl rfl ?_
        refine Go.ifY 269 X372 hx (hb hby at_256) (XT.i0_eq_t rfl) (by decide) (by decide) ?_
        refine Go.aload2 271 X372 hx (hb hby at_269) rfl rfl rfl ?_
        refine Go.iload2 273 X372 hx (hb hby at_271) rfl rfl ?_
        refine Go.bipush 275 X372 hx (58 : Int32) (hb hby at_273) (by decide) rfl ?_
        obtain ⟨cl374, Ar374, q374, S374, M374, H374, G374⟩ := id V372
        have hin374 : ¬ ((1 : Int32) < 0 ∨ cl374.slots.size ≤ (1 : Int32).toNatClampNeg) := inb_of S374 ⟨by decide, by decide⟩
        obtain ⟨T374, h374, X374, e374, W374, st374⟩ := stC X372 hx hZ247 e372 Ar374 (j := (1 : Int32)) hin374 (g := (mkF m 275 #[iv p0, iv p1, iv p2, iv p3, iv p4, iv 1, iv c0, iv c1, iv c2, rv va1, rv va2, rv va3, rv ea, rv hs, iv pt, rv st, iv 0, iv 1, un] [(.int 58), (.int 1), (.ref ea)])) rfl rfl (hb hby at_275)
        have C375 : CHr Z own_EL s.vm h0 T247.vm h374 := C373.trans (CHr.wr W374 (Safe.arv hZ247.alike V372 (by decide)) C373.1)
        have N374 := Fr.snoc X374 N372 ge_ea
        have V374 : Arv Z h374 ea k40 .char (11 : Int32) [(.int c0), (.int (nar .char (58 : Int32))), (.int 0), (.int 0), (.int 0), (.int 0), (.int 0), (.int 0), (.int 0), (.int 0), (.int 0)] (.int 0) := Arv.set Ar374 q374 S374 M374 H374 G374 (fits_nar_char _) W374 1 rfl (Nat.le_of_ble_eq_true rfl)
        refine Go.by st374 ?_
        show Go _ _ _ _ T374 (mkF m 276 #[iv p0, iv p1, iv p2, iv p3, iv p4, iv 1, iv c0, iv c1, iv c2, rv va1, rv va2, rv va3, rv ea, rv hs, iv pt, rv st, iv 0, iv 1, un] [])
        rw [own_ncb (t := (58 : Int32)) (⟨by decide, by decide⟩ : ¬ (58 : Int32) < 0 ∧ ¬ (255 : Int32) < (58 : Int32)).1 (⟨by decide, by decide⟩ : ¬ (58 : Int32) < 0 ∧ ¬ (255 : Int32) < (58 : Int32)).2] at V374
        refine Go.iinc 279 X374 hx (1 : Int32) (L' := #[iv p0, iv p1, iv p2, iv p3, iv p4, iv 1, iv c0, iv c1, iv c2, rv va1, rv va2, rv va3, rv ea, rv hs, iv pt, rv st, iv 0, iv 2, un]) (hb hby at_276) (by decide) rfl rfl rfl ?_
        have F376 : Keep T247.heap h372 [ea] := (Keep.refl T247.heap [ea]).wr W372 (Or.inl (List.mem_of_getElem? (i := 0) rfl))
        have F377 : Keep T247.heap h374 [ea] := F376.wr W374 (Or.inl (List.mem_of_getElem? (i := 0) rfl))
        have F378 : Exa Z h374 st "java/lang/String" := Q247_0.keep F377
        have F379 : Fld Z h374 st "java/lang/String" "coder" "B" (.int 0) := Q247_1.keep F377 (ninS (Ne.symm ne_ea_st) nin0)
        have F380 : Fld Z h374 st "java/lang/String" "value" "[B" (.ref sv) := Q247_2.keep F377 (ninS (Ne.symm ne_ea_st) nin0)
        have F381 : Arv Z h374 sv ksv .byte (Int32.ofNat ((([(.int (own_b c0))] : List Value) ++ ([(.int 58)] : List Value)) ++ own_dg pt).length) ((([(.int (own_b c0))] : List Value) ++ ([(.int 58)] : List Value)) ++ own_dg pt) (.int 0) := Q247_3.keep F377 (ninS (Ne.symm ne_ea_sv) nin0)
        have Ve : Arv Z h374 ea k40 .char (11 : Int32) (([(.int c0), (.int 58)] : List Value) ++ ([] : List Value)) (.int 0) := Arv.pad V374 (fun i => (pad_rep [(.int c0), (.int 58)] (.int 0) 9 i).symm)
        have F382 : n0 ≤ T247.heap.size := Nat.le_trans F244 K247.1
        have F383 : n0 ≤ h372.size := Nat.le_trans F382 (Nat.le_of_eq (Wr.size W372).symm)
        have F384 : n0 ≤ h374.size := Nat.le_trans F383 (Nat.le_of_eq (Wr.size W374).symm)
        have F385 : Old Z n0 T247.heap := F239.keep K247 all0
        have F386 : Old Z n0 h372 := F385.wr W372 ge_ea
        have F387 : Old Z n0 h374 := F386.wr W374 ge_ea
        have F388 : T247.heap.size ≤ h372.size := Nat.le_trans (Nat.le_refl T247.heap.size) (Nat.le_of_eq (Wr.size W372).symm)
        have F389 : T247.heap.size ≤ h374.size := Nat.le_trans F388 (Nat.le_of_eq (Wr.size W374).symm)
        exact J72 _ _ _ _ _ st sv ksv ([(.int (own_b c0)), (.int 58)]) ([(.int c0), (.int 58)]) pt (iv 1) (rv hs) (iv 0) (X374.more (by decide) (by decide)) e374 N374 F384 F387 C375 F389 hS247 hZ247 hown247 F378 F379 F380 F381 Ve (Ne.symm ne_ea_sv) (Ne.symm ne_ea_st) hp rfl (Nat.le_of_ble_eq_true rfl) (own_sC (own_pb Q1_0) (own_sC (own_pl (58 : Int32) (by decide)) own_s0))
      · show Go _ _ _ _ T247 (mkF m 158 #[iv p0, iv p1, iv p2, iv p3, iv p4, iv 2, iv c0, iv c1, iv c2, rv va1, rv va2, rv va3, rv ea, rv hs, iv pt, rv st, un, un, un] [(.int 58), (.int c0)])
        refine Go.icmpN 161 X247 hx (hb hby at_158) (XT.ii_eq_f (fun z => hC (own_mH ((own_58 Q1_0).mpr z)))) rfl ?_
        refine Go.iload2 163 X247 hx (hb hby at_161) rfl rfl ?_
        refine Go.iconst 164 X247 hx (2 : Int32) (hb hby at_163) (by decide) rfl ?_
        refine Go.icmpN 167 X247 hx (hb hby at_164) (XT.ii_lt_f (by decide)) rfl ?_
        refine Go.iload2 169 X247 hx (hb hby at_167) rfl rfl ?_
        refine Go.bipush 171 X247 hx (58 : Int32) (hb hby at_169) (by decide) rfl ?_
        refine Go.icmpN 174 X247 hx (hb hby at_171) (XT.ii_eq_f (fun z => hC (own_mT (own_mH ((own_58 Q2_0).mpr z))))) rfl ?_
        refine Go.iload2 176 X247 hx (hb hby at_174) rfl rfl ?_
        refine Go.iconst 177 X247 hx (3 : Int32) (hb hby at_176) (by decide) rfl ?_
        refine Go.icmpY 191 X247 hx (hb hby at_177) (XT.ii_lt_t (by decide)) (by decide) (by decide) ?_
        refine Go.iconst 192 X247 hx (0 : Int32) (hb hby at_191) (by decide) rfl ?_
        refine Go.istore2 194 X247 hx (L' := #[iv p0, iv p1, iv p2, iv p3, iv p4, iv 2, iv c0, iv c1, iv c2, rv va1, rv va2, rv va3, rv ea, rv hs, iv pt, rv st, iv 0, un, un]) (hb hby at_192) rfl rfl ?_
        refine Go.iconst 195 X247 hx (0 : Int32) (hb hby at_194) (by decide) rfl ?_
        refine Go.istore2 197 X247 hx (L' := #[iv p0, iv p1, iv p2, iv p3, iv p4, iv 2, iv c0, iv c1, iv c2, rv va1, rv va2, rv va3, rv ea, rv hs, iv pt, rv st, iv 0, iv 0, un]) (hb hby at_195) rfl rfl ?_
        refine Go.iload2 199 X247 hx (hb hby at_197) rfl rfl ?_
        refine Go.ifY 212 X247 hx (hb hby at_199) (XT.i0_eq_t rfl) (by decide) (by decide) ?_
        refine Go.aload2 214 X247 hx (hb hby at_212) rfl rfl rfl ?_
        refine Go.iload2 216 X247 hx (hb hby at_214) rfl rfl ?_
        refine Go.iload2 218 X247 hx (hb hby at_216) rfl rfl ?_
        have F390 : Arv Z T247.heap ea k40 .char (11 : Int32) [(.int 0), (.int 0), (.int 0), (.int 0), (.int 0), (.int 0), (.int 0), (.int 0), (.int 0), (.int 0), (.int 0)] (.int 0) := F246.keep K247 nin0
        obtain ⟨cl391, Ar391, q391, S391, M391, H391, G391⟩ := id F390
        have hin391 : ¬ ((0 : Int32) < 0 ∨ cl391.slots.size ≤ (0 : Int32).toNatClampNeg) := inb_of S391 ⟨by decide, by decide⟩
        obtain ⟨T391, h391, X391, e391, W391, st391⟩ := stC X247 hx hZ247 rfl Ar391 (j := (0 : Int32)) hin391 (g := (mkF m 218 #[iv p0, iv p1, iv p2, iv p3, iv p4, iv 2, iv c0, iv c1, iv c2, rv va1, rv va2, rv va3, rv ea, rv hs, iv pt, rv st, iv 0, iv 0, un] [(.int c0), (.int 0), (.ref ea)])) rfl rfl (hb hby at_218)
        have C392 : CHr Z own_EL s.vm h0 T247.vm h391 := C250.trans (CHr.wr W391 (Safe.arv hZ247.alike F390 (by decide)) C250.1)
        have N391 := Fr.snoc X391 N247 ge_ea
        have V391 : Arv Z h391 ea k40 .char (11 : Int32) [(.int (nar .char c0)), (.int 0), (.int 0), (.int 0), (.int 0), (.int 0), (.int 0), (.int 0), (.int 0), (.int 0), (.int 0)] (.int 0) := Arv.set Ar391 q391 S391 M391 H391 G391 (fits_nar_char _) W391 0 rfl (Nat.le_of_ble_eq_true rfl)
        refine Go.by st391 ?_
        show Go _ _ _ _ T391 (mkF m 219 #[iv p0, iv p1, iv p2, iv p3, iv p4, iv 2, iv c0, iv c1, iv c2, rv va1, rv va2, rv va3, rv ea, rv hs, iv pt, rv st, iv 0, iv 0, un] [])
        rw [own_ncb (t := c0) Q1_0.1 Q1_0.2] at V391
        refine Go.iinc 222 X391 hx (1 : Int32) (L' := #[iv p0, iv p1, iv p2, iv p3, iv p4, iv 2, iv c0, iv c1, iv c2, rv va1, rv va2, rv va3, rv ea, rv hs, iv pt, rv st, iv 0, iv 1, un]) (hb hby at_219) (by decide) rfl rfl rfl ?_
        refine Go.iload2 224 X391 hx (hb hby at_222) rfl rfl ?_
        refine Go.iconst 225 X391 hx (2 : Int32) (hb hby at_224) (by decide) rfl ?_
        refine Go.icmpN 228 X391 hx (hb hby at_225) (XT.ii_lt_f (by decide)) rfl ?_
        refine Go.aload2 230 X391 hx (hb hby at_228) rfl rfl rfl ?_
        refine Go.iload2 232 X391 hx (hb hby at_230) rfl rfl ?_
        refine Go.iload2 234 X391 hx (hb hby at_232) rfl rfl ?_
        obtain ⟨cl393, Ar393, q393, S393, M393, H393, G393⟩ := id V391
        have hin393 : ¬ ((1 : Int32) < 0 ∨ cl393.slots.size ≤ (1 : Int32).toNatClampNeg) := inb_of S393 ⟨by decide, by decide⟩
        obtain ⟨T393, h393, X393, e393, W393, st393⟩ := stC X391 hx hZ247 e391 Ar393 (j := (1 : Int32)) hin393 (g := (mkF m 234 #[iv p0, iv p1, iv p2, iv p3, iv p4, iv 2, iv c0, iv c1, iv c2, rv va1, rv va2, rv va3, rv ea, rv hs, iv pt, rv st, iv 0, iv 1, un] [(.int c1), (.int 1), (.ref ea)])) rfl rfl (hb hby at_234)
        have C394 : CHr Z own_EL s.vm h0 T247.vm h393 := C392.trans (CHr.wr W393 (Safe.arv hZ247.alike V391 (by decide)) C392.1)
        have N393 := Fr.snoc X393 N391 ge_ea
        have V393 : Arv Z h393 ea k40 .char (11 : Int32) [(.int c0), (.int (nar .char c1)), (.int 0), (.int 0), (.int 0), (.int 0), (.int 0), (.int 0), (.int 0), (.int 0), (.int 0)] (.int 0) := Arv.set Ar393 q393 S393 M393 H393 G393 (fits_nar_char _) W393 1 rfl (Nat.le_of_ble_eq_true rfl)
        refine Go.by st393 ?_
        show Go _ _ _ _ T393 (mkF m 235 #[iv p0, iv p1, iv p2, iv p3, iv p4, iv 2, iv c0, iv c1, iv c2, rv va1, rv va2, rv va3, rv ea, rv hs, iv pt, rv st, iv 0, iv 1, un] [])
        rw [own_ncb (t := c1) Q2_0.1 Q2_0.2] at V393
        refine Go.iinc 238 X393 hx (1 : Int32) (L' := #[iv p0, iv p1, iv p2, iv p3, iv p4, iv 2, iv c0, iv c1, iv c2, rv va1, rv va2, rv va3, rv ea, rv hs, iv pt, rv st, iv 0, iv 2, un]) (hb hby at_235) (by decide) rfl rfl rfl ?_
        refine Go.iload2 240 X393 hx (hb hby at_238) rfl rfl ?_
        refine Go.iconst 241 X393 hx (3 : Int32) (hb hby at_240) (by decide) rfl ?_
        refine Go.icmpY 254 X393 hx (hb hby at_241) (XT.ii_lt_t (by decide)) (by decide) (by decide) ?_
        refine Go.iload2 256 X393 hx (hb hby at_254) rfl rfl ?_
        refine Go.ifY 269 X393 hx (hb hby at_256) (XT.i0_eq_t rfl) (by decide) (by decide) ?_
        refine Go.aload2 271 X393 hx (hb hby at_269) rfl rfl rfl ?_
        refine Go.iload2 273 X393 hx (hb hby at_271) rfl rfl ?_
        refine Go.bipush 275 X393 hx (58 : Int32) (hb hby at_273) (by decide) rfl ?_
        obtain ⟨cl395, Ar395, q395, S395, M395, H395, G395⟩ := id V393
        have hin395 : ¬ ((2 : Int32) < 0 ∨ cl395.slots.size ≤ (2 : Int32).toNatClampNeg) := inb_of S395 ⟨by decide, by decide⟩
        obtain ⟨T395, h395, X395, e395, W395, st395⟩ := stC X393 hx hZ247 e393 Ar395 (j := (2 : Int32)) hin395 (g := (mkF m 275 #[iv p0, iv p1, iv p2, iv p3, iv p4, iv 2, iv c0, iv c1, iv c2, rv va1, rv va2, rv va3, rv ea, rv hs, iv pt, rv st, iv 0, iv 2, un] [(.int 58), (.int 2), (.ref ea)])) rfl rfl (hb hby at_275)
        have C396 : CHr Z own_EL s.vm h0 T247.vm h395 := C394.trans (CHr.wr W395 (Safe.arv hZ247.alike V393 (by decide)) C394.1)
        have N395 := Fr.snoc X395 N393 ge_ea
        have V395 : Arv Z h395 ea k40 .char (11 : Int32) [(.int c0), (.int c1), (.int (nar .char (58 : Int32))), (.int 0), (.int 0), (.int 0), (.int 0), (.int 0), (.int 0), (.int 0), (.int 0)] (.int 0) := Arv.set Ar395 q395 S395 M395 H395 G395 (fits_nar_char _) W395 2 rfl (Nat.le_of_ble_eq_true rfl)
        refine Go.by st395 ?_
        show Go _ _ _ _ T395 (mkF m 276 #[iv p0, iv p1, iv p2, iv p3, iv p4, iv 2, iv c0, iv c1, iv c2, rv va1, rv va2, rv va3, rv ea, rv hs, iv pt, rv st, iv 0, iv 2, un] [])
        rw [own_ncb (t := (58 : Int32)) (⟨by decide, by decide⟩ : ¬ (58 : Int32) < 0 ∧ ¬ (255 : Int32) < (58 : Int32)).1 (⟨by decide, by decide⟩ : ¬ (58 : Int32) < 0 ∧ ¬ (255 : Int32) < (58 : Int32)).2] at V395
        refine Go.iinc 279 X395 hx (1 : Int32) (L' := #[iv p0, iv p1, iv p2, iv p3, iv p4, iv 2, iv c0, iv c1, iv c2, rv va1, rv va2, rv va3, rv ea, rv hs, iv pt, rv st, iv 0, iv 3, un]) (hb hby at_276) (by decide) rfl rfl rfl ?_
        have F397 : Keep T247.heap h391 [ea] := (Keep.refl T247.heap [ea]).wr W391 (Or.inl (List.mem_of_getElem? (i := 0) rfl))
        have F398 : Keep T247.heap h393 [ea] := F397.wr W393 (Or.inl (List.mem_of_getElem? (i := 0) rfl))
        have F399 : Keep T247.heap h395 [ea] := F398.wr W395 (Or.inl (List.mem_of_getElem? (i := 0) rfl))
        have F400 : Exa Z h395 st "java/lang/String" := Q247_0.keep F399
        have F401 : Fld Z h395 st "java/lang/String" "coder" "B" (.int 0) := Q247_1.keep F399 (ninS (Ne.symm ne_ea_st) nin0)
        have F402 : Fld Z h395 st "java/lang/String" "value" "[B" (.ref sv) := Q247_2.keep F399 (ninS (Ne.symm ne_ea_st) nin0)
        have F403 : Arv Z h395 sv ksv .byte (Int32.ofNat ((([(.int (own_b c0)), (.int (own_b c1))] : List Value) ++ ([(.int 58)] : List Value)) ++ own_dg pt).length) ((([(.int (own_b c0)), (.int (own_b c1))] : List Value) ++ ([(.int 58)] : List Value)) ++ own_dg pt) (.int 0) := Q247_3.keep F399 (ninS (Ne.symm ne_ea_sv) nin0)
        have Ve : Arv Z h395 ea k40 .char (11 : Int32) (([(.int c0), (.int c1), (.int 58)] : List Value) ++ ([] : List Value)) (.int 0) := Arv.pad V395 (fun i => (pad_rep [(.int c0), (.int c1), (.int 58)] (.int 0) 8 i).symm)
        have F404 : n0 ≤ T247.heap.size := Nat.le_trans F244 K247.1
        have F405 : n0 ≤ h391.size := Nat.le_trans F404 (Nat.le_of_eq (Wr.size W391).symm)
        have F406 : n0 ≤ h393.size := Nat.le_trans F405 (Nat.le_of_eq (Wr.size W393).symm)
        have F407 : n0 ≤ h395.size := Nat.le_trans F406 (Nat.le_of_eq (Wr.size W395).symm)
        have F408 : Old Z n0 T247.heap := F239.keep K247 all0
        have F409 : Old Z n0 h391 := F408.wr W391 ge_ea
        have F410 : Old Z n0 h393 := F409.wr W393 ge_ea
        have F411 : Old Z n0 h395 := F410.wr W395 ge_ea
        have F412 : T247.heap.size ≤ h391.size := Nat.le_trans (Nat.le_refl T247.heap.size) (Nat.le_of_eq (Wr.size W391).symm)
        have F413 : T247.heap.size ≤ h393.size := Nat.le_trans F412 (Nat.le_of_eq (Wr.size W393).symm)
        have F414 : T247.heap.size ≤ h395.size := Nat.le_trans F413 (Nat.le_of_eq (Wr.size W395).symm)
        exact J72 _ _ _ _ _ st sv ksv ([(.int (own_b c0)), (.int (own_b c1)), (.int 58)]) ([(.int c0), (.int c1), (.int 58)]) pt (iv 2) (rv hs) (iv 0) (X395.more (by decide) (by decide)) e395 N395 F407 F411 C396 F414 hS247 hZ247 hown247 F400 F401 F402 F403 Ve (Ne.symm ne_ea_sv) (Ne.symm ne_ea_st) hp rfl (Nat.le_of_ble_eq_true rfl) (own_sC (own_pb Q1_0) (own_sC (own_pb Q2_0) (own_sC (own_pl (58 : Int32) (by decide)) own_s0)))
      · show Go _ _ _ _ T247 (mkF m 158 #[iv p0, iv p1, iv p2, iv p3, iv p4, iv 3, iv c0, iv c1, iv c2, rv va1, rv va2, rv va3, rv ea, rv hs, iv pt, rv st, un, un, un] [(.int 58), (.int c0)])
        refine Go.icmpN 161 X247 hx (hb hby at_158) (XT.ii_eq_f (fun z => hC (own_mH ((own_58 Q1_0).mpr z)))) rfl ?_
        refine Go.iload2 163 X247 hx (hb hby at_161) rfl rfl ?_
        refine Go.iconst 164 X247 hx (2 : Int32) (hb hby at_163) (by decide) rfl ?_
        refine Go.icmpN 167 X247 hx (hb hby at_164) (XT.ii_lt_f (by decide)) rfl ?_
        refine Go.iload2 169 X247 hx (hb hby at_167) rfl rfl ?_
        refine Go.bipush 171 X247 hx (58 : Int32) (hb hby at_169) (by decide) rfl ?_
        refine Go.icmpN 174 X247 hx (hb hby at_171) (XT.ii_eq_f (fun z => hC (own_mT (own_mH ((own_58 Q2_0).mpr z))))) rfl ?_
        refine Go.iload2 176 X247 hx (hb hby at_174) rfl rfl ?_
        refine Go.iconst 177 X247 hx (3 : Int32) (hb hby at_176) (by decide) rfl ?_
        refine Go.icmpN 180 X247 hx (hb hby at_177) (XT.ii_lt_f (by decide)) rfl ?_
        refine Go.iload2 182 X247 hx (hb hby at_180) rfl rfl ?_
        refine Go.bipush 184 X247 hx (58 : Int32) (hb hby at_182) (by decide) rfl ?_
        refine Go.icmpY 191 X247 hx (hb hby at_184) (XT.ii_ne_t (fun z => hC (own_mT (own_mT (own_mH ((own_58 Q3_0).mpr z)))))) (by decide) (by decide) ?_
        refine Go.iconst 192 X247 hx (0 : Int32) (hb hby at_191) (by decide) rfl ?_
        refine Go.istore2 194 X247 hx (L' := #[iv p0, iv p1, iv p2, iv p3, iv p4, iv 3, iv c0, iv c1, iv c2, rv va1, rv va2, rv va3, rv ea, rv hs, iv pt, rv st, iv 0, un, un]) (hb hby at_192) rfl rfl ?_
        refine Go.iconst 195 X247 hx (0 : Int32) (hb hby at_194) (by decide) rfl ?_
        refine Go.istore2 197 X247 hx (L' := #[iv p0, iv p1, iv p2, iv p3, iv p4, iv 3, iv c0, iv c1, iv c2, rv va1, rv va2, rv va3, rv ea, rv hs, iv pt, rv st, iv 0, iv 0, un]) (hb hby at_195) rfl rfl ?_
        refine Go.iload2 199 X247 hx (hb hby at_197) rfl rfl ?_
        refine Go.ifY 212 X247 hx (hb hby at_199) (XT.i0_eq_t rfl) (by decide) (by decide) ?_
        refine Go.aload2 214 X247 hx (hb hby at_212) rfl rfl rfl ?_
        refine Go.iload2 216 X247 hx (hb hby at_214) rfl rfl ?_
        refine Go.iload2 218 X247 hx (hb hby at_216) rfl rfl ?_
        have F415 : Arv Z T247.heap ea k40 .char (11 : Int32) [(.int 0), (.int 0), (.int 0), (.int 0), (.int 0), (.int 0), (.int 0), (.int 0), (.int 0), (.int 0), (.int 0)] (.int 0) := F246.keep K247 nin0
        obtain ⟨cl416, Ar416, q416, S416, M416, H416, G416⟩ := id F415
        have hin416 : ¬ ((0 : Int32) < 0 ∨ cl416.slots.size ≤ (0 : Int32).toNatClampNeg) := inb_of S416 ⟨by decide, by decide⟩
        obtain ⟨T416, h416, X416, e416, W416, st416⟩ := stC X247 hx hZ247 rfl Ar416 (j := (0 : Int32)) hin416 (g := (mkF m 218 #[iv p0, iv p1, iv p2, iv p3, iv p4, iv 3, iv c0, iv c1, iv c2, rv va1, rv va2, rv va3, rv ea, rv hs, iv pt, rv st, iv 0, iv 0, un] [(.int c0), (.int 0), (.ref ea)])) rfl rfl (hb hby at_218)
        have C417 : CHr Z own_EL s.vm h0 T247.vm h416 := C250.trans (CHr.wr W416 (Safe.arv hZ247.alike F415 (by decide)) C250.1)
        have N416 := Fr.snoc X416 N247 ge_ea
        have V416 : Arv Z h416 ea k40 .char (11 : Int32) [(.int (nar .char c0)), (.int 0), (.int 0), (.int 0), (.int 0), (.int 0), (.int 0), (.int 0), (.int 0), (.int 0), (.int 0)] (.int 0) := Arv.set Ar416 q416 S416 M416 H416 G416 (fits_nar_char _) W416 0 rfl (Nat.le_of_ble_eq_true rfl)
        refine Go.by st416 ?_
        show Go _ _ _ _ T416 (mkF m 219 #[iv p0, iv p1, iv p2, iv p3, iv p4, iv 3, iv c0, iv c1, iv c2, rv va1, rv va2, rv va3, rv ea, rv hs, iv pt, rv st, iv 0, iv 0, un] [])
        rw [own_ncb (t := c0) Q1_0.1 Q1_0.2] at V416
        refine Go.iinc 222 X416 hx (1 : Int32) (L' := #[iv p0, iv p1, iv p2, iv p3, iv p4, iv 3, iv c0, iv c1, iv c2, rv va1, rv va2, rv va3, rv ea, rv hs, iv pt, rv st, iv 0, iv 1, un]) (hb hby at_219) (by decide) rfl rfl rfl ?_
        refine Go.iload2 224 X416 hx (hb hby at_222) rfl rfl ?_
        refine Go.iconst 225 X416 hx (2 : Int32) (hb hby at_224) (by decide) rfl ?_
        refine Go.icmpN 228 X416 hx (hb hby at_225) (XT.ii_lt_f (by decide)) rfl ?_
        refine Go.aload2 230 X416 hx (hb hby at_228) rfl rfl rfl ?_
        refine Go.iload2 232 X416 hx (hb hby at_230) rfl rfl ?_
        refine Go.iload2 234 X416 hx (hb hby at_232) rfl rfl ?_
        obtain ⟨cl418, Ar418, q418, S418, M418, H418, G418⟩ := id V416
        have hin418 : ¬ ((1 : Int32) < 0 ∨ cl418.slots.size ≤ (1 : Int32).toNatClampNeg) := inb_of S418 ⟨by decide, by decide⟩
        obtain ⟨T418, h418, X418, e418, W418, st418⟩ := stC X416 hx hZ247 e416 Ar418 (j := (1 : Int32)) hin418 (g := (mkF m 234 #[iv p0, iv p1, iv p2, iv p3, iv p4, iv 3, iv c0, iv c1, iv c2, rv va1, rv va2, rv va3, rv ea, rv hs, iv pt, rv st, iv 0, iv 1, un] [(.int c1), (.int 1), (.ref ea)])) rfl rfl (hb hby at_234)
        have C419 : CHr Z own_EL s.vm h0 T247.vm h418 := C417.trans (CHr.wr W418 (Safe.arv hZ247.alike V416 (by decide)) C417.1)
        have N418 := Fr.snoc X418 N416 ge_ea
        have V418 : Arv Z h418 ea k40 .char (11 : Int32) [(.int c0), (.int (nar .char c1)), (.int 0), (.int 0), (.int 0), (.int 0), (.int 0), (.int 0), (.int 0), (.int 0), (.int 0)] (.int 0) := Arv.set Ar418 q418 S418 M418 H418 G418 (fits_nar_char _) W418 1 rfl (Nat.le_of_ble_eq_true rfl)
        refine Go.by st418 ?_
        show Go _ _ _ _ T418 (mkF m 235 #[iv p0, iv p1, iv p2, iv p3, iv p4, iv 3, iv c0, iv c1, iv c2, rv va1, rv va2, rv va3, rv ea, rv hs, iv pt, rv st, iv 0, iv 1, un] [])
        rw [own_ncb (t := c1) Q2_0.1 Q2_0.2] at V418
        refine Go.iinc 238 X418 hx (1 : Int32) (L' := #[iv p0, iv p1, iv p2, iv p3, iv p4, iv 3, iv c0, iv c1, iv c2, rv va1, rv va2, rv va3, rv ea, rv hs, iv pt, rv st, iv 0, iv 2, un]) (hb hby at_235) (by decide) rfl rfl rfl ?_
        refine Go.iload2 240 X418 hx (hb hby at_238) rfl rfl ?_
        refine Go.iconst 241 X418 hx (3 : Int32) (hb hby at_240) (by decide) rfl ?_
        refine Go.icmpN 244 X418 hx (hb hby at_241) (XT.ii_lt_f (by decide)) rfl ?_
        refine Go.aload2 246 X418 hx (hb hby at_244) rfl rfl rfl ?_
        refine Go.iload2 248 X418 hx (hb hby at_246) rfl rfl ?_
        refine Go.iload2 250 X418 hx (hb hby at_248) rfl rfl ?_
        obtain ⟨cl420, Ar420, q420, S420, M420, H420, G420⟩ := id V418
        have hin420 : ¬ ((2 : Int32) < 0 ∨ cl420.slots.size ≤ (2 : Int32).toNatClampNeg) := inb_of S420 ⟨by decide, by decide⟩
        obtain ⟨T420, h420, X420, e420, W420, st420⟩ := stC X418 hx hZ247 e418 Ar420 (j := (2 : Int32)) hin420 (g := (mkF m 250 #[iv p0, iv p1, iv p2, iv p3, iv p4, iv 3, iv c0, iv c1, iv c2, rv va1, rv va2, rv va3, rv ea, rv hs, iv pt, rv st, iv 0, iv 2, un] [(.int c2), (.int 2), (.ref ea)])) rfl rfl (hb hby at_250)
        have C421 : CHr Z own_EL s.vm h0 T247.vm h420 := C419.trans (CHr.wr W420 (Safe.arv hZ247.alike V418 (by decide)) C419.1)
        have N420 := Fr.snoc X420 N418 ge_ea
        have V420 : Arv Z h420 ea k40 .char (11 : Int32) [(.int c0), (.int c1), (.int (nar .char c2)), (.int 0), (.int 0), (.int 0), (.int 0), (.int 0), (.int 0), (.int 0), (.int 0)] (.int 0) := Arv.set Ar420 q420 S420 M420 H420 G420 (fits_nar_char _) W420 2 rfl (Nat.le_of_ble_eq_true rfl)
        refine Go.by st420 ?_
        show Go _ _ _ _ T420 (mkF m 251 #[iv p0, iv p1, iv p2, iv p3, iv p4, iv 3, iv c0, iv c1, iv c2, rv va1, rv va2, rv va3, rv ea, rv hs, iv pt, rv st, iv 0, iv 2, un] [])
        rw [own_ncb (t := c2) Q3_0.1 Q3_0.2] at V420
        refine Go.iinc 254 X420 hx (1 : Int32) (L' := #[iv p0, iv p1, iv p2, iv p3, iv p4, iv 3, iv c0, iv c1, iv c2, rv va1, rv va2, rv va3, rv ea, rv hs, iv pt, rv st, iv 0, iv 3, un]) (hb hby at_251) (by decide) rfl rfl rfl ?_
        refine Go.iload2 256 X420 hx (hb hby at_254) rfl rfl ?_
        refine Go.ifY 269 X420 hx (hb hby at_256) (XT.i0_eq_t rfl) (by decide) (by decide) ?_
        refine Go.aload2 271 X420 hx (hb hby at_269) rfl rfl rfl ?_
        refine Go.iload2 273 X420 hx (hb hby at_271) rfl rfl ?_
        refine Go.bipush 275 X420 hx (58 : Int32) (hb hby at_273) (by decide) rfl ?_
        obtain ⟨cl422, Ar422, q422, S422, M422, H422, G422⟩ := id V420
        have hin422 : ¬ ((3 : Int32) < 0 ∨ cl422.slots.size ≤ (3 : Int32).toNatClampNeg) := inb_of S422 ⟨by decide, by decide⟩
        obtain ⟨T422, h422, X422, e422, W422, st422⟩ := stC X420 hx hZ247 e420 Ar422 (j := (3 : Int32)) hin422 (g := (mkF m 275 #[iv p0, iv p1, iv p2, iv p3, iv p4, iv 3, iv c0, iv c1, iv c2, rv va1, rv va2, rv va3, rv ea, rv hs, iv pt, rv st, iv 0, iv 3, un] [(.int 58), (.int 3), (.ref ea)])) rfl rfl (hb hby at_275)
        have C423 : CHr Z own_EL s.vm h0 T247.vm h422 := C421.trans (CHr.wr W422 (Safe.arv hZ247.alike V420 (by decide)) C421.1)
        have N422 := Fr.snoc X422 N420 ge_ea
        have V422 : Arv Z h422 ea k40 .char (11 : Int32) [(.int c0), (.int c1), (.int c2), (.int (nar .char (58 : Int32))), (.int 0), (.int 0), (.int 0), (.int 0), (.int 0), (.int 0), (.int 0)] (.int 0) := Arv.set Ar422 q422 S422 M422 H422 G422 (fits_nar_char _) W422 3 rfl (Nat.le_of_ble_eq_true rfl)
        refine Go.by st422 ?_
        show Go _ _ _ _ T422 (mkF m 276 #[iv p0, iv p1, iv p2, iv p3, iv p4, iv 3, iv c0, iv c1, iv c2, rv va1, rv va2, rv va3, rv ea, rv hs, iv pt, rv st, iv 0, iv 3, un] [])
        rw [own_ncb (t := (58 : Int32)) (⟨by decide, by decide⟩ : ¬ (58 : Int32) < 0 ∧ ¬ (255 : Int32) < (58 : Int32)).1 (⟨by decide, by decide⟩ : ¬ (58 : Int32) < 0 ∧ ¬ (255 : Int32) < (58 : Int32)).2] at V422
        refine Go.iinc 279 X422 hx (1 : Int32) (L' := #[iv p0, iv p1, iv p2, iv p3, iv p4, iv 3, iv c0, iv c1, iv c2, rv va1, rv va2, rv va3, rv ea, rv hs, iv pt, rv st, iv 0, iv 4, un]) (hb hby at_276) (by decide) rfl rfl rfl ?_
        have F424 : Keep T247.heap h416 [ea] := (Keep.refl T247.heap [ea]).wr W416 (Or.inl (List.mem_of_getElem? (i := 0) rfl))
        have F425 : Keep T247.heap h418 [ea] := F424.wr W418 (Or.inl (List.mem_of_getElem? (i := 0) rfl))
        have F426 : Keep T247.heap h420 [ea] := F425.wr W420 (Or.inl (List.mem_of_getElem? (i := 0) rfl))
        have F427 : Keep T247.heap h422 [ea] := F426.wr W422 (Or.inl (List.mem_of_getElem? (i := 0) rfl))
        have F428 : Exa Z h422 st "java/lang/String" := Q247_0.keep F427
        have F429 : Fld Z h422 st "java/lang/String" "coder" "B" (.int 0) := Q247_1.keep F427 (ninS (Ne.symm ne_ea_st) nin0)
        have F430 : Fld Z h422 st "java/lang/String" "value" "[B" (.ref sv) := Q247_2.keep F427 (ninS (Ne.symm ne_ea_st) nin0)
        have F431 : Arv Z h422 sv ksv .byte (Int32.ofNat ((([(.int (own_b c0)), (.int (own_b c1)), (.int (own_b c2))] : List Value) ++ ([(.int 58)] : List Value)) ++ own_dg pt).length) ((([(.int (own_b c0)), (.int (own_b c1)), (.int (own_b c2))] : List Value) ++ ([(.int 58)] : List Value)) ++ own_dg pt) (.int 0) := Q247_3.keep F427 (ninS (Ne.symm ne_ea_sv) nin0)
        have Ve : Arv Z h422 ea k40 .char (11 : Int32) (([(.int c0), (.int c1), (.int c2), (.int 58)] : List Value) ++ ([] : List Value)) (.int 0) := Arv.pad V422 (fun i => (pad_rep [(.int c0), (.int c1), (.int c2), (.int 58)] (.int 0) 7 i).symm)
        have F432 : n0 ≤ T247.heap.size := Nat.le_trans F244 K247.1
        have F433 : n0 ≤ h416.size := Nat.le_trans F432 (Nat.le_of_eq (Wr.size W416).symm)
        have F434 : n0 ≤ h418.size := Nat.le_trans F433 (Nat.le_of_eq (Wr.size W418).symm)
        have F435 : n0 ≤ h420.size := Nat.le_trans F434 (Nat.le_of_eq (Wr.size W420).symm)
        have F436 : n0 ≤ h422.size := Nat.le_trans F435 (Nat.le_of_eq (Wr.size W422).symm)
        have F437 : Old Z n0 T247.heap := F239.keep K247 all0
        have F438 : Old Z n0 h416 := F437.wr W416 ge_ea
        have F439 : Old Z n0 h418 := F438.wr W418 ge_ea
        have F440 : Old Z n0 h420 := F439.wr W420 ge_ea
        have F441 : Old Z n0 h422 := F440.wr W422 ge_ea
        have F442 : T247.heap.size ≤ h416.size := Nat.le_trans (Nat.le_refl T247.heap.size) (Nat.le_of_eq (Wr.size W416).symm)
        have F443 : T247.heap.size ≤ h418.size := Nat.le_trans F442 (Nat.le_of_eq (Wr.size W418).symm)
        have F444 : T247.heap.size ≤ h420.size := Nat.le_trans F443 (Nat.le_of_eq (Wr.size W420).symm)
        have F445 : T247.heap.size ≤ h422.size := Nat.le_trans F444 (Nat.le_of_eq (Wr.size W422).symm)
        exact J72 _ _ _ _ _ st sv ksv ([(.int (own_b c0)), (.int (own_b c1)), (.int (own_b c2)), (.int 58)]) ([(.int c0), (.int c1), (.int c2), (.int 58)]) pt (iv 3) (rv hs) (iv 0) (X422.more (by decide) (by decide)) e422 N422 F436 F441 C423 F445 hS247 hZ247 hown247 F428 F429 F430 F431 Ve (Ne.symm ne_ea_sv) (Ne.symm ne_ea_st) hp rfl (Nat.le_of_ble_eq_true rfl) (own_sC (own_pb Q1_0) (own_sC (own_pb Q2_0) (own_sC (own_pb Q3_0) (own_sC (own_pl (58 : Int32) (by decide)) own_s0))))
  rcases own_n3 h_nn with rfl | rfl | rfl
  · show Go _ _ _ _ T40 (mkF m 82 #[iv p0, iv p1, iv p2, iv p3, iv p4, iv 1, iv c0, iv c1, iv c2, rv va1, rv va2, rv va3, rv ea, un, un, un, un, un, un] [(.int 1), (.int 1)])
    refine Go.icmpN 85 X40 hx (hb hby at_82) (XT.ii_ne_f rfl) rfl ?_
    have F447 : n0 ≤ h40.size := Nat.le_trans F44 E40.1
    obtain ⟨hs, g446⟩ : ∃ z, z = h40.size := ⟨_, rfl⟩
    have ge_hs : n0 ≤ hs := Nat.le_trans F447 (Nat.le_of_eq g446.symm)
    have F448 : Keep h0 h40 [] := F48.ext E40
    have sz_hs : h0.size ≤ hs := Nat.le_trans F448.1 (Nat.le_of_eq g446.symm)
    have ne_ea_hs : ea ≠ hs := Nat.ne_of_lt (Nat.lt_of_lt_of_le Ea40.lt (Nat.le_of_eq g446.symm))
    have F449 : Exa Z h40 va1 "[C" := F52.ext E40
    have ne_va1_hs : va1 ≠ hs := Nat.ne_of_lt (Nat.lt_of_lt_of_le F449.lt (Nat.le_of_eq g446.symm))
    have F450 : Exa Z h40 va2 "[C" := F56.ext E40
    have ne_va2_hs : va2 ≠ hs := Nat.ne_of_lt (Nat.lt_of_lt_of_le F450.lt (Nat.le_of_eq g446.symm))
    have F451 : Exa Z h40 va3 "[C" := F57.ext E40
    have ne_va3_hs : va3 ≠ hs := Nat.ne_of_lt (Nat.lt_of_lt_of_le F451.lt (Nat.le_of_eq g446.symm))
    obtain ⟨T446, h446, X446, e446, E446, A446, D446, -, st446⟩ := newO X40 hx hZ hown (ow hw 6 rfl) (ow hw 7 rfl) (ow hw 8 rfl) e40 (g := (mkF m 85 #[iv p0, iv p1, iv p2, iv p3, iv p4, iv 1, iv c0, iv c1, iv c2, rv va1, rv va2, rv va3, rv ea, un, un, un, un, un, un] [])) rfl (hb hby at_85) (by decide) (by decide)
    rw [← g446] at A446 D446 st446
    have C452 : CHr Z own_EL s.vm h0 s.vm h446 := C58.trans (CHr.ext E446 C58.1)
    have F_coder_hs : Fld Z h446 hs "java/lang/String" "coder" "B" (.int 0) := D446 (Or.inr (ow hw 32 rfl)) (ty := .byte) (by decide)
    have F_value_hs : Fld Z h446 hs "java/lang/String" "value" "[B" .null := D446 (Or.inr (ow hw 34 rfl)) (ty := (.array .byte)) (by decide)
    refine Go.by st446 ?_
    show Go _ _ _ _ T446 (mkF m 88 #[iv p0, iv p1, iv p2, iv p3, iv p4, iv 1, iv c0, iv c1, iv c2, rv va1, rv va2, rv va3, rv ea, un, un, un, un, un, un] [(.ref hs)])
    refine Go.dup 89 X446 hx (hb hby at_88) rfl rfl ?_
    refine Go.aload2 91 X446 hx (hb hby at_89) rfl rfl rfl ?_
    have F453 : Old Z n0 h4 := O0.ext E4
    have F454 : Old Z n0 h6 := F453.wr W6 ge_va1
    have F455 : Old Z n0 h8 := F454.ext E8
    have F456 : Old Z n0 h15 := F455.wr W15 ge_va2
    have F457 : Old Z n0 h17 := F456.wr W17 ge_va2
    have F458 : Old Z n0 h20 := F457.ext E20
    have F459 : Old Z n0 h32 := F458.wr W32 ge_va3
    have F460 : Old Z n0 h34 := F459.wr W34 ge_va3
    have F461 : Old Z n0 h37 := F460.wr W37 ge_va3
    have F462 : Old Z n0 h40 := F461.ext E40
    have F463 : Old Z n0 h446 := F462.ext E446
    have F464 : Arv Z h8 va1 k4 .char (1 : Int32) [(.int c0)] (.int 0) := V6.ext E8
    have F465 : Arv Z h15 va1 k4 .char (1 : Int32) [(.int c0)] (.int 0) := F464.other W15 ne_va1_va2
    have F466 : Arv Z h17 va1 k4 .char (1 : Int32) [(.int c0)] (.int 0) := F465.other W17 ne_va1_va2
    have F467 : Arv Z h20 va1 k4 .char (1 : Int32) [(.int c0)] (.int 0) := F466.ext E20
    have F468 : Arv Z h32 va1 k4 .char (1 : Int32) [(.int c0)] (.int 0) := F467.other W32 ne_va1_va3
    have F469 : Arv Z h34 va1 k4 .char (1 : Int32) [(.int c0)] (.int 0) := F468.other W34 ne_va1_va3
    have F470 : Arv Z h37 va1 k4 .char (1 : Int32) [(.int c0)] (.int 0) := F469.other W37 ne_va1_va3
    have F471 : Arv Z h40 va1 k4 .char (1 : Int32) [(.int c0)] (.int 0) := F470.ext E40
    have F472 : Arv Z h446 va1 k4 .char (1 : Int32) [(.int c0)] (.int 0) := F471.ext E446
    have F473 : n0 ≤ h446.size := Nat.le_trans F447 E446.1
    have F474 : Keep h0 h446 [] := F448.ext E446
    have F475 : Exa Z h446 ea "[C" := Ea40.ext E446
    have F476 : Exa Z h446 va1 "[C" := F449.ext E446
    have F477 : Exa Z h446 va2 "[C" := F450.ext E446
    have F478 : Exa Z h446 va3 "[C" := F451.ext E446
    have Sf480 : Safe Z own_EL s.vm h446 hs := own_safe hZ.alike A446 F_value_hs
    obtain ⟨_, _, ⟨T479, L479, k479, n479⟩, -, X479, ⟨Lc479, hQ479, l479, y479, z479⟩, st479⟩ := X446.specialBack hx (y := (⟨"java/lang/String", "<init>", "([C)V"⟩ : MethodName)) rfl hown (mvT hZ (ow hw 9 rfl)) (mvT hZ (ow hw 10 rfl)) (mvT hZ (ow hw 11 rfl)) (by decide) (backOf (W := 1) (rmS1_1 l Z a0 hw [] hs va1 k4 c0 cs h446 n0 F473 F463 A446 F_value_hs F_coder_hs ge_hs F472 Q1_0.2 S_cs n_cs) hZ (ow hw 11 rfl) (ow hw 8 rfl) (by decide) (by decide)) (g := (mkF m 91 #[iv p0, iv p1, iv p2, iv p3, iv p4, iv 1, iv c0, iv c1, iv c2, rv va1, rv va2, rv va3, rv ea, un, un, un, un, un, un] [(.ref va1), (.ref hs), (.ref hs)])) rfl (by rw [hml]; rfl) (Steps.refl _) (a := hs) (argsL := [(.ref va1)]) (rest := [(.ref hs)]) (lenOf pd_687 rfl) rfl (by show 2 * 0 + _ ≤ _; exact Nat.le_of_eq rfl) (hb hby at_91) (fun _ _ => ⟨rfl, e446, (by decide : 5 + 1 ≤ _), (by decide : 21 + 1 ≤ _)⟩)
    dsimp only [Pt.U, Pt.locs, Pt.cells, Pt.slots] at X479 l479 y479 z479 st479 hQ479
    subst l479 y479 z479
    obtain ⟨hv, hk, rfl, N479q, K479, Q479_0, Q479_1, Q479_2, Q479_3, Q479_4⟩ := hQ479
    have N479 := Fr.app N37 N479q
    have C481 : CHr Z own_EL s.vm h0 s.vm T479.heap := C452.trans (CHr.keep K479 (sfS Sf480 sf0) C452.1)
    refine Go.to st479 ?_
    show Go _ _ _ _ T479 (mkF m 94 #[iv p0, iv p1, iv p2, iv p3, iv p4, iv 1, iv c0, iv c1, iv c2, rv va1, rv va2, rv va3, rv ea, un, un, un, un, un, un] [(.ref hs)])
    have ge_hv : n0 ≤ hv := Nat.le_trans F473 Q479_4
    have sz_hv : h0.size ≤ hv := Nat.le_trans F474.1 Q479_4
    have ne_ea_hv : ea ≠ hv := Nat.ne_of_lt (Nat.lt_of_lt_of_le F475.lt Q479_4)
    have ne_hs_hv : hs ≠ hv := Nat.ne_of_lt (Nat.lt_of_lt_of_le A446.lt Q479_4)
    have ne_va1_hv : va1 ≠ hv := Nat.ne_of_lt (Nat.lt_of_lt_of_le F472.lt Q479_4)
    have ne_va2_hv : va2 ≠ hv := Nat.ne_of_lt (Nat.lt_of_lt_of_le F477.lt Q479_4)
    have ne_va3_hv : va3 ≠ hv := Nat.ne_of_lt (Nat.lt_of_lt_of_le F478.lt Q479_4)
    refine Go.goto 124 X479 hx (hb hby at_94) (by decide) (by decide) ?_
    have F482 : n0 ≤ T479.heap.size := Nat.le_trans F473 K479.1
    have F483 : Old Z n0 T479.heap := F463.keep K479 (allS ge_hs all0)
    have F484 : s.heap.size ≤ h4.size := Nat.le_trans hk0 E4.1
    have F485 : s.heap.size ≤ h6.size := Nat.le_trans F484 (Nat.le_of_eq (Wr.size W6).symm)
    have F486 : s.heap.size ≤ h8.size := Nat.le_trans F485 E8.1
    have F487 : s.heap.size ≤ h15.size := Nat.le_trans F486 (Nat.le_of_eq (Wr.size W15).symm)
    have F488 : s.heap.size ≤ h17.size := Nat.le_trans F487 (Nat.le_of_eq (Wr.size W17).symm)
    have F489 : s.heap.size ≤ h20.size := Nat.le_trans F488 E20.1
    have F490 : s.heap.size ≤ h32.size := Nat.le_trans F489 (Nat.le_of_eq (Wr.size W32).symm)
    have F491 : s.heap.size ≤ h34.size := Nat.le_trans F490 (Nat.le_of_eq (Wr.size W34).symm)
    have F492 : s.heap.size ≤ h37.size := Nat.le_trans F491 (Nat.le_of_eq (Wr.size W37).symm)
    have F493 : s.heap.size ≤ h40.size := Nat.le_trans F492 E40.1
    have F494 : s.heap.size ≤ h446.size := Nat.le_trans F493 E446.1
    have F495 : s.heap.size ≤ T479.heap.size := Nat.le_trans F494 K479.1
    have F496 : Arv Z h446 ea k40 .char (11 : Int32) [(.int 0), (.int 0), (.int 0), (.int 0), (.int 0), (.int 0), (.int 0), (.int 0), (.int 0), (.int 0), (.int 0)] (.int 0) := V_ea.ext E446
    have F497 : Arv Z T479.heap ea k40 .char (11 : Int32) [(.int 0), (.int 0), (.int 0), (.int 0), (.int 0), (.int 0), (.int 0), (.int 0), (.int 0), (.int 0), (.int 0)] (.int 0) := F496.keep K479 (ninS ne_ea_hs nin0)
    exact J228 _ _ _ _ _ hs hv hk ([(.int (own_b c0))]) (X479.more (by decide) (by decide)) rfl N479 F482 F483 C481 F495 hS0 hZ hown Q479_0 Q479_1 Q479_2 Q479_3 F497 (Or.inl ⟨rfl, rfl⟩)
  · show Go _ _ _ _ T40 (mkF m 82 #[iv p0, iv p1, iv p2, iv p3, iv p4, iv 2, iv c0, iv c1, iv c2, rv va1, rv va2, rv va3, rv ea, un, un, un, un, un, un] [(.int 1), (.int 2)])
    refine Go.icmpY 97 X40 hx (hb hby at_82) (XT.ii_ne_t (by decide)) (by decide) (by decide) ?_
    refine Go.iload2 99 X40 hx (hb hby at_97) rfl rfl ?_
    refine Go.iconst 100 X40 hx (2 : Int32) (hb hby at_99) (by decide) rfl ?_
    refine Go.icmpN 103 X40 hx (hb hby at_100) (XT.ii_ne_f rfl) rfl ?_
    have F499 : n0 ≤ h40.size := Nat.le_trans F44 E40.1
    obtain ⟨hs, g498⟩ : ∃ z, z = h40.size := ⟨_, rfl⟩
    have ge_hs : n0 ≤ hs := Nat.le_trans F499 (Nat.le_of_eq g498.symm)
    have F500 : Keep h0 h40 [] := F48.ext E40
    have sz_hs : h0.size ≤ hs := Nat.le_trans F500.1 (Nat.le_of_eq g498.symm)
    have ne_ea_hs : ea ≠ hs := Nat.ne_of_lt (Nat.lt_of_lt_of_le Ea40.lt (Nat.le_of_eq g498.symm))
    have F501 : Exa Z h40 va1 "[C" := F52.ext E40
    have ne_va1_hs : va1 ≠ hs := Nat.ne_of_lt (Nat.lt_of_lt_of_le F501.lt (Nat.le_of_eq g498.symm))
    have F502 : Exa Z h40 va2 "[C" := F56.ext E40
    have ne_va2_hs : va2 ≠ hs := Nat.ne_of_lt (Nat.lt_of_lt_of_le F502.lt (Nat.le_of_eq g498.symm))
    have F503 : Exa Z h40 va3 "[C" := F57.ext E40
    have ne_va3_hs : va3 ≠ hs := Nat.ne_of_lt (Nat.lt_of_lt_of_le F503.lt (Nat.le_of_eq g498.symm))
    obtain ⟨T498, h498, X498, e498, E498, A498, D498, -, st498⟩ := newO X40 hx hZ hown (ow hw 6 rfl) (ow hw 7 rfl) (ow hw 8 rfl) e40 (g := (mkF m 103 #[iv p0, iv p1, iv p2, iv p3, iv p4, iv 2, iv c0, iv c1, iv c2, rv va1, rv va2, rv va3, rv ea, un, un, un, un, un, un] [])) rfl (hb hby at_103) (by decide) (by decide)
    rw [← g498] at A498 D498 st498
    have C504 : CHr Z own_EL s.vm h0 s.vm h498 := C58.trans (CHr.ext E498 C58.1)
    have F_coder_hs : Fld Z h498 hs "java/lang/String" "coder" "B" (.int 0) := D498 (Or.inr (ow hw 32 rfl)) (ty := .byte) (by decide)
    have F_value_hs : Fld Z h498 hs "java/lang/String" "value" "[B" .null := D498 (Or.inr (ow hw 34 rfl)) (ty := (.array .byte)) (by decide)
    refine Go.by st498 ?_
    show Go _ _ _ _ T498 (mkF m 106 #[iv p0, iv p1, iv p2, iv p3, iv p4, iv 2, iv c0, iv c1, iv c2, rv va1, rv va2, rv va3, rv ea, un, un, un, un, un, un] [(.ref hs)])
    refine Go.dup 107 X498 hx (hb hby at_106) rfl rfl ?_
    refine Go.aload2 109 X498 hx (hb hby at_107) rfl rfl rfl ?_
    have F505 : Old Z n0 h4 := O0.ext E4
    have F506 : Old Z n0 h6 := F505.wr W6 ge_va1
    have F507 : Old Z n0 h8 := F506.ext E8
    have F508 : Old Z n0 h15 := F507.wr W15 ge_va2
    have F509 : Old Z n0 h17 := F508.wr W17 ge_va2
    have F510 : Old Z n0 h20 := F509.ext E20
    have F511 : Old Z n0 h32 := F510.wr W32 ge_va3
    have F512 : Old Z n0 h34 := F511.wr W34 ge_va3
    have F513 : Old Z n0 h37 := F512.wr W37 ge_va3
    have F514 : Old Z n0 h40 := F513.ext E40
    have F515 : Old Z n0 h498 := F514.ext E498
    have F516 : Arv Z h20 va2 k8 .char (2 : Int32) [(.int c0), (.int c1)] (.int 0) := V17.ext E20
    have F517 : Arv Z h32 va2 k8 .char (2 : Int32) [(.int c0), (.int c1)] (.int 0) := F516.other W32 ne_va2_va3
    have F518 : Arv Z h34 va2 k8 .char (2 : Int32) [(.int c0), (.int c1)] (.int 0) := F517.other W34 ne_va2_va3
    have F519 : Arv Z h37 va2 k8 .char (2 : Int32) [(.int c0), (.int c1)] (.int 0) := F518.other W37 ne_va2_va3
    have F520 : Arv Z h40 va2 k8 .char (2 : Int32) [(.int c0), (.int c1)] (.int 0) := F519.ext E40
    have F521 : Arv Z h498 va2 k8 .char (2 : Int32) [(.int c0), (.int c1)] (.int 0) := F520.ext E498
    have F522 : n0 ≤ h498.size := Nat.le_trans F499 E498.1
    have F523 : Keep h0 h498 [] := F500.ext E498
    have F524 : Exa Z h498 ea "[C" := Ea40.ext E498
    have F525 : Exa Z h498 va1 "[C" := F501.ext E498
    have F526 : Exa Z h498 va2 "[C" := F502.ext E498
    have F527 : Exa Z h498 va3 "[C" := F503.ext E498
    have Sf529 : Safe Z own_EL s.vm h498 hs := own_safe hZ.alike A498 F_value_hs
    obtain ⟨_, _, ⟨T528, L528, k528, n528⟩, -, X528, ⟨Lc528, hQ528, l528, y528, z528⟩, st528⟩ := X498.specialBack hx (y := (⟨"java/lang/String", "<init>", "([C)V"⟩ : MethodName)) rfl hown (mvT hZ (ow hw 9 rfl)) (mvT hZ (ow hw 10 rfl)) (mvT hZ (ow hw 11 rfl)) (by decide) (backOf (W := 1) (rmS1_2 l Z a0 hw [] hs va2 k8 c0 c1 cs h498 n0 F522 F515 A498 F_value_hs F_coder_hs ge_hs F521 Q1_0.2 Q2_0.2 S_cs n_cs) hZ (ow hw 11 rfl) (ow hw 8 rfl) (by decide) (by decide)) (g := (mkF m 109 #[iv p0, iv p1, iv p2, iv p3, iv p4, iv 2, iv c0, iv c1, iv c2, rv va1, rv va2, rv va3, rv ea, un, un, un, un, un, un] [(.ref va2), (.ref hs), (.ref hs)])) rfl (by rw [hml]; rfl) (Steps.refl _) (a := hs) (argsL := [(.ref va2)]) (rest := [(.ref hs)]) (lenOf pd_687 rfl) rfl (by show 2 * 0 + _ ≤ _; exact Nat.le_of_eq rfl) (hb hby at_109) (fun _ _ => ⟨rfl, e498, (by decide : 5 + 1 ≤ _), (by decide : 21 + 2 ≤ _)⟩)
    dsimp only [Pt.U, Pt.locs, Pt.cells, Pt.slots] at X528 l528 y528 z528 st528 hQ528
    subst l528 y528 z528
    obtain ⟨hv, hk, rfl, N528q, K528, Q528_0, Q528_1, Q528_2, Q528_3, Q528_4⟩ := hQ528
    have N528 := Fr.app N37 N528q
    have C530 : CHr Z own_EL s.vm h0 s.vm T528.heap := C504.trans (CHr.keep K528 (sfS Sf529 sf0) C504.1)
    refine Go.to st528 ?_
    show Go _ _ _ _ T528 (mkF m 112 #[iv p0, iv p1, iv p2, iv p3, iv p4, iv 2, iv c0, iv c1, iv c2, rv va1, rv va2, rv va3, rv ea, un, un, un, un, un, un] [(.ref hs)])
    have ge_hv : n0 ≤ hv := Nat.le_trans F522 Q528_4
    have sz_hv : h0.size ≤ hv := Nat.le_trans F523.1 Q528_4
    have ne_ea_hv : ea ≠ hv := Nat.ne_of_lt (Nat.lt_of_lt_of_le F524.lt Q528_4)
    have ne_hs_hv : hs ≠ hv := Nat.ne_of_lt (Nat.lt_of_lt_of_le A498.lt Q528_4)
    have ne_va1_hv : va1 ≠ hv := Nat.ne_of_lt (Nat.lt_of_lt_of_le F525.lt Q528_4)
    have ne_va2_hv : va2 ≠ hv := Nat.ne_of_lt (Nat.lt_of_lt_of_le F521.lt Q528_4)
    have ne_va3_hv : va3 ≠ hv := Nat.ne_of_lt (Nat.lt_of_lt_of_le F527.lt Q528_4)
    refine Go.goto 124 X528 hx (hb hby at_112) (by decide) (by decide) ?_
    have F531 : n0 ≤ T528.heap.size := Nat.le_trans F522 K528.1
    have F532 : Old Z n0 T528.heap := F515.keep K528 (allS ge_hs all0)
    have F533 : s.heap.size ≤ h4.size := Nat.le_trans hk0 E4.1
    have F534 : s.heap.size ≤ h6.size := Nat.le_trans F533 (Nat.le_of_eq (Wr.size W6).symm)
    have F535 : s.heap.size ≤ h8.size := Nat.le_trans F534 E8.1
    have F536 : s.heap.size ≤ h15.size := Nat.le_trans F535 (Nat.le_of_eq (Wr.size W15).symm)
    have F537 : s.heap.size ≤ h17.size := Nat.le_trans F536 (Nat.le_of_eq (Wr.size W17).symm)
    have F538 : s.heap.size ≤ h20.size := Nat.le_trans F537 E20.1
    have F539 : s.heap.size ≤ h32.size := Nat.le_trans F538 (Nat.le_of_eq (Wr.size W32).symm)
    have F540 : s.heap.size ≤ h34.size := Nat.le_trans F539 (Nat.le_of_eq (Wr.size W34).symm)
    have F541 : s.heap.size ≤ h37.size := Nat.le_trans F540 (Nat.le_of_eq (Wr.size W37).symm)
    have F542 : s.heap.size ≤ h40.size := Nat.le_trans F541 E40.1
    have F543 : s.heap.size ≤ h498.size := Nat.le_trans F542 E498.1
    have F544 : s.heap.size ≤ T528.heap.size := Nat.le_trans F543 K528.1
    have F545 : Arv Z h498 ea k40 .char (11 : Int32) [(.int 0), (.int 0), (.int 0), (.int 0), (.int 0), (.int 0), (.int 0), (.int 0), (.int 0), (.int 0), (.int 0)] (.int 0) := V_ea.ext E498
    have F546 : Arv Z T528.heap ea k40 .char (11 : Int32) [(.int 0), (.int 0), (.int 0), (.int 0), (.int 0), (.int 0), (.int 0), (.int 0), (.int 0), (.int 0), (.int 0)] (.int 0) := F545.keep K528 (ninS ne_ea_hs nin0)
    exact J228 _ _ _ _ _ hs hv hk ([(.int (own_b c0)), (.int (own_b c1))]) (X528.more (by decide) (by decide)) rfl N528 F531 F532 C530 F544 hS0 hZ hown Q528_0 Q528_1 Q528_2 Q528_3 F546 (Or.inr (Or.inl ⟨rfl, rfl⟩))
  · show Go _ _ _ _ T40 (mkF m 82 #[iv p0, iv p1, iv p2, iv p3, iv p4, iv 3, iv c0, iv c1, iv c2, rv va1, rv va2, rv va3, rv ea, un, un, un, un, un, un] [(.int 1), (.int 3)])
    refine Go.icmpY 97 X40 hx (hb hby at_82) (XT.ii_ne_t (by decide)) (by decide) (by decide) ?_
    refine Go.iload2 99 X40 hx (hb hby at_97) rfl rfl ?_
    refine Go.iconst 100 X40 hx (2 : Int32) (hb hby at_99) (by decide) rfl ?_
    refine Go.icmpY 115 X40 hx (hb hby at_100) (XT.ii_ne_t (by decide)) (by decide) (by decide) ?_
    have F548 : n0 ≤ h40.size := Nat.le_trans F44 E40.1
    obtain ⟨hs, g547⟩ : ∃ z, z = h40.size := ⟨_, rfl⟩
    have ge_hs : n0 ≤ hs := Nat.le_trans F548 (Nat.le_of_eq g547.symm)
    have F549 : Keep h0 h40 [] := F48.ext E40
    have sz_hs : h0.size ≤ hs := Nat.le_trans F549.1 (Nat.le_of_eq g547.symm)
    have ne_ea_hs : ea ≠ hs := Nat.ne_of_lt (Nat.lt_of_lt_of_le Ea40.lt (Nat.le_of_eq g547.symm))
    have F550 : Exa Z h40 va1 "[C" := F52.ext E40
    have ne_va1_hs : va1 ≠ hs := Nat.ne_of_lt (Nat.lt_of_lt_of_le F550.lt (Nat.le_of_eq g547.symm))
    have F551 : Exa Z h40 va2 "[C" := F56.ext E40
    have ne_va2_hs : va2 ≠ hs := Nat.ne_of_lt (Nat.lt_of_lt_of_le F551.lt (Nat.le_of_eq g547.symm))
    have F552 : Exa Z h40 va3 "[C" := F57.ext E40
    have ne_va3_hs : va3 ≠ hs := Nat.ne_of_lt (Nat.lt_of_lt_of_le F552.lt (Nat.le_of_eq g547.symm))
    obtain ⟨T547, h547, X547, e547, E547, A547, D547, -, st547⟩ := newO X40 hx hZ hown (ow hw 6 rfl) (ow hw 7 rfl) (ow hw 8 rfl) e40 (g := (mkF m 115 #[iv p0, iv p1, iv p2, iv p3, iv p4, iv 3, iv c0, iv c1, iv c2, rv va1, rv va2, rv va3, rv ea, un, un, un, un, un, un] [])) rfl (hb hby at_115) (by decide) (by decide)
    rw [← g547] at A547 D547 st547
    have C553 : CHr Z own_EL s.vm h0 s.vm h547 := C58.trans (CHr.ext E547 C58.1)
    have F_coder_hs : Fld Z h547 hs "java/lang/String" "coder" "B" (.int 0) := D547 (Or.inr (ow hw 32 rfl)) (ty := .byte) (by decide)
    have F_value_hs : Fld Z h547 hs "java/lang/String" "value" "[B" .null := D547 (Or.inr (ow hw 34 rfl)) (ty := (.array .byte)) (by decide)
    refine Go.by st547 ?_
    show Go _ _ _ _ T547 (mkF m 118 #[iv p0, iv p1, iv p2, iv p3, iv p4, iv 3, iv c0, iv c1, iv c2, rv va1, rv va2, rv va3, rv ea, un, un, un, un, un, un] [(.ref hs)])
    refine Go.dup 119 X547 hx (hb hby at_118) rfl rfl ?_
    refine Go.aload2 121 X547 hx (hb hby at_119) rfl rfl rfl ?_
    have F554 : Old Z n0 h4 := O0.ext E4
    have F555 : Old Z n0 h6 := F554.wr W6 ge_va1
    have F556 : Old Z n0 h8 := F555.ext E8
    have F557 : Old Z n0 h15 := F556.wr W15 ge_va2
    have F558 : Old Z n0 h17 := F557.wr W17 ge_va2
    have F559 : Old Z n0 h20 := F558.ext E20
    have F560 : Old Z n0 h32 := F559.wr W32 ge_va3
    have F561 : Old Z n0 h34 := F560.wr W34 ge_va3
    have F562 : Old Z n0 h37 := F561.wr W37 ge_va3
    have F563 : Old Z n0 h40 := F562.ext E40
    have F564 : Old Z n0 h547 := F563.ext E547
    have F565 : Arv Z h40 va3 k20 .char (3 : Int32) [(.int c0), (.int c1), (.int c2)] (.int 0) := V37.ext E40
    have F566 : Arv Z h547 va3 k20 .char (3 : Int32) [(.int c0), (.int c1), (.int c2)] (.int 0) := F565.ext E547
    have F567 : n0 ≤ h547.size := Nat.le_trans F548 E547.1
    have F568 : Keep h0 h547 [] := F549.ext E547
    have F569 : Exa Z h547 ea "[C" := Ea40.ext E547
    have F570 : Exa Z h547 va1 "[C" := F550.ext E547
    have F571 : Exa Z h547 va2 "[C" := F551.ext E547
    have F572 : Exa Z h547 va3 "[C" := F552.ext E547
    have Sf574 : Safe Z own_EL s.vm h547 hs := own_safe hZ.alike A547 F_value_hs
    obtain ⟨_, _, ⟨T573, L573, k573, n573⟩, -, X573, ⟨Lc573, hQ573, l573, y573, z573⟩, st573⟩ := X547.specialBack hx (y := (⟨"java/lang/String", "<init>", "([C)V"⟩ : MethodName)) rfl hown (mvT hZ (ow hw 9 rfl)) (mvT hZ (ow hw 10 rfl)) (mvT hZ (ow hw 11 rfl)) (by decide) (backOf (W := 1) (rmS1_3 l Z a0 hw [] hs va3 k20 c0 c1 c2 cs h547 n0 F567 F564 A547 F_value_hs F_coder_hs ge_hs F566 Q1_0.2 Q2_0.2 Q3_0.2 S_cs n_cs) hZ (ow hw 11 rfl) (ow hw 8 rfl) (by decide) (by decide)) (g := (mkF m 121 #[iv p0, iv p1, iv p2, iv p3, iv p4, iv 3, iv c0, iv c1, iv c2, rv va1, rv va2, rv va3, rv ea, un, un, un, un, un, un] [(.ref va3), (.ref hs), (.ref hs)])) rfl (by rw [hml]; rfl) (Steps.refl _) (a := hs) (argsL := [(.ref va3)]) (rest := [(.ref hs)]) (lenOf pd_687 rfl) rfl (by show 2 * 0 + _ ≤ _; exact Nat.le_of_eq rfl) (hb hby at_121) (fun _ _ => ⟨rfl, e547, (by decide : 5 + 1 ≤ _), (by decide : 21 + 3 ≤ _)⟩)
    dsimp only [Pt.U, Pt.locs, Pt.cells, Pt.slots] at X573 l573 y573 z573 st573 hQ573
    subst l573 y573 z573
    obtain ⟨hv, hk, rfl, N573q, K573, Q573_0, Q573_1, Q573_2, Q573_3, Q573_4⟩ := hQ573
    have N573 := Fr.app N37 N573q
    have C575 : CHr Z own_EL s.vm h0 s.vm T573.heap := C553.trans (CHr.keep K573 (sfS Sf574 sf0) C553.1)
    refine Go.to st573 ?_
    show Go _ _ _ _ T573 (mkF m 124 #[iv p0, iv p1, iv p2, iv p3, iv p4, iv 3, iv c0, iv c1, iv c2, rv va1, rv va2, rv va3, rv ea, un, un, un, un, un, un] [(.ref hs)])
    have ge_hv : n0 ≤ hv := Nat.le_trans F567 Q573_4
    have sz_hv : h0.size ≤ hv := Nat.le_trans F568.1 Q573_4
    have ne_ea_hv : ea ≠ hv := Nat.ne_of_lt (Nat.lt_of_lt_of_le F569.lt Q573_4)
    have ne_hs_hv : hs ≠ hv := Nat.ne_of_lt (Nat.lt_of_lt_of_le A547.lt Q573_4)
    have ne_va1_hv : va1 ≠ hv := Nat.ne_of_lt (Nat.lt_of_lt_of_le F570.lt Q573_4)
    have ne_va2_hv : va2 ≠ hv := Nat.ne_of_lt (Nat.lt_of_lt_of_le F571.lt Q573_4)
    have ne_va3_hv : va3 ≠ hv := Nat.ne_of_lt (Nat.lt_of_lt_of_le F566.lt Q573_4)
    have F576 : n0 ≤ T573.heap.size := Nat.le_trans F567 K573.1
    have F577 : Old Z n0 T573.heap := F564.keep K573 (allS ge_hs all0)
    have F578 : s.heap.size ≤ h4.size := Nat.le_trans hk0 E4.1
    have F579 : s.heap.size ≤ h6.size := Nat.le_trans F578 (Nat.le_of_eq (Wr.size W6).symm)
    have F580 : s.heap.size ≤ h8.size := Nat.le_trans F579 E8.1
    have F581 : s.heap.size ≤ h15.size := Nat.le_trans F580 (Nat.le_of_eq (Wr.size W15).symm)
    have F582 : s.heap.size ≤ h17.size := Nat.le_trans F581 (Nat.le_of_eq (Wr.size W17).symm)
    have F583 : s.heap.size ≤ h20.size := Nat.le_trans F582 E20.1
    have F584 : s.heap.size ≤ h32.size := Nat.le_trans F583 (Nat.le_of_eq (Wr.size W32).symm)
    have F585 : s.heap.size ≤ h34.size := Nat.le_trans F584 (Nat.le_of_eq (Wr.size W34).symm)
    have F586 : s.heap.size ≤ h37.size := Nat.le_trans F585 (Nat.le_of_eq (Wr.size W37).symm)
    have F587 : s.heap.size ≤ h40.size := Nat.le_trans F586 E40.1
    have F588 : s.heap.size ≤ h547.size := Nat.le_trans F587 E547.1
    have F589 : s.heap.size ≤ T573.heap.size := Nat.le_trans F588 K573.1
    have F590 : Arv Z h547 ea k40 .char (11 : Int32) [(.int 0), (.int 0), (.int 0), (.int 0), (.int 0), (.int 0), (.int 0), (.int 0), (.int 0), (.int 0), (.int 0)] (.int 0) := V_ea.ext E547
    have F591 : Arv Z T573.heap ea k40 .char (11 : Int32) [(.int 0), (.int 0), (.int 0), (.int 0), (.int 0), (.int 0), (.int 0), (.int 0), (.int 0), (.int 0), (.int 0)] (.int 0) := F590.keep K573 (ninS ne_ea_hs nin0)
    exact J228 _ _ _ _ _ hs hv hk ([(.int (own_b c0)), (.int (own_b c1)), (.int (own_b c2))]) (X573.more (by decide) (by decide)) rfl N573 F576 F577 C575 F589 hS0 hZ hown Q573_0 Q573_1 Q573_2 Q573_3 F591 (Or.inr (Or.inr (⟨rfl, rfl⟩)))
set_option maxRecDepth 65536 in
set_option maxHeartbeats 40000000 in
theorem comes_1 {Post : Tables → Env → Array Value → State → Outcome → State → Prop} (hpost : ∀ tb e args s v u, (limb_1_1.after args s (.returned v) u = true ∧ limb_1_2.after args s (.returned v) u = true ∧ True) → ReturnedEndW s (.returned v) u (Jvm.fieldLocs frame_1_writes args s ++ Jvm.arrayLocs frame_1_arrays args s ++ Jvm.staticLocs frame_1_statics s) 48 3328 → Post tb e args s (.returned v) u) :
    ArmFor flags0 classFile x code maxLocals ret World_1 tables_1 room_1 Calls_1 rest_1 Pre_1 Post := by
  intro l hfl _ _ p e ha hc hk s m args below hf hA hF happ hP
  obtain ⟨hcalls, hrest, hpre⟩ := hP
  obtain ⟨-, -, -, hnamed, -, -, -, hat⟩ := (Spec.applies_iff hf).mp happ
  obtain ⟨hg, hn⟩ := and_e (Cond.before_iff.mp (show (Jvm.Cond.and given_1 narrow_1).before args s = true from hpre))
  obtain ⟨hcount, hg0⟩ := and_e hg
  obtain ⟨ha0, hg1⟩ := and_e hg0
  obtain ⟨ha1, hg2⟩ := and_e hg1
  obtain ⟨ha2, hg3⟩ := and_e hg2
  obtain ⟨ha3, hg4⟩ := and_e hg3
  have ha4 := hg4
  obtain ⟨w0, w1, w2, w3, w4, rfl⟩ : ∃ w0 w1 w2 w3 w4 : Value, args = #[w0, w1, w2, w3, w4] := by
    have hs : args.size = 5 := by simpa [Cond.value, given_1] using hcount
    obtain ⟨L⟩ := args
    match L, hs with
    | [w0, w1, w2, w3, w4], _ => exact ⟨w0, w1, w2, w3, w4, rfl⟩
  have hw := fun d (hd : d ∈ tables_1) => atoms_spec (ws := Jvm.Cond.code x code maxLocals ret :: tables_1) hat d (List.mem_cons_of_mem _ hd)
  obtain ⟨hsets, hown0⟩ := atoms_of _ (rest_1_c_eq ▸ (show rest_1_c.before _ s = true from hrest))
  have hr0 := Cond.before_iff.mp hown0
  have hfit : Fit s := fun {y c} hc i hi => by
    obtain ⟨ha, rfl⟩ := Array.getElem?_eq_some_iff.mp hc
    have q := List.all_eq_true.mp ((Array.all_eq_true_iff_forall_mem.mp hF) _ (Array.getElem_mem ha)) i (List.mem_range.mpr hi)
    simpa [Array.getElem?_eq_getElem hi] using q
  obtain ⟨i0, ei0⟩ := is_v ha0
  obtain rfl : w0 = (.int i0) := Option.some.inj ei0
  obtain ⟨i1, ei1⟩ := is_v ha1
  obtain rfl : w1 = (.int i1) := Option.some.inj ei1
  obtain ⟨i2, ei2⟩ := is_v ha2
  obtain rfl : w2 = (.int i2) := Option.some.inj ei2
  obtain ⟨i3, ei3⟩ := is_v ha3
  obtain rfl : w3 = (.int i3) := Option.some.inj ei3
  obtain ⟨i4, ei4⟩ := is_v ha4
  obtain rfl : w4 = (.int i4) := Option.some.inj ei4
  obtain ⟨cs, ev_cs⟩ := is_v (Cond.before_iff.mp (hsets _ (List.mem_of_getElem? (i := 1) rfl)))
  have S_cs := Sta.start ev_cs (Or.inl (hsets _ (List.mem_of_getElem? (i := 0) rfl)))
  have n_cs : ¬ (cs = (0 : Int32)) := gotF (Cond.eq_ints ev_cs (Term.int_eval (0))) (not_v (Cond.before_iff.mp (hsets _ (List.mem_of_getElem? (i := 2) rfl))))
  obtain ⟨d1, kd1, ev_d1, V_d1⟩ := own_tbl (t := (Jvm.Term.static "java/lang/Integer" "DigitOnes" "[B")) (F := fun r => 48 + r % 10) (fun idx => by simp only [Term.eval]) (hsets _ (List.mem_of_getElem? (i := 12) rfl)) (hsets _ (List.mem_of_getElem? (i := 13) rfl)) (hsets _ (List.mem_of_getElem? (i := 14) rfl)) (ow hw 24 rfl) (fun r hr => by show _ = some (Value.int (Int32.ofNat (48 + r % 10))); rw [← Jvm.Free.SBG.ones_num r hr]; rfl) (fun r hr => by show 48 + r % 10 < 58; omega)
  have S_d1 := Sta.start ev_d1 (Or.inl (hsets _ (List.mem_of_getElem? (i := 11) rfl)))
  obtain ⟨d2, kd2, ev_d2, V_d2⟩ := own_tbl (t := (Jvm.Term.static "java/lang/Integer" "DigitTens" "[B")) (F := fun r => 48 + r / 10) (fun idx => by simp only [Term.eval]) (hsets _ (List.mem_of_getElem? (i := 17) rfl)) (hsets _ (List.mem_of_getElem? (i := 18) rfl)) (hsets _ (List.mem_of_getElem? (i := 19) rfl)) (ow hw 24 rfl) (fun r hr => by show _ = some (Value.int (Int32.ofNat (48 + r / 10))); rw [← Jvm.Free.SBG.tens_num r hr]; rfl) (fun r hr => by show 48 + r / 10 < 58; omega)
  have S_d2 := Sta.start ev_d2 (Or.inl (hsets _ (List.mem_of_getElem? (i := 16) rfl)))
  obtain ⟨sf, ev_sf, r_sf⟩ := isR_v (Cond.before_iff.mp (hsets _ (List.mem_of_getElem? (i := 8) rfl)))
  have S_sf := Sta.start ev_sf (Or.inl (hsets _ (List.mem_of_getElem? (i := 7) rfl)))
  have hCH : CHv s own_EL s.vm s.heap := CHv.start (own_EW hw) hcalls.1 (a0 := _) (hsets _ (List.mem_of_getElem? (i := 2) rfl)) (own_SA hw _ (by simp [Bundle.stringAtoms])) (own_SA hw _ (by simp [Bundle.stringAtoms, Bundle.sN]))
  obtain ⟨n, o, h1, h2, h3, _, L, rfl, ⟨rfl, N⟩, -, hq⟩ := rm0 l s _ hw tables_1 i0 i1 i2 i3 i4 cs d1 d2 kd1 kd2 sf s.heap s.heap.size (Nat.le_refl _) (Old.start s) S_cs n_cs S_d1 V_d1 S_d2 V_d2 S_sf r_sf p e ha hc hk s m _ below hf ((Spec.applies_iff_loose hf).mp happ).1 ⟨rfl, State.Warmed39.refl s, rfl, hCH⟩ trivial
  refine ⟨n, _, h1, h2, h3, hpost _ _ _ _ _ _ ⟨Cond.after_iff.mpr rfl, Cond.after_iff.mpr (eq_i res_at (Term.int_eval (1)) rfl), trivial⟩ ⟨hq.1, hq.2.1, hq.2.2.1, (hq.2.2.2.sift fun y hy => Or.inr (N y hy)).mono (by decide) (by decide)⟩⟩
theorem main_1_1 : Claimed_1_1 := comes_1 fun _ _ _ _ _ _ h hF => ⟨h.1, hF⟩
theorem main_1_2 : Claimed_1_2 := comes_1 fun _ _ _ _ _ _ h hF => ⟨h.2.1, hF⟩
end Jvm.Pilot.@@N@@
namespace Jvm.Pilot.@@N@@
open Jvm Jvm.ClassFile Sem Op Lib Jvm.Free Jvm.Stand Jvm.Pilot.@@N@@.Jvm.D
/-! MADE BY PROGRAM (witnessworld.py) out of the Statement's table words and the real class files: 28 classes; the members and pool entries that the words name. The judged class is class 1, her method 3. -/
namespace start1
open Jvm.ClassFile
def u (s : String) : CpInfo := .utf8 (stringToUtf16 s)
/-- a pool by its gaps: so many unusable entries, then the entry; so many at the end -/
def gap : Nat → List CpInfo → List CpInfo
  | 0, r => r
  | n + 1, r => .unusable :: gap n r
def poolList (es : List (Nat × CpInfo)) (last : Nat) : List CpInfo := es.foldr (fun e r => gap e.1 (e.2 :: r)) (gap last [])
def pool (es : List (Nat × CpInfo)) (last : Nat) : Array CpInfo := ⟨poolList es last⟩
def fileOf (pool : Array CpInfo) (this : Nat) (attrs : Array Attribute := #[]) (ms : Array MethodInfo := #[]) (fl : Nat := 33) (sup : Nat := 0) (ifs : Array Nat := #[]) (fds : Array FieldInfo := #[]) : ClassFile where
  minorVersion := 0
  majorVersion := 65
  constantPool := pool
  accessFlags := fl
  thisClass := this
  superClass := sup
  interfaces := ifs
  fields := fds
  methods := ms
  attributes := attrs
def plain (name : String) (sup : Option ClassId) : Class where
  name := name
  kind := .ordinary
  loader := none
  accessFlags := 33
  super := sup
  interfaces := #[]
  cf := none
  fields := #[]
  methods := #[]
  instanceTypes := #[]
  staticTypes := #[]
  resolved := #[]
  callSites := []
  init := .initialized
  statics := none
  mirror := none

def pool0 : Array CpInfo := pool [(5, u "<init>"), (0, u "()V"), (1, .class_ 10), (1, u "java/lang/Object")] 113

def k0c0 : Code := { maxStack := 0, maxLocals := 1, code := object_method_1_code, exceptionTable := #[], attributes := #[] }
def k0m0 : Method := { name := "<init>", desc := "()V", sig := { parameters := [], returnType := none }, accessFlags := 1, code := some k0c0 }
/-- java/lang/Object -/
def k0 : Class := { plain "java/lang/Object" none with
  accessFlags := 33
  interfaces := #[]
  cf := some (fileOf pool0 8 #[] #[{ accessFlags := 1, nameIndex := 5, descriptorIndex := 6, attributes := #[] }] 33 0 #[] #[])
  fields := #[]
  methods := #[k0m0]
  instanceTypes := #[]
  staticTypes := #[]
  resolved := Array.replicate 124 none
  statics := none }

def pool1 : Array CpInfo := pool [(2, .class_ 4), (1, u "java/lang/Object"), (0, u "<init>"), (0, u "()V"), (0, .methodref 8 9), (0, .class_ 10), (0, .nameAndType 11 12), (0, u "java/lang/String"), (0, u "charAt"), (0, u "(I)C"), (0, .integer 2147483647), (0, .methodref 15 16), (0, .class_ 17), (0, .nameAndType 18 12), (0, u "com/example/entries_to_nodes/entriestonodes/component/ServerAddressToStringPinLaw"), (0, u "draw"), (0, .methodref 8 20), (0, .nameAndType 5 21), (0, u "([C)V"), (0, .integer 65535), (0, .class_ 24), (0, u "com/example/entries_to_nodes/entriestonodes/component/ServerAddress"), (0, .methodref 23 26), (0, .nameAndType 5 27), (0, u "(Ljava/lang/String;I)V"), (0, .methodref 23 29), (0, .nameAndType 30 31), (0, u "toString"), (0, u "()Ljava/lang/String;"), (0, .methodref 8 33), (0, .nameAndType 34 35), (0, u "length"), (0, u "()I"), (0, .methodref 15 37), (0, .nameAndType 38 39), (0, u "at"), (0, u "(Ljava/lang/String;[CII)Z"), (3, u "law"), (0, u "(IIIII)Z")] 4

def k1m0 : Method := { name := "<init>", desc := "()V", sig := { parameters := [], returnType := none }, accessFlags := 1, code := none }
def k1c1 : Code := { maxStack := 2, maxLocals := 1, code := method_2_code, exceptionTable := #[], attributes := #[] }
def k1m1 : Method := { name := "draw", desc := "(I)C", sig := { parameters := [.int], returnType := some .char }, accessFlags := 10, code := some k1c1 }
def k1c2 : Code := { maxStack := 3, maxLocals := 4, code := method_3_code, exceptionTable := #[], attributes := #[] }
def k1m2 : Method := { name := "at", desc := "(Ljava/lang/String;[CII)Z", sig := { parameters := [(.object "java/lang/String"), (.array .char), .int, .int], returnType := some .boolean }, accessFlags := 10, code := some k1c2 }
def k1c3 : Code := { maxStack := 5, maxLocals := 19, code := code, exceptionTable := #[], attributes := #[] }
def k1m3 : Method := { name := "law", desc := "(IIIII)Z", sig := { parameters := [.int, .int, .int, .int, .int], returnType := some .boolean }, accessFlags := 9, code := some k1c3 }
/-- com/example/entries_to_nodes/entriestonodes/component/ServerAddressToStringPinLaw -/
def k1 : Class := { plain "com/example/entries_to_nodes/entriestonodes/component/ServerAddressToStringPinLaw" (some 0) with
  accessFlags := 49
  interfaces := #[]
  cf := some (fileOf pool1 15 #[] #[{ accessFlags := 1, nameIndex := 5, descriptorIndex := 6, attributes := #[] }, { accessFlags := 10, nameIndex := 18, descriptorIndex := 12, attributes := #[] }, { accessFlags := 10, nameIndex := 38, descriptorIndex := 39, attributes := #[] }, { accessFlags := 9, nameIndex := 43, descriptorIndex := 44, attributes := #[] }] 49 2 #[] #[])
  fields := #[]
  methods := #[k1m0, k1m1, k1m2, k1m3]
  instanceTypes := #[]
  staticTypes := #[]
  resolved := Array.replicate 49 none
  statics := none }

def pool2 : Array CpInfo := pool [(1, .class_ 2), (0, u "java/io/Serializable"), (0, .class_ 4), (0, u "java/lang/Object")] 2

/-- java/io/Serializable -/
def k2 : Class := { plain "java/io/Serializable" (some 0) with
  accessFlags := 1537
  interfaces := #[]
  cf := some (fileOf pool2 1 #[] #[] 1537 3 #[] #[])
  fields := #[]
  methods := #[]
  instanceTypes := #[]
  staticTypes := #[]
  resolved := Array.replicate 7 none
  statics := none }

def pool3 : Array CpInfo := pool [(1, .class_ 2), (0, u "java/lang/Comparable"), (0, .class_ 4), (0, u "java/lang/Object")] 7

/-- java/lang/Comparable -/
def k3 : Class := { plain "java/lang/Comparable" (some 0) with
  accessFlags := 1537
  interfaces := #[]
  cf := some (fileOf pool3 1 #[] #[] 1537 3 #[] #[])
  fields := #[]
  methods := #[]
  instanceTypes := #[]
  staticTypes := #[]
  resolved := Array.replicate 12 none
  statics := none }

def pool4 : Array CpInfo := pool [(2, .class_ 4), (1, u "java/lang/CharSequence"), (42, .class_ 48), (0, u "java/lang/CharSequence$1CodePointIterator"), (10, .class_ 60), (0, u "java/lang/CharSequence$1CharIterator"), (5, .class_ 67), (0, u "java/lang/Object"), (10, u "toString"), (0, u "()Ljava/lang/String;")] 51

def k4m0 : Method := { name := "toString", desc := "()Ljava/lang/String;", sig := { parameters := [], returnType := some (.object "java/lang/String") }, accessFlags := 1025, code := none }
/-- java/lang/CharSequence -/
def k4 : Class := { plain "java/lang/CharSequence" (some 0) with
  accessFlags := 1537
  interfaces := #[]
  cf := some (fileOf pool4 2 #[.nestMembers #[47, 59]] #[{ accessFlags := 1025, nameIndex := 78, descriptorIndex := 79, attributes := #[] }] 1537 66 #[] #[])
  fields := #[]
  methods := #[k4m0]
  instanceTypes := #[]
  staticTypes := #[]
  resolved := Array.replicate 131 none
  statics := none }

def pool5 : Array CpInfo := pool [(1, .class_ 2), (0, u "java/lang/constant/Constable"), (0, .class_ 4), (0, u "java/lang/Object")] 6

/-- java/lang/constant/Constable -/
def k5 : Class := { plain "java/lang/constant/Constable" (some 0) with
  accessFlags := 1537
  interfaces := #[]
  cf := some (fileOf pool5 1 #[] #[] 1537 3 #[] #[])
  fields := #[]
  methods := #[]
  instanceTypes := #[]
  staticTypes := #[]
  resolved := Array.replicate 11 none
  statics := none }

def pool6 : Array CpInfo := pool [(1, .class_ 2), (0, u "java/lang/constant/ConstantDesc"), (0, .class_ 4), (0, u "java/lang/Object")] 32

/-- java/lang/constant/ConstantDesc -/
def k6 : Class := { plain "java/lang/constant/ConstantDesc" (some 0) with
  accessFlags := 1537
  interfaces := #[]
  cf := some (fileOf pool6 1 #[] #[] 1537 3 #[] #[])
  fields := #[]
  methods := #[]
  instanceTypes := #[]
  staticTypes := #[]
  resolved := Array.replicate 37 none
  statics := none }

def pool7 : Array CpInfo := pool [(1, .methodref 2 3), (0, .class_ 4), (0, .nameAndType 5 6), (0, u "java/lang/Object"), (0, u "<init>"), (0, u "()V"), (2, .fieldref 10 11), (0, .class_ 12), (0, .nameAndType 13 14), (0, u "java/lang/String"), (0, u "value"), (0, u "[B"), (0, .fieldref 10 16), (0, .nameAndType 17 18), (0, u "coder"), (0, u "B"), (2, u "hash"), (0, u "I"), (2, u "hashIsZero"), (0, u "Z"), (0, .methodref 10 28), (0, .nameAndType 5 29), (0, u "([CIILjava/lang/Void;)V"), (8, .fieldref 10 39), (0, .nameAndType 40 26), (0, u "COMPACT_STRINGS"), (1, .class_ 44), (1, u "java/lang/StringUTF16"), (0, u "compress"), (1, .methodref 42 48), (0, .nameAndType 49 50), (0, u "coderFromArrayLen"), (0, u "([BI)B"), (3, .methodref 55 56), (0, .class_ 57), (0, .nameAndType 58 59), (0, u "java/util/Arrays"), (0, u "copyOfRange"), (0, u "([BII)[B"), (47, .class_ 109), (1, u "java/lang/StringLatin1"), (32, u "()Z"), (34, .methodref 42 178), (0, .nameAndType 45 179), (0, u "([CII)[B"), (13, .class_ 195), (1, u "java/lang/System"), (16, .methodref 193 213), (0, .nameAndType 214 215), (0, u "arraycopy"), (0, u "(Ljava/lang/Object;ILjava/lang/Object;II)V"), (118, u "()I"), (0, .methodref 10 336), (0, .nameAndType 17 337), (0, u "()B"), (2, u "()[B"), (22, u "([BI)C"), (27, u "(II)V"), (35, u "(I)C"), (34, .nameAndType 463 464), (0, u "toString"), (0, u "()Ljava/lang/String;"), (24, .methodref 10 490), (0, .nameAndType 5 491), (0, u "(Ljava/lang/AbstractStringBuilder;Ljava/lang/Void;)V"), (0, .methodref 10 493), (0, .nameAndType 494 142), (0, u "isLatin1"), (0, .methodref 107 496), (0, .nameAndType 497 363), (0, u "charAt"), (3, u "checkIndex"), (4, .nameAndType 507 334), (0, u "length"), (24, u "getBytes"), (15, u "(Ljava/lang/CharSequence;)Z"), (0, .methodref 550 506), (0, .class_ 551), (0, u "java/lang/AbstractStringBuilder"), (0, .methodref 550 553), (0, .nameAndType 554 340), (0, u "getValue"), (20, .class_ 576), (0, u "java/lang/CharSequence"), (12, u "([B[B)I"), (9, u "CASE_INSENSITIVE_ORDER"), (0, u "Ljava/util/Comparator;"), (34, u "indexOf"), (11, .methodref 107 648), (0, .nameAndType 635 589), (43, u "isEmpty"), (17, .interfaceMethodref 575 462), (0, .methodref 10 712), (0, .nameAndType 635 713), (0, u "(Ljava/lang/String;)I"), (107, u "([BIB)V"), (188, u "([C)V"), (36, .methodref 550 493), (5, .fieldref 1054 1055), (0, .class_ 1056), (0, .nameAndType 1057 1058), (0, u "jdk/internal/util/Preconditions"), (0, u "SIOOBE_FORMATTER"), (0, u "Ljava/util/function/BiFunction;"), (0, .methodref 1054 1060), (0, .nameAndType 501 1061), (0, u "(IILjava/util/function/BiFunction;)I"), (39, u "serialPersistentFields"), (0, u "[Ljava/io/ObjectStreamField;"), (0, .class_ 1104), (0, u "java/lang/String$CaseInsensitiveComparator"), (1, .class_ 1107), (0, u "java/io/Serializable"), (0, .class_ 1109), (0, u "java/lang/Comparable"), (0, .class_ 1111), (0, u "java/lang/constant/Constable"), (0, .class_ 1113), (0, u "java/lang/constant/ConstantDesc"), (2, u "serialVersionUID"), (0, u "J"), (3, u "REPL"), (0, u "C"), (2, u "LATIN1"), (1, u "UTF16"), (105, u "(Ljava/lang/StringBuilder;)V"), (57, u "contains")] 159

def k7m0 : Method := { name := "<init>", desc := "()V", sig := { parameters := [], returnType := none }, accessFlags := 1, code := none }
def k7c1 : Code := { maxStack := 5, maxLocals := 2, code := jdk_42_method_3_code, exceptionTable := #[], attributes := #[] }
def k7m1 : Method := { name := "<init>", desc := "([C)V", sig := { parameters := [(.array .char)], returnType := none }, accessFlags := 1, code := some k7c1 }
def k7c2 : Code := { maxStack := 3, maxLocals := 2, code := jdk_42_method_53_code, exceptionTable := #[], attributes := #[] }
def k7m2 : Method := { name := "<init>", desc := "(Ljava/lang/StringBuilder;)V", sig := { parameters := [(.object "java/lang/StringBuilder")], returnType := none }, accessFlags := 1, code := some k7c2 }
def k7c3 : Code := { maxStack := 2, maxLocals := 1, code := jdk_42_method_54_code, exceptionTable := #[], attributes := #[] }
def k7m3 : Method := { name := "length", desc := "()I", sig := { parameters := [], returnType := some .int }, accessFlags := 1, code := some k7c3 }
def k7c4 : Code := { maxStack := 1, maxLocals := 1, code := jdk_42_method_55_code, exceptionTable := #[], attributes := #[] }
def k7m4 : Method := { name := "isEmpty", desc := "()Z", sig := { parameters := [], returnType := some .boolean }, accessFlags := 1, code := some k7c4 }
def k7c5 : Code := { maxStack := 2, maxLocals := 2, code := jdk_42_method_56_code, exceptionTable := #[], attributes := #[] }
def k7m5 : Method := { name := "charAt", desc := "(I)C", sig := { parameters := [.int], returnType := some .char }, accessFlags := 1, code := some k7c5 }
def k7c6 : Code := { maxStack := 2, maxLocals := 3, code := jdk_42_method_84_code, exceptionTable := #[], attributes := #[] }
def k7m6 : Method := { name := "indexOf", desc := "(Ljava/lang/String;)I", sig := { parameters := [(.object "java/lang/String")], returnType := some .int }, accessFlags := 1, code := some k7c6 }
def k7c7 : Code := { maxStack := 2, maxLocals := 2, code := jdk_42_method_97_code, exceptionTable := #[], attributes := #[] }
def k7m7 : Method := { name := "contains", desc := "(Ljava/lang/CharSequence;)Z", sig := { parameters := [(.object "java/lang/CharSequence")], returnType := some .boolean }, accessFlags := 1, code := some k7c7 }
def k7c8 : Code := { maxStack := 1, maxLocals := 1, code := jdk_42_method_126_code, exceptionTable := #[], attributes := #[] }
def k7m8 : Method := { name := "toString", desc := "()Ljava/lang/String;", sig := { parameters := [], returnType := some (.object "java/lang/String") }, accessFlags := 1, code := some k7c8 }
def k7c9 : Code := { maxStack := 5, maxLocals := 4, code := jdk_42_method_147_code, exceptionTable := #[], attributes := #[] }
def k7m9 : Method := { name := "getBytes", desc := "([BIB)V", sig := { parameters := [(.array .byte), .int, .byte], returnType := none }, accessFlags := 0, code := some k7c9 }
def k7c10 : Code := { maxStack := 4, maxLocals := 6, code := jdk_42_method_149_code, exceptionTable := #[], attributes := #[] }
def k7m10 : Method := { name := "<init>", desc := "([CIILjava/lang/Void;)V", sig := { parameters := [(.array .char), .int, .int, (.object "java/lang/Void")], returnType := none }, accessFlags := 2, code := some k7c10 }
def k7c11 : Code := { maxStack := 5, maxLocals := 5, code := jdk_42_method_150_code, exceptionTable := #[], attributes := #[] }
def k7m11 : Method := { name := "<init>", desc := "(Ljava/lang/AbstractStringBuilder;Ljava/lang/Void;)V", sig := { parameters := [(.object "java/lang/AbstractStringBuilder"), (.object "java/lang/Void")], returnType := none }, accessFlags := 0, code := some k7c11 }
def k7c12 : Code := { maxStack := 1, maxLocals := 1, code := jdk_42_method_152_code, exceptionTable := #[], attributes := #[] }
def k7m12 : Method := { name := "coder", desc := "()B", sig := { parameters := [], returnType := some .byte }, accessFlags := 0, code := some k7c12 }
def k7c13 : Code := { maxStack := 1, maxLocals := 1, code := jdk_42_method_154_code, exceptionTable := #[], attributes := #[] }
def k7m13 : Method := { name := "isLatin1", desc := "()Z", sig := { parameters := [], returnType := some .boolean }, accessFlags := 0, code := some k7c13 }
def k7c14 : Code := { maxStack := 3, maxLocals := 2, code := jdk_42_method_155_code, exceptionTable := #[], attributes := #[] }
def k7m14 : Method := { name := "checkIndex", desc := "(II)V", sig := { parameters := [.int, .int], returnType := none }, accessFlags := 8, code := some k7c14 }
/-- java/lang/String -/
def k7 : Class := { plain "java/lang/String" (some 0) with
  accessFlags := 49
  interfaces := #[2, 3, 4, 5, 6]
  cf := some (fileOf pool7 10 #[.nestMembers #[1103]] #[{ accessFlags := 1, nameIndex := 5, descriptorIndex := 6, attributes := #[] }, { accessFlags := 1, nameIndex := 5, descriptorIndex := 1010, attributes := #[] }, { accessFlags := 1, nameIndex := 5, descriptorIndex := 1233, attributes := #[] }, { accessFlags := 1, nameIndex := 507, descriptorIndex := 334, attributes := #[] }, { accessFlags := 1, nameIndex := 692, descriptorIndex := 142, attributes := #[] }, { accessFlags := 1, nameIndex := 497, descriptorIndex := 427, attributes := #[] }, { accessFlags := 1, nameIndex := 635, descriptorIndex := 713, attributes := #[] }, { accessFlags := 1, nameIndex := 1291, descriptorIndex := 548, attributes := #[] }, { accessFlags := 1, nameIndex := 463, descriptorIndex := 464, attributes := #[] }, { accessFlags := 0, nameIndex := 532, descriptorIndex := 821, attributes := #[] }, { accessFlags := 2, nameIndex := 5, descriptorIndex := 29, attributes := #[] }, { accessFlags := 0, nameIndex := 5, descriptorIndex := 491, attributes := #[] }, { accessFlags := 0, nameIndex := 17, descriptorIndex := 337, attributes := #[] }, { accessFlags := 0, nameIndex := 494, descriptorIndex := 142, attributes := #[] }, { accessFlags := 8, nameIndex := 501, descriptorIndex := 391, attributes := #[] }] 49 2 #[1106, 1108, 575, 1110, 1112] #[{ accessFlags := 18, nameIndex := 13, descriptorIndex := 14, attributes := #[] }, { accessFlags := 18, nameIndex := 17, descriptorIndex := 18, attributes := #[] }, { accessFlags := 2, nameIndex := 21, descriptorIndex := 22, attributes := #[] }, { accessFlags := 2, nameIndex := 25, descriptorIndex := 26, attributes := #[] }, { accessFlags := 26, nameIndex := 1116, descriptorIndex := 1117, attributes := #[] }, { accessFlags := 24, nameIndex := 40, descriptorIndex := 26, attributes := #[] }, { accessFlags := 26, nameIndex := 1101, descriptorIndex := 1102, attributes := #[] }, { accessFlags := 26, nameIndex := 1121, descriptorIndex := 1122, attributes := #[] }, { accessFlags := 25, nameIndex := 599, descriptorIndex := 600, attributes := #[] }, { accessFlags := 24, nameIndex := 1125, descriptorIndex := 18, attributes := #[] }, { accessFlags := 24, nameIndex := 1127, descriptorIndex := 18, attributes := #[] }])
  fields := #[{ name := "value", type := (.array .byte), accessFlags := 18, slot := 0, constantValue := 0 }, { name := "coder", type := .byte, accessFlags := 18, slot := 1, constantValue := 0 }, { name := "hash", type := .int, accessFlags := 2, slot := 2, constantValue := 0 }, { name := "hashIsZero", type := .boolean, accessFlags := 2, slot := 3, constantValue := 0 }, { name := "serialVersionUID", type := .long, accessFlags := 26, slot := 0, constantValue := 0 }, { name := "COMPACT_STRINGS", type := .boolean, accessFlags := 24, slot := 1, constantValue := 0 }, { name := "serialPersistentFields", type := (.array (.object "java/io/ObjectStreamField")), accessFlags := 26, slot := 2, constantValue := 0 }, { name := "REPL", type := .char, accessFlags := 26, slot := 3, constantValue := 0 }, { name := "CASE_INSENSITIVE_ORDER", type := (.object "java/util/Comparator"), accessFlags := 25, slot := 4, constantValue := 0 }, { name := "LATIN1", type := .byte, accessFlags := 24, slot := 5, constantValue := 0 }, { name := "UTF16", type := .byte, accessFlags := 24, slot := 6, constantValue := 0 }]
  methods := #[k7m0, k7m1, k7m2, k7m3, k7m4, k7m5, k7m6, k7m7, k7m8, k7m9, k7m10, k7m11, k7m12, k7m13, k7m14]
  instanceTypes := #[(.array .byte), .byte, .int, .boolean]
  staticTypes := #[.long, .boolean, (.array (.object "java/io/ObjectStreamField")), .char, (.object "java/util/Comparator"), .byte, .byte]
  resolved := Array.replicate 1451 none
  statics := some 0 }

def pool8 : Array CpInfo := pool [(6, .class_ 8), (1, u "java/lang/Object"), (0, u "<init>"), (0, u "()V"), (1, .class_ 14), (1, u "java/lang/StringUTF16"), (31, u "$assertionsDisabled"), (0, u "Z"), (13, u "HI_BYTE_SHIFT"), (0, u "I"), (2, u "LO_BYTE_SHIFT"), (49, .methodref 12 116), (0, .nameAndType 117 118), (0, u "compress"), (0, u "([CI[BII)I"), (3, u "([CII)[B"), (138, u "coderFromArrayLen"), (0, u "([BI)B"), (106, .class_ 371), (1, u "java/lang/StringUTF16$LinesSpliterator"), (58, u "MAX_LENGTH"), (196, .class_ 628), (0, u "java/lang/StringUTF16$CodePointsSpliterator"), (0, .class_ 630), (0, u "java/lang/StringUTF16$CharsSpliterator")] 4

def k8m0 : Method := { name := "<init>", desc := "()V", sig := { parameters := [], returnType := none }, accessFlags := 0, code := none }
def k8c1 : Code := { maxStack := 2, maxLocals := 2, code := jdk_52_method_15_code, exceptionTable := #[], attributes := #[] }
def k8m1 : Method := { name := "coderFromArrayLen", desc := "([BI)B", sig := { parameters := [(.array .byte), .int], returnType := some .byte }, accessFlags := 8, code := some k8c1 }
def k8c2 : Code := { maxStack := 5, maxLocals := 6, code := jdk_52_method_16_code, exceptionTable := #[], attributes := #[] }
def k8m2 : Method := { name := "compress", desc := "([CII)[B", sig := { parameters := [(.array .char), .int, .int], returnType := some (.array .byte) }, accessFlags := 9, code := some k8c2 }
def k8c3 : Code := { maxStack := 3, maxLocals := 7, code := jdk_52_method_21_code, exceptionTable := #[], attributes := #[] }
def k8m3 : Method := { name := "compress", desc := "([CI[BII)I", sig := { parameters := [(.array .char), .int, (.array .byte), .int, .int], returnType := some .int }, accessFlags := 9, code := some k8c3 }
/-- java/lang/StringUTF16 -/
def k8 : Class := { plain "java/lang/StringUTF16" (some 0) with
  accessFlags := 48
  interfaces := #[]
  cf := some (fileOf pool8 12 #[.nestMembers #[627, 629, 369]] #[{ accessFlags := 0, nameIndex := 9, descriptorIndex := 10, attributes := #[] }, { accessFlags := 8, nameIndex := 261, descriptorIndex := 262, attributes := #[] }, { accessFlags := 9, nameIndex := 117, descriptorIndex := 122, attributes := #[] }, { accessFlags := 9, nameIndex := 117, descriptorIndex := 118, attributes := #[] }] 48 6 #[] #[{ accessFlags := 26, nameIndex := 61, descriptorIndex := 62, attributes := #[] }, { accessFlags := 26, nameIndex := 65, descriptorIndex := 62, attributes := #[] }, { accessFlags := 24, nameIndex := 430, descriptorIndex := 62, attributes := #[] }, { accessFlags := 4120, nameIndex := 46, descriptorIndex := 47, attributes := #[] }])
  fields := #[{ name := "HI_BYTE_SHIFT", type := .int, accessFlags := 26, slot := 0, constantValue := 0 }, { name := "LO_BYTE_SHIFT", type := .int, accessFlags := 26, slot := 1, constantValue := 0 }, { name := "MAX_LENGTH", type := .int, accessFlags := 24, slot := 2, constantValue := 0 }, { name := "$assertionsDisabled", type := .boolean, accessFlags := 4120, slot := 3, constantValue := 0 }]
  methods := #[k8m0, k8m1, k8m2, k8m3]
  instanceTypes := #[]
  staticTypes := #[.int, .int, .int, .boolean]
  resolved := Array.replicate 635 none
  statics := none }

def pool9 : Array CpInfo := pool [(1, .methodref 2 3), (0, .class_ 4), (0, .nameAndType 5 6), (0, u "java/lang/Object"), (0, u "<init>"), (0, u "()V"), (0, .methodref 8 9), (0, .class_ 10), (0, .nameAndType 11 12), (0, u "java/lang/String"), (0, u "isEmpty"), (0, u "()Z"), (7, .integer 65535), (0, .class_ 22), (0, u "java/lang/StringBuilder"), (0, .methodref 21 3), (2, .methodref 21 27), (0, .nameAndType 28 29), (0, u "append"), (0, u "(Ljava/lang/String;)Ljava/lang/StringBuilder;"), (0, .methodref 21 31), (0, .nameAndType 28 32), (0, u "(I)Ljava/lang/StringBuilder;"), (2, .methodref 21 36), (0, .nameAndType 37 38), (0, u "toString"), (0, u "()Ljava/lang/String;"), (0, .fieldref 40 41), (0, .class_ 42), (0, .nameAndType 43 44), (0, u "com/example/entries_to_nodes/entriestonodes/component/ServerAddress"), (0, u "host"), (0, u "Ljava/lang/String;"), (0, .fieldref 40 46), (0, .nameAndType 47 48), (0, u "port"), (0, u "I"), (12, .string 62), (0, u "["), (4, .string 68), (0, u "]"), (7, .string 77), (0, u ":"), (0, .methodref 8 79), (0, .nameAndType 80 81), (0, u "contains"), (0, u "(Ljava/lang/CharSequence;)Z"), (29, u "(Ljava/lang/String;I)V")] 27

def k9c0 : Code := { maxStack := 4, maxLocals := 3, code := prog_6_method_1_code, exceptionTable := #[], attributes := #[] }
def k9m0 : Method := { name := "<init>", desc := "(Ljava/lang/String;I)V", sig := { parameters := [(.object "java/lang/String"), .int], returnType := none }, accessFlags := 1, code := some k9c0 }
def k9c1 : Code := { maxStack := 3, maxLocals := 1, code := prog_6_method_5_code, exceptionTable := #[], attributes := #[] }
def k9m1 : Method := { name := "toString", desc := "()Ljava/lang/String;", sig := { parameters := [], returnType := some (.object "java/lang/String") }, accessFlags := 1, code := some k9c1 }
/-- com/example/entries_to_nodes/entriestonodes/component/ServerAddress -/
def k9 : Class := { plain "com/example/entries_to_nodes/entriestonodes/component/ServerAddress" (some 0) with
  accessFlags := 33
  interfaces := #[]
  cf := some (fileOf pool9 40 #[] #[{ accessFlags := 1, nameIndex := 5, descriptorIndex := 111, attributes := #[] }, { accessFlags := 1, nameIndex := 37, descriptorIndex := 38, attributes := #[] }] 33 2 #[] #[{ accessFlags := 18, nameIndex := 43, descriptorIndex := 44, attributes := #[] }, { accessFlags := 18, nameIndex := 47, descriptorIndex := 48, attributes := #[] }])
  fields := #[{ name := "host", type := (.object "java/lang/String"), accessFlags := 18, slot := 0, constantValue := 0 }, { name := "port", type := .int, accessFlags := 18, slot := 1, constantValue := 0 }]
  methods := #[k9m0, k9m1]
  instanceTypes := #[(.object "java/lang/String"), .int]
  staticTypes := #[]
  resolved := Array.replicate 139 none
  statics := none }

def pool10 : Array CpInfo := pool [(1, .class_ 2), (0, u "java/lang/Appendable"), (0, .class_ 4), (0, u "java/lang/Object")] 9

/-- java/lang/Appendable -/
def k10 : Class := { plain "java/lang/Appendable" (some 0) with
  accessFlags := 1537
  interfaces := #[]
  cf := some (fileOf pool10 1 #[] #[] 1537 3 #[] #[])
  fields := #[]
  methods := #[]
  instanceTypes := #[]
  staticTypes := #[]
  resolved := Array.replicate 14 none
  statics := none }

def pool11 : Array CpInfo := pool [(1, .class_ 2), (0, u "java/lang/String"), (0, .methodref 4 5), (0, .class_ 6), (0, .nameAndType 7 8), (0, u "java/lang/Object"), (0, u "<init>"), (0, u "()V"), (1, .class_ 12), (1, u "java/lang/AbstractStringBuilder"), (0, u "EMPTYVALUE"), (0, u "[B"), (0, .fieldref 10 16), (0, .nameAndType 17 14), (0, u "value"), (0, .fieldref 1 19), (0, .nameAndType 20 21), (0, u "COMPACT_STRINGS"), (0, u "Z"), (0, .fieldref 10 23), (0, .nameAndType 24 25), (0, u "coder"), (0, u "B"), (6, .methodref 1 33), (0, .nameAndType 34 35), (0, u "length"), (0, u "()I"), (0, .class_ 37), (0, u "java/lang/Integer"), (2, .methodref 1 41), (0, .nameAndType 24 42), (0, u "()B"), (2, u "append"), (0, u "(Ljava/lang/String;)Ljava/lang/AbstractStringBuilder;"), (1, .class_ 49), (0, u "java/lang/CharSequence"), (19, u "(Ljava/lang/String;)V"), (5, u "maybeLatin1"), (3, .fieldref 10 80), (0, .nameAndType 81 82), (0, u "count"), (0, u "I"), (0, .methodref 10 84), (0, .nameAndType 85 86), (0, u "isLatin1"), (0, u "()Z"), (13, .methodref 10 101), (0, .nameAndType 102 103), (0, u "ensureCapacityInternal"), (0, u "(I)V"), (3, u "(I)I"), (80, u "getChars"), (19, .methodref 10 209), (0, .nameAndType 210 211), (0, u "putStringAt"), (0, u "(ILjava/lang/String;)V"), (5, u "inflateIfNeededFor"), (2, .nameAndType 221 222), (0, u "getBytes"), (0, u "([BIB)V"), (22, .methodref 36 246), (0, .nameAndType 247 107), (0, u "stringSize"), (0, .methodref 36 249), (0, .nameAndType 188 250), (0, u "(II[B)I"), (146, .methodref 10 398), (0, .nameAndType 217 69), (0, .methodref 1 220), (3, u "()[B"), (40, .class_ 445), (0, u "java/lang/Appendable"), (65, u "(I)Ljava/lang/AbstractStringBuilder;"), (40, u "getValue")] 56

def k11m0 : Method := { name := "<init>", desc := "()V", sig := { parameters := [], returnType := none }, accessFlags := 0, code := none }
def k11c1 : Code := { maxStack := 2, maxLocals := 2, code := jdk_68_method_2_code, exceptionTable := #[], attributes := #[] }
def k11m1 : Method := { name := "<init>", desc := "(I)V", sig := { parameters := [.int], returnType := none }, accessFlags := 0, code := some k11c1 }
def k11c2 : Code := { maxStack := 1, maxLocals := 1, code := jdk_68_method_6_code, exceptionTable := #[], attributes := #[] }
def k11m2 : Method := { name := "length", desc := "()I", sig := { parameters := [], returnType := some .int }, accessFlags := 1, code := some k11c2 }
def k11c3 : Code := { maxStack := 4, maxLocals := 3, code := jdk_68_method_9_code, exceptionTable := #[], attributes := #[] }
def k11m3 : Method := { name := "ensureCapacityInternal", desc := "(I)V", sig := { parameters := [.int], returnType := none }, accessFlags := 2, code := some k11c3 }
def k11c4 : Code := { maxStack := 3, maxLocals := 3, code := jdk_68_method_22_code, exceptionTable := #[], attributes := #[] }
def k11m4 : Method := { name := "append", desc := "(Ljava/lang/String;)Ljava/lang/AbstractStringBuilder;", sig := { parameters := [(.object "java/lang/String")], returnType := some (.object "java/lang/AbstractStringBuilder") }, accessFlags := 1, code := some k11c4 }
def k11c5 : Code := { maxStack := 4, maxLocals := 4, code := jdk_68_method_32_code, exceptionTable := #[], attributes := #[] }
def k11m5 : Method := { name := "append", desc := "(I)Ljava/lang/AbstractStringBuilder;", sig := { parameters := [.int], returnType := some (.object "java/lang/AbstractStringBuilder") }, accessFlags := 1, code := some k11c5 }
def k11c6 : Code := { maxStack := 1, maxLocals := 1, code := jdk_68_method_64_code, exceptionTable := #[], attributes := #[] }
def k11m6 : Method := { name := "getValue", desc := "()[B", sig := { parameters := [], returnType := some (.array .byte) }, accessFlags := 16, code := some k11c6 }
def k11c7 : Code := { maxStack := 1, maxLocals := 1, code := jdk_68_method_68_code, exceptionTable := #[], attributes := #[] }
def k11m7 : Method := { name := "isLatin1", desc := "()Z", sig := { parameters := [], returnType := some .boolean }, accessFlags := 16, code := some k11c7 }
def k11c8 : Code := { maxStack := 2, maxLocals := 2, code := jdk_68_method_71_code, exceptionTable := #[], attributes := #[] }
def k11m8 : Method := { name := "inflateIfNeededFor", desc := "(Ljava/lang/String;)V", sig := { parameters := [(.object "java/lang/String")], returnType := none }, accessFlags := 2, code := some k11c8 }
def k11c9 : Code := { maxStack := 4, maxLocals := 3, code := jdk_68_method_73_code, exceptionTable := #[], attributes := #[] }
def k11m9 : Method := { name := "putStringAt", desc := "(ILjava/lang/String;)V", sig := { parameters := [.int, (.object "java/lang/String")], returnType := none }, accessFlags := 2, code := some k11c9 }
/-- java/lang/AbstractStringBuilder -/
def k11 : Class := { plain "java/lang/AbstractStringBuilder" (some 0) with
  accessFlags := 1056
  interfaces := #[10, 4]
  cf := some (fileOf pool11 10 #[] #[{ accessFlags := 0, nameIndex := 7, descriptorIndex := 8, attributes := #[] }, { accessFlags := 0, nameIndex := 7, descriptorIndex := 103, attributes := #[] }, { accessFlags := 1, nameIndex := 34, descriptorIndex := 35, attributes := #[] }, { accessFlags := 2, nameIndex := 102, descriptorIndex := 103, attributes := #[] }, { accessFlags := 1, nameIndex := 45, descriptorIndex := 46, attributes := #[] }, { accessFlags := 1, nameIndex := 45, descriptorIndex := 511, attributes := #[] }, { accessFlags := 16, nameIndex := 552, descriptorIndex := 403, attributes := #[] }, { accessFlags := 16, nameIndex := 85, descriptorIndex := 86, attributes := #[] }, { accessFlags := 2, nameIndex := 217, descriptorIndex := 69, attributes := #[] }, { accessFlags := 2, nameIndex := 210, descriptorIndex := 211, attributes := #[] }] 1056 4 #[444, 48] #[{ accessFlags := 0, nameIndex := 17, descriptorIndex := 14, attributes := #[] }, { accessFlags := 0, nameIndex := 24, descriptorIndex := 25, attributes := #[] }, { accessFlags := 0, nameIndex := 75, descriptorIndex := 21, attributes := #[] }, { accessFlags := 0, nameIndex := 81, descriptorIndex := 82, attributes := #[] }, { accessFlags := 26, nameIndex := 13, descriptorIndex := 14, attributes := #[] }])
  fields := #[{ name := "value", type := (.array .byte), accessFlags := 0, slot := 0, constantValue := 0 }, { name := "coder", type := .byte, accessFlags := 0, slot := 1, constantValue := 0 }, { name := "maybeLatin1", type := .boolean, accessFlags := 0, slot := 2, constantValue := 0 }, { name := "count", type := .int, accessFlags := 0, slot := 3, constantValue := 0 }, { name := "EMPTYVALUE", type := (.array .byte), accessFlags := 26, slot := 0, constantValue := 0 }]
  methods := #[k11m0, k11m1, k11m2, k11m3, k11m4, k11m5, k11m6, k11m7, k11m8, k11m9]
  instanceTypes := #[(.array .byte), .byte, .boolean, .int]
  staticTypes := #[(.array .byte)]
  resolved := Array.replicate 609 none
  statics := none }

def pool12 : Array CpInfo := pool [(1, .methodref 2 3), (0, .class_ 4), (0, .nameAndType 5 6), (0, u "java/lang/AbstractStringBuilder"), (0, u "<init>"), (0, u "(I)V"), (11, .class_ 20), (1, u "java/lang/String"), (3, .class_ 26), (1, u "java/lang/StringBuilder"), (0, u "append"), (0, u "(Ljava/lang/String;)Ljava/lang/StringBuilder;"), (0, .methodref 2 30), (0, .nameAndType 27 31), (0, u "(Ljava/lang/String;)Ljava/lang/AbstractStringBuilder;"), (21, .methodref 2 54), (0, .nameAndType 27 55), (0, u "(I)Ljava/lang/AbstractStringBuilder;"), (81, .methodref 18 138), (0, .nameAndType 5 139), (0, u "(Ljava/lang/StringBuilder;)V"), (5, u "()V"), (10, u "()I"), (111, u "(I)Ljava/lang/StringBuilder;"), (74, .methodref 2 344), (0, .nameAndType 345 156), (0, u "length"), (3, .class_ 350), (0, u "java/lang/Appendable"), (0, .class_ 352), (0, u "java/io/Serializable"), (0, .class_ 354), (0, u "java/lang/Comparable"), (0, .class_ 356), (0, u "java/lang/CharSequence"), (0, u "serialVersionUID"), (0, u "J"), (40, u "toString"), (0, u "()Ljava/lang/String;")] 21

def k12c0 : Code := { maxStack := 2, maxLocals := 1, code := jdk_67_method_1_code, exceptionTable := #[], attributes := #[] }
def k12m0 : Method := { name := "<init>", desc := "()V", sig := { parameters := [], returnType := none }, accessFlags := 1, code := some k12c0 }
def k12c1 : Code := { maxStack := 2, maxLocals := 2, code := jdk_67_method_7_code, exceptionTable := #[], attributes := #[] }
def k12m1 : Method := { name := "append", desc := "(Ljava/lang/String;)Ljava/lang/StringBuilder;", sig := { parameters := [(.object "java/lang/String")], returnType := some (.object "java/lang/StringBuilder") }, accessFlags := 1, code := some k12c1 }
def k12c2 : Code := { maxStack := 2, maxLocals := 2, code := jdk_67_method_15_code, exceptionTable := #[], attributes := #[] }
def k12m2 : Method := { name := "append", desc := "(I)Ljava/lang/StringBuilder;", sig := { parameters := [.int], returnType := some (.object "java/lang/StringBuilder") }, accessFlags := 1, code := some k12c2 }
def k12c3 : Code := { maxStack := 3, maxLocals := 1, code := jdk_67_method_42_code, exceptionTable := #[], attributes := #[] }
def k12m3 : Method := { name := "toString", desc := "()Ljava/lang/String;", sig := { parameters := [], returnType := some (.object "java/lang/String") }, accessFlags := 1, code := some k12c3 }
def k12c4 : Code := { maxStack := 1, maxLocals := 1, code := jdk_67_method_93_code, exceptionTable := #[], attributes := #[] }
def k12m4 : Method := { name := "length", desc := "()I", sig := { parameters := [], returnType := some .int }, accessFlags := 4161, code := some k12c4 }
/-- java/lang/StringBuilder -/
def k12 : Class := { plain "java/lang/StringBuilder" (some 11) with
  accessFlags := 49
  interfaces := #[10, 2, 3, 4]
  cf := some (fileOf pool12 24 #[] #[{ accessFlags := 1, nameIndex := 5, descriptorIndex := 145, attributes := #[] }, { accessFlags := 1, nameIndex := 27, descriptorIndex := 28, attributes := #[] }, { accessFlags := 1, nameIndex := 27, descriptorIndex := 268, attributes := #[] }, { accessFlags := 1, nameIndex := 399, descriptorIndex := 400, attributes := #[] }, { accessFlags := 4161, nameIndex := 345, descriptorIndex := 156, attributes := #[] }] 49 2 #[349, 351, 353, 355] #[{ accessFlags := 24, nameIndex := 357, descriptorIndex := 358, attributes := #[] }])
  fields := #[{ name := "serialVersionUID", type := .long, accessFlags := 24, slot := 0, constantValue := 0 }]
  methods := #[k12m0, k12m1, k12m2, k12m3, k12m4]
  instanceTypes := #[(.array .byte), .byte, .boolean, .int]
  staticTypes := #[.long]
  resolved := Array.replicate 422 none
  statics := none }

def pool13 : Array CpInfo := pool [(1, .class_ 2), (0, u "java/lang/String"), (1, .class_ 6), (1, u "java/lang/Object"), (0, u "<init>"), (0, u "()V"), (0, .methodref 1 10), (0, .nameAndType 11 12), (0, u "checkIndex"), (0, u "(II)V"), (1, .class_ 16), (1, u "java/lang/StringLatin1"), (36, u "([BI)C"), (45, .methodref 14 100), (0, .nameAndType 101 102), (0, u "indexOf"), (0, u "([BI[BII)I"), (18, u "$assertionsDisabled"), (0, u "Z"), (98, .class_ 223), (1, u "java/lang/StringLatin1$LinesSpliterator"), (28, u "charAt"), (34, u "([B[B)I"), (102, .class_ 391), (0, u "java/lang/StringLatin1$CharsSpliterator")] 3

def k13m0 : Method := { name := "<init>", desc := "()V", sig := { parameters := [], returnType := none }, accessFlags := 0, code := none }
def k13c1 : Code := { maxStack := 2, maxLocals := 2, code := jdk_43_method_2_code, exceptionTable := #[], attributes := #[] }
def k13m1 : Method := { name := "charAt", desc := "([BI)C", sig := { parameters := [(.array .byte), .int], returnType := some .char }, accessFlags := 9, code := some k13c1 }
def k13c2 : Code := { maxStack := 5, maxLocals := 2, code := jdk_43_method_24_code, exceptionTable := #[], attributes := #[] }
def k13m2 : Method := { name := "indexOf", desc := "([B[B)I", sig := { parameters := [(.array .byte), (.array .byte)], returnType := some .int }, accessFlags := 9, code := some k13c2 }
def k13c3 : Code := { maxStack := 3, maxLocals := 11, code := jdk_43_method_25_code, exceptionTable := #[], attributes := #[] }
def k13m3 : Method := { name := "indexOf", desc := "([BI[BII)I", sig := { parameters := [(.array .byte), .int, (.array .byte), .int, .int], returnType := some .int }, accessFlags := 9, code := some k13c3 }
/-- java/lang/StringLatin1 -/
def k13 : Class := { plain "java/lang/StringLatin1" (some 0) with
  accessFlags := 48
  interfaces := #[]
  cf := some (fileOf pool13 14 #[.nestMembers #[390, 221]] #[{ accessFlags := 0, nameIndex := 7, descriptorIndex := 8, attributes := #[] }, { accessFlags := 9, nameIndex := 252, descriptorIndex := 53, attributes := #[] }, { accessFlags := 9, nameIndex := 101, descriptorIndex := 287, attributes := #[] }, { accessFlags := 9, nameIndex := 101, descriptorIndex := 102, attributes := #[] }] 48 4 #[] #[{ accessFlags := 4120, nameIndex := 121, descriptorIndex := 122, attributes := #[] }])
  fields := #[{ name := "$assertionsDisabled", type := .boolean, accessFlags := 4120, slot := 0, constantValue := 0 }]
  methods := #[k13m0, k13m1, k13m2, k13m3]
  instanceTypes := #[]
  staticTypes := #[.boolean]
  resolved := Array.replicate 395 none
  statics := none }

def pool14 : Array CpInfo := pool [(2, .class_ 4), (1, u "java/lang/Object"), (0, u "<init>"), (0, u "()V"), (1, .class_ 10), (1, u "java/lang/System"), (0, u "allowSecurityManager"), (0, u "I"), (16, u "cons"), (0, u "Ljava/io/Console;"), (77, .class_ 110), (1, u "java/lang/System$CallersHolder"), (43, u "initialErrStream"), (0, u "Ljava/io/PrintStream;"), (19, u "security"), (0, u "Ljava/lang/SecurityManager;"), (31, .class_ 209), (0, u "java/lang/System$1"), (7, u "props"), (0, u "Ljava/util/Properties;"), (2, u "lineSeparator"), (0, u "Ljava/lang/String;"), (96, .class_ 321), (1, u "java/lang/System$LoggerFinder"), (5, .class_ 328), (0, u "java/lang/System$Logger"), (67, u "err"), (2, u "out"), (91, u "notSupportedJnuEncoding"), (15, u "in"), (17, u "initialIn"), (0, u "Ljava/io/InputStream;"), (35, u "bootLayer"), (0, u "Ljava/lang/ModuleLayer;"), (99, .class_ 664), (0, u "java/lang/System$2"), (9, u "NEVER"), (2, u "MAYBE"), (49, u "arraycopy"), (0, u "(Ljava/lang/Object;ILjava/lang/Object;II)V"), (72, .class_ 802), (0, u "java/lang/System$Logger$Level")] 31

def k14m0 : Method := { name := "<init>", desc := "()V", sig := { parameters := [], returnType := none }, accessFlags := 2, code := none }
def k14m1 : Method := { name := "arraycopy", desc := "(Ljava/lang/Object;ILjava/lang/Object;II)V", sig := { parameters := [(.object "java/lang/Object"), .int, (.object "java/lang/Object"), .int, .int], returnType := none }, accessFlags := 265, code := none }
/-- java/lang/System -/
def k14 : Class := { plain "java/lang/System" (some 0) with
  accessFlags := 49
  interfaces := #[]
  cf := some (fileOf pool14 8 #[.nestMembers #[319, 327, 801, 108, 663, 208]] #[{ accessFlags := 2, nameIndex := 5, descriptorIndex := 6, attributes := #[] }, { accessFlags := 265, nameIndex := 727, descriptorIndex := 728, attributes := #[] }] 49 2 #[] #[{ accessFlags := 25, nameIndex := 507, descriptorIndex := 526, attributes := #[] }, { accessFlags := 25, nameIndex := 399, descriptorIndex := 155, attributes := #[] }, { accessFlags := 25, nameIndex := 396, descriptorIndex := 155, attributes := #[] }, { accessFlags := 10, nameIndex := 525, descriptorIndex := 526, attributes := #[] }, { accessFlags := 26, nameIndex := 674, descriptorIndex := 12, attributes := #[] }, { accessFlags := 26, nameIndex := 677, descriptorIndex := 12, attributes := #[] }, { accessFlags := 10, nameIndex := 11, descriptorIndex := 12, attributes := #[] }, { accessFlags := 74, nameIndex := 175, descriptorIndex := 176, attributes := #[] }, { accessFlags := 10, nameIndex := 491, descriptorIndex := 222, attributes := #[] }, { accessFlags := 74, nameIndex := 29, descriptorIndex := 30, attributes := #[] }, { accessFlags := 74, nameIndex := 154, descriptorIndex := 155, attributes := #[] }, { accessFlags := 10, nameIndex := 217, descriptorIndex := 218, attributes := #[] }, { accessFlags := 10, nameIndex := 221, descriptorIndex := 222, attributes := #[] }, { accessFlags := 8, nameIndex := 562, descriptorIndex := 563, attributes := #[] }])
  fields := #[{ name := "in", type := (.object "java/io/InputStream"), accessFlags := 25, slot := 0, constantValue := 0 }, { name := "out", type := (.object "java/io/PrintStream"), accessFlags := 25, slot := 1, constantValue := 0 }, { name := "err", type := (.object "java/io/PrintStream"), accessFlags := 25, slot := 2, constantValue := 0 }, { name := "initialIn", type := (.object "java/io/InputStream"), accessFlags := 10, slot := 3, constantValue := 0 }, { name := "NEVER", type := .int, accessFlags := 26, slot := 4, constantValue := 0 }, { name := "MAYBE", type := .int, accessFlags := 26, slot := 5, constantValue := 0 }, { name := "allowSecurityManager", type := .int, accessFlags := 10, slot := 6, constantValue := 0 }, { name := "security", type := (.object "java/lang/SecurityManager"), accessFlags := 74, slot := 7, constantValue := 0 }, { name := "notSupportedJnuEncoding", type := (.object "java/lang/String"), accessFlags := 10, slot := 8, constantValue := 0 }, { name := "cons", type := (.object "java/io/Console"), accessFlags := 74, slot := 9, constantValue := 0 }, { name := "initialErrStream", type := (.object "java/io/PrintStream"), accessFlags := 74, slot := 10, constantValue := 0 }, { name := "props", type := (.object "java/util/Properties"), accessFlags := 10, slot := 11, constantValue := 0 }, { name := "lineSeparator", type := (.object "java/lang/String"), accessFlags := 10, slot := 12, constantValue := 0 }, { name := "bootLayer", type := (.object "java/lang/ModuleLayer"), accessFlags := 8, slot := 13, constantValue := 0 }]
  methods := #[k14m0, k14m1]
  instanceTypes := #[]
  staticTypes := #[(.object "java/io/InputStream"), (.object "java/io/PrintStream"), (.object "java/io/PrintStream"), (.object "java/io/InputStream"), .int, .int, .int, (.object "java/lang/SecurityManager"), (.object "java/lang/String"), (.object "java/io/Console"), (.object "java/io/PrintStream"), (.object "java/util/Properties"), (.object "java/lang/String"), (.object "java/lang/ModuleLayer")]
  resolved := Array.replicate 834 none
  statics := none }

def pool15 : Array CpInfo := pool [(2, .class_ 4), (1, u "java/lang/Object"), (0, u "<init>"), (0, u "()V"), (7, .class_ 16), (1, u "java/util/Arrays"), (57, .class_ 76), (1, u "java/util/Arrays$NaturalOrder"), (36, .class_ 115), (1, u "java/util/Arrays$LegacyMergeSort"), (1, u "Z"), (21, u "copyOfRange"), (10, .methodref 151 152), (0, .class_ 153), (0, .nameAndType 154 155), (0, u "java/lang/System"), (0, u "arraycopy"), (0, u "(Ljava/lang/Object;ILjava/lang/Object;II)V"), (148, .methodref 305 306), (0, .class_ 307), (0, .nameAndType 308 309), (0, u "java/lang/Math"), (0, u "min"), (0, u "(II)I"), (29, .methodref 14 340), (0, .nameAndType 341 342), (0, u "copyOfRangeByte"), (0, u "([BII)[B"), (0, .methodref 14 344), (0, .nameAndType 345 346), (0, u "checkLength"), (0, u "(II)V"), (28, .class_ 376), (0, u "java/util/Arrays$ArrayList"), (68, u "$assertionsDisabled"), (269, u "MIN_ARRAY_SORT_GRAN"), (0, u "I"), (2, u "INSERTIONSORT_THRESHOLD"), (255, .class_ 976), (0, u "java/util/Arrays$ArrayItr")] 52

def k15m0 : Method := { name := "<init>", desc := "()V", sig := { parameters := [], returnType := none }, accessFlags := 2, code := none }
def k15c1 : Code := { maxStack := 4, maxLocals := 2, code := jdk_65_method_131_code, exceptionTable := #[], attributes := #[] }
def k15m1 : Method := { name := "checkLength", desc := "(II)V", sig := { parameters := [.int, .int], returnType := none }, accessFlags := 10, code := some k15c1 }
def k15c2 : Code := { maxStack := 3, maxLocals := 3, code := jdk_65_method_132_code, exceptionTable := #[], attributes := #[] }
def k15m2 : Method := { name := "copyOfRange", desc := "([BII)[B", sig := { parameters := [(.array .byte), .int, .int], returnType := some (.array .byte) }, accessFlags := 9, code := some k15c2 }
def k15c3 : Code := { maxStack := 6, maxLocals := 5, code := jdk_65_method_133_code, exceptionTable := #[], attributes := #[] }
def k15m3 : Method := { name := "copyOfRangeByte", desc := "([BII)[B", sig := { parameters := [(.array .byte), .int, .int], returnType := some (.array .byte) }, accessFlags := 10, code := some k15c3 }
/-- java/util/Arrays -/
def k15 : Class := { plain "java/util/Arrays" (some 0) with
  accessFlags := 49
  interfaces := #[]
  cf := some (fileOf pool15 14 #[.nestMembers #[975, 375, 113, 74]] #[{ accessFlags := 2, nameIndex := 5, descriptorIndex := 6, attributes := #[] }, { accessFlags := 10, nameIndex := 345, descriptorIndex := 346, attributes := #[] }, { accessFlags := 9, nameIndex := 139, descriptorIndex := 342, attributes := #[] }, { accessFlags := 10, nameIndex := 341, descriptorIndex := 342, attributes := #[] }] 49 2 #[] #[{ accessFlags := 26, nameIndex := 715, descriptorIndex := 716, attributes := #[] }, { accessFlags := 26, nameIndex := 719, descriptorIndex := 716, attributes := #[] }, { accessFlags := 4120, nameIndex := 445, descriptorIndex := 117, attributes := #[] }])
  fields := #[{ name := "MIN_ARRAY_SORT_GRAN", type := .int, accessFlags := 26, slot := 0, constantValue := 0 }, { name := "INSERTIONSORT_THRESHOLD", type := .int, accessFlags := 26, slot := 1, constantValue := 0 }, { name := "$assertionsDisabled", type := .boolean, accessFlags := 4120, slot := 2, constantValue := 0 }]
  methods := #[k15m0, k15m1, k15m2, k15m3]
  instanceTypes := #[]
  staticTypes := #[.int, .int, .boolean]
  resolved := Array.replicate 1029 none
  statics := none }

def pool16 : Array CpInfo := pool [(1, .class_ 2), (0, u "java/lang/Math"), (1, .class_ 6), (1, u "java/lang/Object"), (0, u "<init>"), (0, u "()V"), (89, .class_ 100), (1, u "java/lang/Math$RandomNumberGeneratorHolder"), (71, u "negativeZeroFloatBits"), (0, u "J"), (2, u "negativeZeroDoubleBits"), (24, u "min"), (43, u "$assertionsDisabled"), (0, u "Z"), (88, u "(II)I"), (2, u "twoToTheDoubleScaleDown"), (0, u "D"), (4, u "twoToTheDoubleScaleUp"), (9, u "E"), (3, u "PI"), (2, u "TAU"), (2, u "DEGREES_TO_RADIANS"), (0, u "RADIANS_TO_DEGREES")] 94

def k16m0 : Method := { name := "<init>", desc := "()V", sig := { parameters := [], returnType := none }, accessFlags := 2, code := none }
def k16c1 : Code := { maxStack := 2, maxLocals := 2, code := jdk_29_method_69_code, exceptionTable := #[], attributes := #[] }
def k16m1 : Method := { name := "min", desc := "(II)I", sig := { parameters := [.int, .int], returnType := some .int }, accessFlags := 9, code := some k16c1 }
/-- java/lang/Math -/
def k16 : Class := { plain "java/lang/Math" (some 0) with
  accessFlags := 49
  interfaces := #[]
  cf := some (fileOf pool16 1 #[.nestMembers #[98]] #[{ accessFlags := 2, nameIndex := 7, descriptorIndex := 8, attributes := #[] }, { accessFlags := 9, nameIndex := 201, descriptorIndex := 335, attributes := #[] }] 49 4 #[] #[{ accessFlags := 25, nameIndex := 354, descriptorIndex := 339, attributes := #[] }, { accessFlags := 25, nameIndex := 358, descriptorIndex := 339, attributes := #[] }, { accessFlags := 25, nameIndex := 361, descriptorIndex := 339, attributes := #[] }, { accessFlags := 26, nameIndex := 364, descriptorIndex := 339, attributes := #[] }, { accessFlags := 26, nameIndex := 365, descriptorIndex := 339, attributes := #[] }, { accessFlags := 26, nameIndex := 172, descriptorIndex := 173, attributes := #[] }, { accessFlags := 26, nameIndex := 176, descriptorIndex := 173, attributes := #[] }, { accessFlags := 8, nameIndex := 344, descriptorIndex := 339, attributes := #[] }, { accessFlags := 8, nameIndex := 338, descriptorIndex := 339, attributes := #[] }, { accessFlags := 4120, nameIndex := 245, descriptorIndex := 246, attributes := #[] }])
  fields := #[{ name := "E", type := .double, accessFlags := 25, slot := 0, constantValue := 0 }, { name := "PI", type := .double, accessFlags := 25, slot := 1, constantValue := 0 }, { name := "TAU", type := .double, accessFlags := 25, slot := 2, constantValue := 0 }, { name := "DEGREES_TO_RADIANS", type := .double, accessFlags := 26, slot := 3, constantValue := 0 }, { name := "RADIANS_TO_DEGREES", type := .double, accessFlags := 26, slot := 4, constantValue := 0 }, { name := "negativeZeroFloatBits", type := .long, accessFlags := 26, slot := 5, constantValue := 0 }, { name := "negativeZeroDoubleBits", type := .long, accessFlags := 26, slot := 6, constantValue := 0 }, { name := "twoToTheDoubleScaleUp", type := .double, accessFlags := 8, slot := 7, constantValue := 0 }, { name := "twoToTheDoubleScaleDown", type := .double, accessFlags := 8, slot := 8, constantValue := 0 }, { name := "$assertionsDisabled", type := .boolean, accessFlags := 4120, slot := 9, constantValue := 0 }]
  methods := #[k16m0, k16m1]
  instanceTypes := #[]
  staticTypes := #[.double, .double, .double, .double, .double, .long, .long, .double, .double, .boolean]
  resolved := Array.replicate 460 none
  statics := none }

def pool17 : Array CpInfo := pool [(2, .class_ 4), (1, u "java/lang/Object"), (0, u "<init>"), (0, u "()V"), (1, .class_ 10), (1, u "java/lang/Number"), (2, .class_ 14), (0, u "java/io/Serializable"), (0, u "serialVersionUID"), (0, u "J")] 20

def k17m0 : Method := { name := "<init>", desc := "()V", sig := { parameters := [], returnType := none }, accessFlags := 1, code := none }
/-- java/lang/Number -/
def k17 : Class := { plain "java/lang/Number" (some 0) with
  accessFlags := 1057
  interfaces := #[2]
  cf := some (fileOf pool17 8 #[] #[{ accessFlags := 1, nameIndex := 5, descriptorIndex := 6, attributes := #[] }] 1057 2 #[13] #[{ accessFlags := 26, nameIndex := 15, descriptorIndex := 16, attributes := #[] }])
  fields := #[{ name := "serialVersionUID", type := .long, accessFlags := 26, slot := 0, constantValue := 0 }]
  methods := #[k17m0]
  instanceTypes := #[]
  staticTypes := #[.long]
  resolved := Array.replicate 37 none
  statics := none }

def pool18 : Array CpInfo := pool [(1, .class_ 2), (0, u "java/lang/Integer"), (16, u "digits"), (0, u "[C"), (33, u "(I)I"), (19, u "stringSize"), (2, u "getChars"), (0, u "(II[B)I"), (4, .fieldref 1 84), (0, .nameAndType 85 86), (0, u "DigitOnes"), (0, u "[B"), (0, .fieldref 1 88), (0, .nameAndType 89 86), (0, u "DigitTens"), (99, .class_ 190), (0, u "java/lang/Integer$IntegerCache"), (3, u "I"), (8, .class_ 204), (0, u "java/lang/Number"), (2, u "value"), (94, u "TYPE"), (0, u "Ljava/lang/Class;"), (0, .class_ 305), (0, u "java/lang/Comparable"), (0, .class_ 307), (0, u "java/lang/constant/Constable"), (0, .class_ 309), (0, u "java/lang/constant/ConstantDesc"), (0, u "MIN_VALUE"), (1, u "MAX_VALUE"), (3, u "SIZE"), (1, u "BYTES"), (1, u "serialVersionUID"), (0, u "J")] 131

def k18c0 : Code := { maxStack := 4, maxLocals := 7, code := jdk_33_method_12_code, exceptionTable := #[], attributes := #[] }
def k18m0 : Method := { name := "getChars", desc := "(II[B)I", sig := { parameters := [.int, .int, (.array .byte)], returnType := some .int }, accessFlags := 8, code := some k18c0 }
def k18c1 : Code := { maxStack := 2, maxLocals := 4, code := jdk_33_method_13_code, exceptionTable := #[], attributes := #[] }
def k18m1 : Method := { name := "stringSize", desc := "(I)I", sig := { parameters := [.int], returnType := some .int }, accessFlags := 8, code := some k18c1 }
/-- java/lang/Integer -/
def k18 : Class := { plain "java/lang/Integer" (some 17) with
  accessFlags := 49
  interfaces := #[3, 5, 6]
  cf := some (fileOf pool18 1 #[.nestMembers #[189]] #[{ accessFlags := 8, nameIndex := 77, descriptorIndex := 78, attributes := #[] }, { accessFlags := 8, nameIndex := 74, descriptorIndex := 54, attributes := #[] }] 49 203 #[304, 306, 308] #[{ accessFlags := 25, nameIndex := 310, descriptorIndex := 194, attributes := #[] }, { accessFlags := 25, nameIndex := 312, descriptorIndex := 194, attributes := #[] }, { accessFlags := 25, nameIndex := 302, descriptorIndex := 303, attributes := #[] }, { accessFlags := 24, nameIndex := 19, descriptorIndex := 20, attributes := #[] }, { accessFlags := 24, nameIndex := 89, descriptorIndex := 86, attributes := #[] }, { accessFlags := 24, nameIndex := 85, descriptorIndex := 86, attributes := #[] }, { accessFlags := 18, nameIndex := 207, descriptorIndex := 194, attributes := #[] }, { accessFlags := 25, nameIndex := 316, descriptorIndex := 194, attributes := #[] }, { accessFlags := 25, nameIndex := 318, descriptorIndex := 194, attributes := #[] }, { accessFlags := 26, nameIndex := 320, descriptorIndex := 321, attributes := #[] }])
  fields := #[{ name := "MIN_VALUE", type := .int, accessFlags := 25, slot := 0, constantValue := 0 }, { name := "MAX_VALUE", type := .int, accessFlags := 25, slot := 1, constantValue := 0 }, { name := "TYPE", type := (.object "java/lang/Class"), accessFlags := 25, slot := 2, constantValue := 0 }, { name := "digits", type := (.array .char), accessFlags := 24, slot := 3, constantValue := 0 }, { name := "DigitTens", type := (.array .byte), accessFlags := 24, slot := 4, constantValue := 0 }, { name := "DigitOnes", type := (.array .byte), accessFlags := 24, slot := 5, constantValue := 0 }, { name := "value", type := .int, accessFlags := 18, slot := 0, constantValue := 0 }, { name := "SIZE", type := .int, accessFlags := 25, slot := 6, constantValue := 0 }, { name := "BYTES", type := .int, accessFlags := 25, slot := 7, constantValue := 0 }, { name := "serialVersionUID", type := .long, accessFlags := 26, slot := 8, constantValue := 0 }]
  methods := #[k18m0, k18m1]
  instanceTypes := #[.int]
  staticTypes := #[.int, .int, (.object "java/lang/Class"), (.array .char), (.array .byte), (.array .byte), .int, .int, .long]
  resolved := Array.replicate 453 none
  statics := some 1 }

def pool19 : Array CpInfo := pool [(2, .class_ 4), (1, u "java/lang/Object"), (0, u "<init>"), (0, u "()V"), (17, .class_ 26), (1, u "jdk/internal/util/Preconditions"), (6, u "checkIndex"), (21, .class_ 56), (0, u "jdk/internal/util/Preconditions$4"), (57, .class_ 115), (0, u "jdk/internal/util/Preconditions$1"), (7, u "SIOOBE_FORMATTER"), (0, u "Ljava/util/function/BiFunction;"), (0, .class_ 126), (0, u "jdk/internal/util/Preconditions$2"), (3, u "AIOOBE_FORMATTER"), (0, .class_ 132), (0, u "jdk/internal/util/Preconditions$3"), (3, u "IOOBE_FORMATTER"), (41, u "(IILjava/util/function/BiFunction;)I")] 15

def k19m0 : Method := { name := "<init>", desc := "()V", sig := { parameters := [], returnType := none }, accessFlags := 1, code := none }
def k19c1 : Code := { maxStack := 3, maxLocals := 3, code := jdk_41_method_11_code, exceptionTable := #[], attributes := #[] }
def k19m1 : Method := { name := "checkIndex", desc := "(IILjava/util/function/BiFunction;)I", sig := { parameters := [.int, .int, (.object "java/util/function/BiFunction")], returnType := some .int }, accessFlags := 9, code := some k19c1 }
/-- jdk/internal/util/Preconditions -/
def k19 : Class := { plain "jdk/internal/util/Preconditions" (some 0) with
  accessFlags := 33
  interfaces := #[]
  cf := some (fileOf pool19 24 #[.nestMembers #[55, 131, 125, 114]] #[{ accessFlags := 1, nameIndex := 5, descriptorIndex := 6, attributes := #[] }, { accessFlags := 9, nameIndex := 33, descriptorIndex := 178, attributes := #[] }] 33 2 #[] #[{ accessFlags := 25, nameIndex := 123, descriptorIndex := 124, attributes := #[] }, { accessFlags := 25, nameIndex := 130, descriptorIndex := 124, attributes := #[] }, { accessFlags := 25, nameIndex := 136, descriptorIndex := 124, attributes := #[] }])
  fields := #[{ name := "SIOOBE_FORMATTER", type := (.object "java/util/function/BiFunction"), accessFlags := 25, slot := 0, constantValue := 0 }, { name := "AIOOBE_FORMATTER", type := (.object "java/util/function/BiFunction"), accessFlags := 25, slot := 1, constantValue := 0 }, { name := "IOOBE_FORMATTER", type := (.object "java/util/function/BiFunction"), accessFlags := 25, slot := 2, constantValue := 0 }]
  methods := #[k19m0, k19m1]
  instanceTypes := #[]
  staticTypes := #[(.object "java/util/function/BiFunction"), (.object "java/util/function/BiFunction"), (.object "java/util/function/BiFunction")]
  resolved := Array.replicate 194 none
  statics := some 2 }

def pool20 : Array CpInfo := pool [(9, u "<init>"), (6, .class_ 18), (1, u "java/lang/Object"), (0, u "()V"), (1, .class_ 23), (1, u "jdk/internal/util/ArraysSupport"), (0, u "LOG2_ARRAY_LONG_INDEX_SCALE"), (0, u "I"), (2, u "U"), (0, u "Ljdk/internal/misc/Unsafe;"), (8, u "BIG_ENDIAN"), (0, u "Z"), (8, u "LOG2_BYTE_BIT_SIZE"), (4, u "LOG2_ARRAY_INT_INDEX_SCALE"), (54, u "JLA"), (0, u "Ljdk/internal/access/JavaLangAccess;"), (11, u "LOG2_ARRAY_BOOLEAN_INDEX_SCALE"), (9, u "LOG2_ARRAY_BYTE_INDEX_SCALE"), (5, u "LOG2_ARRAY_CHAR_INDEX_SCALE"), (5, u "LOG2_ARRAY_SHORT_INDEX_SCALE"), (18, u "LOG2_ARRAY_FLOAT_INDEX_SCALE"), (24, u "LOG2_ARRAY_DOUBLE_INDEX_SCALE"), (89, u "T_BOOLEAN"), (2, u "T_CHAR"), (1, u "T_FLOAT"), (1, u "T_DOUBLE"), (1, u "T_BYTE"), (1, u "T_SHORT"), (1, u "T_INT"), (1, u "T_LONG"), (1, u "SOFT_MAX_ARRAY_LENGTH")] 83

def k20m0 : Method := { name := "<init>", desc := "()V", sig := { parameters := [], returnType := none }, accessFlags := 2, code := none }
/-- jdk/internal/util/ArraysSupport -/
def k20 : Class := { plain "jdk/internal/util/ArraysSupport" (some 0) with
  accessFlags := 33
  interfaces := #[]
  cf := some (fileOf pool20 21 #[] #[{ accessFlags := 2, nameIndex := 9, descriptorIndex := 19, attributes := #[] }] 33 16 #[] #[{ accessFlags := 24, nameIndex := 28, descriptorIndex := 29, attributes := #[] }, { accessFlags := 26, nameIndex := 38, descriptorIndex := 39, attributes := #[] }, { accessFlags := 25, nameIndex := 121, descriptorIndex := 25, attributes := #[] }, { accessFlags := 25, nameIndex := 131, descriptorIndex := 25, attributes := #[] }, { accessFlags := 25, nameIndex := 137, descriptorIndex := 25, attributes := #[] }, { accessFlags := 25, nameIndex := 143, descriptorIndex := 25, attributes := #[] }, { accessFlags := 25, nameIndex := 53, descriptorIndex := 25, attributes := #[] }, { accessFlags := 25, nameIndex := 24, descriptorIndex := 25, attributes := #[] }, { accessFlags := 25, nameIndex := 162, descriptorIndex := 25, attributes := #[] }, { accessFlags := 25, nameIndex := 187, descriptorIndex := 25, attributes := #[] }, { accessFlags := 26, nameIndex := 48, descriptorIndex := 25, attributes := #[] }, { accessFlags := 25, nameIndex := 277, descriptorIndex := 25, attributes := #[] }, { accessFlags := 25, nameIndex := 280, descriptorIndex := 25, attributes := #[] }, { accessFlags := 25, nameIndex := 282, descriptorIndex := 25, attributes := #[] }, { accessFlags := 25, nameIndex := 284, descriptorIndex := 25, attributes := #[] }, { accessFlags := 25, nameIndex := 286, descriptorIndex := 25, attributes := #[] }, { accessFlags := 25, nameIndex := 288, descriptorIndex := 25, attributes := #[] }, { accessFlags := 25, nameIndex := 290, descriptorIndex := 25, attributes := #[] }, { accessFlags := 25, nameIndex := 292, descriptorIndex := 25, attributes := #[] }, { accessFlags := 26, nameIndex := 108, descriptorIndex := 109, attributes := #[] }, { accessFlags := 25, nameIndex := 294, descriptorIndex := 25, attributes := #[] }])
  fields := #[{ name := "U", type := (.object "jdk/internal/misc/Unsafe"), accessFlags := 24, slot := 0, constantValue := 0 }, { name := "BIG_ENDIAN", type := .boolean, accessFlags := 26, slot := 1, constantValue := 0 }, { name := "LOG2_ARRAY_BOOLEAN_INDEX_SCALE", type := .int, accessFlags := 25, slot := 2, constantValue := 0 }, { name := "LOG2_ARRAY_BYTE_INDEX_SCALE", type := .int, accessFlags := 25, slot := 3, constantValue := 0 }, { name := "LOG2_ARRAY_CHAR_INDEX_SCALE", type := .int, accessFlags := 25, slot := 4, constantValue := 0 }, { name := "LOG2_ARRAY_SHORT_INDEX_SCALE", type := .int, accessFlags := 25, slot := 5, constantValue := 0 }, { name := "LOG2_ARRAY_INT_INDEX_SCALE", type := .int, accessFlags := 25, slot := 6, constantValue := 0 }, { name := "LOG2_ARRAY_LONG_INDEX_SCALE", type := .int, accessFlags := 25, slot := 7, constantValue := 0 }, { name := "LOG2_ARRAY_FLOAT_INDEX_SCALE", type := .int, accessFlags := 25, slot := 8, constantValue := 0 }, { name := "LOG2_ARRAY_DOUBLE_INDEX_SCALE", type := .int, accessFlags := 25, slot := 9, constantValue := 0 }, { name := "LOG2_BYTE_BIT_SIZE", type := .int, accessFlags := 26, slot := 10, constantValue := 0 }, { name := "T_BOOLEAN", type := .int, accessFlags := 25, slot := 11, constantValue := 0 }, { name := "T_CHAR", type := .int, accessFlags := 25, slot := 12, constantValue := 0 }, { name := "T_FLOAT", type := .int, accessFlags := 25, slot := 13, constantValue := 0 }, { name := "T_DOUBLE", type := .int, accessFlags := 25, slot := 14, constantValue := 0 }, { name := "T_BYTE", type := .int, accessFlags := 25, slot := 15, constantValue := 0 }, { name := "T_SHORT", type := .int, accessFlags := 25, slot := 16, constantValue := 0 }, { name := "T_INT", type := .int, accessFlags := 25, slot := 17, constantValue := 0 }, { name := "T_LONG", type := .int, accessFlags := 25, slot := 18, constantValue := 0 }, { name := "JLA", type := (.object "jdk/internal/access/JavaLangAccess"), accessFlags := 26, slot := 19, constantValue := 0 }, { name := "SOFT_MAX_ARRAY_LENGTH", type := .int, accessFlags := 25, slot := 20, constantValue := 0 }]
  methods := #[k20m0]
  instanceTypes := #[]
  staticTypes := #[(.object "jdk/internal/misc/Unsafe"), .boolean, .int, .int, .int, .int, .int, .int, .int, .int, .int, .int, .int, .int, .int, .int, .int, .int, .int, (.object "jdk/internal/access/JavaLangAccess"), .int]
  resolved := Array.replicate 378 none
  statics := none }

def pool21 : Array CpInfo := pool [(1, u "java/lang/Cloneable"), (0, .class_ 1), (0, u "java/lang/Object"), (0, .class_ 3)] 3

/-- java/lang/Cloneable -/
def k21 : Class := { plain "java/lang/Cloneable" (some 0) with
  accessFlags := 1537
  interfaces := #[]
  cf := some (fileOf pool21 2 #[] #[] 1537 4 #[] #[])
  fields := #[]
  methods := #[]
  instanceTypes := #[]
  staticTypes := #[]
  resolved := Array.replicate 8 none
  statics := none }

/-- the primitive byte -/
def k22 : Class := { plain "byte" none with kind := .primitive 'B', accessFlags := 0x411 }
/-- [B -/
def k23 : Class := { plain "[B" (some 0) with kind := .array 22 .byte, interfaces := #[21, 2], accessFlags := 1041 }

/-- the primitive char -/
def k24 : Class := { plain "char" none with kind := .primitive 'C', accessFlags := 0x411 }
/-- [C -/
def k25 : Class := { plain "[C" (some 0) with kind := .array 24 .char, interfaces := #[21, 2], accessFlags := 1041 }

/-- the primitive int -/
def k26 : Class := { plain "int" none with kind := .primitive 'I', accessFlags := 0x411 }
/-- [I -/
def k27 : Class := { plain "[I" (some 0) with kind := .array 26 .int, interfaces := #[21, 2], accessFlags := 1041 }

def heap : Heap := #[{ cls := 7, slots := #[.long 0, .int 1, .null, .int 0, .null, .int 0, .int 0], vm := .statics 7 },
  { cls := 18, slots := #[.int 0, .int 0, .null, .null, .ref 4, .ref 3, .int 0, .int 0, .long 0], vm := .statics 18 },
  { cls := 19, slots := #[.null, .null, .null], vm := .statics 19 },
  { cls := 23, slots := #[.int 48, .int 49, .int 50, .int 51, .int 52, .int 53, .int 54, .int 55, .int 56, .int 57, .int 48, .int 49, .int 50, .int 51, .int 52, .int 53, .int 54, .int 55, .int 56, .int 57, .int 48, .int 49, .int 50, .int 51, .int 52, .int 53, .int 54, .int 55, .int 56, .int 57, .int 48, .int 49, .int 50, .int 51, .int 52, .int 53, .int 54, .int 55, .int 56, .int 57, .int 48, .int 49, .int 50, .int 51, .int 52, .int 53, .int 54, .int 55, .int 56, .int 57, .int 48, .int 49, .int 50, .int 51, .int 52, .int 53, .int 54, .int 55, .int 56, .int 57, .int 48, .int 49, .int 50, .int 51, .int 52, .int 53, .int 54, .int 55, .int 56, .int 57, .int 48, .int 49, .int 50, .int 51, .int 52, .int 53, .int 54, .int 55, .int 56, .int 57, .int 48, .int 49, .int 50, .int 51, .int 52, .int 53, .int 54, .int 55, .int 56, .int 57, .int 48, .int 49, .int 50, .int 51, .int 52, .int 53, .int 54, .int 55, .int 56, .int 57], vm := .none },
  { cls := 23, slots := #[.int 48, .int 48, .int 48, .int 48, .int 48, .int 48, .int 48, .int 48, .int 48, .int 48, .int 49, .int 49, .int 49, .int 49, .int 49, .int 49, .int 49, .int 49, .int 49, .int 49, .int 50, .int 50, .int 50, .int 50, .int 50, .int 50, .int 50, .int 50, .int 50, .int 50, .int 51, .int 51, .int 51, .int 51, .int 51, .int 51, .int 51, .int 51, .int 51, .int 51, .int 52, .int 52, .int 52, .int 52, .int 52, .int 52, .int 52, .int 52, .int 52, .int 52, .int 53, .int 53, .int 53, .int 53, .int 53, .int 53, .int 53, .int 53, .int 53, .int 53, .int 54, .int 54, .int 54, .int 54, .int 54, .int 54, .int 54, .int 54, .int 54, .int 54, .int 55, .int 55, .int 55, .int 55, .int 55, .int 55, .int 55, .int 55, .int 55, .int 55, .int 56, .int 56, .int 56, .int 56, .int 56, .int 56, .int 56, .int 56, .int 56, .int 56, .int 57, .int 57, .int 57, .int 57, .int 57, .int 57, .int 57, .int 57, .int 57, .int 57], vm := .none },
  { cls := 20, slots := #[], vm := .none }]
def classes : Array Class := #[k0, k1, k2, k3, k4, k5, k6, k7, k8, k9, k10, k11, k12, k13, k14, k15, k16, k17, k18, k19, k20, k21, k22, k23, k24, k25, k26, k27]
def interned : List (Array UInt16 × Addr) := []
def slotsUsed : Nat := 219
def theMethod : MethodId := ⟨1, 3⟩
def args0 : Array Value := #[.int 2, .int 300, .int 0, .int 321, .int 4241]
def aboutOver (below : List Frame) : State where
  vm := { classes := classes, interned := interned.toArray }
  heap := heap
  slotsUsed := slotsUsed
  threads := #[{ frames := .invoking theMethod args0 :: below }]
def below0 : List Frame := [.native { method := ⟨0, 0⟩, args := #[] }]
def about1 : State := aboutOver below0
def p0 : Program := .bare "" "" ""
def e0 : Env := launch0.env 0 0 0
theorem w_frames : about1.frames = Frame.invoking theMethod args0 :: below0 := rfl
set_option maxRecDepth 65536 in
theorem w_args : argsFit about1.vm theMethod args0 = true := by decide +kernel
set_option maxRecDepth 65536 in
theorem w_heap : heapFits about1 = true := by decide +kernel
set_option maxRecDepth 65536 in
theorem w_runnable : about1.curStatus? = some .runnable := by decide +kernel
set_option maxRecDepth 65536 in
theorem w_alone : about1.alone = true := by decide +kernel
set_option maxRecDepth 65536 in
theorem w_named : about1.methodNamed? x = some theMethod := by decide +kernel
set_option maxRecDepth 65536 in
theorem w_hears : about1.hears theMethod below0 = true := by decide +kernel
set_option maxRecDepth 65536 in
theorem w_ripe : about1.ripe theMethod args0 below0 = true := by decide +kernel
theorem w_running : about1.status = .running := rfl
set_option maxRecDepth 65536 in
theorem w_room : about1.hasRoom e0.platform room_1 = true :=
  launch0.hasRoom_least _ room_1 (by decide +kernel) (by decide +kernel) (by decide +kernel) (by decide +kernel) (by decide +kernel) (by decide +kernel)
theorem allAtoms_all (ts : List Jvm.Cond) (a : Array Jvm.Value) (st : Jvm.State) : (allAtoms ts).before a st = ts.all (fun c => c.before a st) := by
  induction ts with
  | nil => rfl
  | cons c t ih =>
    show (Jvm.Cond.and c (allAtoms t)).before a st = _
    rw [Jvm.Cond.before_and, ih, List.all_cons]
def words1 : List Jvm.Cond := Jvm.Cond.code x code maxLocals ret :: tables_1
/-- a 'code' word, met by the world's own term for the bytes: nothing is compared byte by byte -/
theorem code_word {y : MethodName} {bytes : ByteArray} {mx : Nat} {rt : Option FieldType} {a : Array Value} {s : State} {m : MethodId} {meth : Method} {c : Code} (h1 : s.methodNamed? y = some m) (h2 : s.vm.method? m = some meth) (h3 : meth.code = some c) (h4 : c.code = bytes)
    (h5 : (c.maxLocals == mx && c.exceptionTable.isEmpty && decide (c.maxStack ≤ mostOperands) && decide (meth.sig.returnType = rt) && !meth.locks && decide (parseMethodDescriptor y.desc = some meth.sig)) = true) : (Jvm.Cond.code y bytes mx rt).before a s = true := by
  simp only [Bool.and_eq_true, beq_iff_eq, Bool.not_eq_true', decide_eq_true_eq] at h5
  obtain ⟨⟨⟨⟨⟨g1, g2⟩, g3⟩, g4⟩, g5⟩, g6⟩ := h5
  simp [Cond.before, Cond.holds, Cond.value, h1, h2, h3, h4, g1, g2, g3, g4, g5, g6]
def isCode : Jvm.Cond → Bool
  | .code _ _ _ _ => true
  | _ => false
theorem all_split {L : List Jvm.Cond} {P : Jvm.Cond → Bool} (h1 : L.all (fun c => isCode c || P c) = true) (h2 : ∀ c ∈ L.filter isCode, P c = true) : L.all P = true := by
  refine List.all_eq_true.mpr fun c hc => ?_
  have h := List.all_eq_true.mp h1 c hc
  rcases Bool.eq_false_or_eq_true (isCode c) with hi | hi
  · exact h2 c (List.mem_filter.mpr ⟨hc, hi⟩)
  · simpa [hi] using h
set_option maxRecDepth 65536 in
theorem w_c0 : (Jvm.Cond.code x code maxLocals ret).before args0 about1 = true := code_word (m := ⟨1, 3⟩) (meth := k1m3) (c := k1c3) (by decide +kernel) rfl rfl rfl (by decide +kernel)
set_option maxRecDepth 65536 in
theorem w_c1 : (Jvm.Cond.code ({ cls := "com/example/entries_to_nodes/entriestonodes/component/ServerAddressToStringPinLaw", name := "draw", desc := "(I)C" } : Jvm.MethodName) method_2_code (1 : Nat) (Option.some Jvm.ClassFile.FieldType.char)).before args0 about1 = true := code_word (m := ⟨1, 1⟩) (meth := k1m1) (c := k1c1) (by decide +kernel) rfl rfl rfl (by decide +kernel)
set_option maxRecDepth 65536 in
theorem w_c2 : (Jvm.Cond.code ({ cls := "java/lang/String", name := "<init>", desc := "([C)V" } : Jvm.MethodName) jdk_42_method_3_code (2 : Nat) (Option.none : Option Jvm.ClassFile.FieldType)).before args0 about1 = true := code_word (m := ⟨7, 1⟩) (meth := k7m1) (c := k7c1) (by decide +kernel) rfl rfl rfl (by decide +kernel)
set_option maxRecDepth 65536 in
theorem w_c3 : (Jvm.Cond.code ({ cls := "java/lang/String", name := "<init>", desc := "([CIILjava/lang/Void;)V" } : Jvm.MethodName) jdk_42_method_149_code (6 : Nat) (Option.none : Option Jvm.ClassFile.FieldType)).before args0 about1 = true := code_word (m := ⟨7, 10⟩) (meth := k7m10) (c := k7c10) (by decide +kernel) rfl rfl rfl (by decide +kernel)
set_option maxRecDepth 65536 in
theorem w_c4 : (Jvm.Cond.code ({ cls := "java/lang/Object", name := "<init>", desc := "()V" } : Jvm.MethodName) object_method_1_code (1 : Nat) (Option.none : Option Jvm.ClassFile.FieldType)).before args0 about1 = true := code_word (m := ⟨0, 0⟩) (meth := k0m0) (c := k0c0) (by decide +kernel) rfl rfl rfl (by decide +kernel)
set_option maxRecDepth 65536 in
theorem w_c5 : (Jvm.Cond.code ({ cls := "java/lang/StringUTF16", name := "compress", desc := "([CII)[B" } : Jvm.MethodName) jdk_52_method_16_code (6 : Nat) (Option.some (Jvm.ClassFile.FieldType.array Jvm.ClassFile.FieldType.byte))).before args0 about1 = true := code_word (m := ⟨8, 2⟩) (meth := k8m2) (c := k8c2) (by decide +kernel) rfl rfl rfl (by decide +kernel)
set_option maxRecDepth 65536 in
theorem w_c6 : (Jvm.Cond.code ({ cls := "java/lang/StringUTF16", name := "compress", desc := "([CI[BII)I" } : Jvm.MethodName) jdk_52_method_21_code (7 : Nat) (Option.some Jvm.ClassFile.FieldType.int)).before args0 about1 = true := code_word (m := ⟨8, 3⟩) (meth := k8m3) (c := k8c3) (by decide +kernel) rfl rfl rfl (by decide +kernel)
set_option maxRecDepth 65536 in
theorem w_c7 : (Jvm.Cond.code ({ cls := "java/lang/StringUTF16", name := "coderFromArrayLen", desc := "([BI)B" } : Jvm.MethodName) jdk_52_method_15_code (2 : Nat) (Option.some Jvm.ClassFile.FieldType.byte)).before args0 about1 = true := code_word (m := ⟨8, 1⟩) (meth := k8m1) (c := k8c1) (by decide +kernel) rfl rfl rfl (by decide +kernel)
set_option maxRecDepth 65536 in
theorem w_c8 : (Jvm.Cond.code ({ cls := "com/example/entries_to_nodes/entriestonodes/component/ServerAddress", name := "<init>", desc := "(Ljava/lang/String;I)V" } : Jvm.MethodName) prog_6_method_1_code (3 : Nat) (Option.none : Option Jvm.ClassFile.FieldType)).before args0 about1 = true := code_word (m := ⟨9, 0⟩) (meth := k9m0) (c := k9c0) (by decide +kernel) rfl rfl rfl (by decide +kernel)
set_option maxRecDepth 65536 in
theorem w_c9 : (Jvm.Cond.code ({ cls := "java/lang/String", name := "isEmpty", desc := "()Z" } : Jvm.MethodName) jdk_42_method_55_code (1 : Nat) (Option.some Jvm.ClassFile.FieldType.boolean)).before args0 about1 = true := code_word (m := ⟨7, 4⟩) (meth := k7m4) (c := k7c4) (by decide +kernel) rfl rfl rfl (by decide +kernel)
set_option maxRecDepth 65536 in
theorem w_c10 : (Jvm.Cond.code ({ cls := "com/example/entries_to_nodes/entriestonodes/component/ServerAddress", name := "toString", desc := "()Ljava/lang/String;" } : Jvm.MethodName) prog_6_method_5_code (1 : Nat) (Option.some (Jvm.ClassFile.FieldType.object "java/lang/String"))).before args0 about1 = true := code_word (m := ⟨9, 1⟩) (meth := k9m1) (c := k9c1) (by decide +kernel) rfl rfl rfl (by decide +kernel)
set_option maxRecDepth 65536 in
theorem w_c11 : (Jvm.Cond.code ({ cls := "java/lang/StringBuilder", name := "<init>", desc := "()V" } : Jvm.MethodName) jdk_67_method_1_code (1 : Nat) (Option.none : Option Jvm.ClassFile.FieldType)).before args0 about1 = true := code_word (m := ⟨12, 0⟩) (meth := k12m0) (c := k12c0) (by decide +kernel) rfl rfl rfl (by decide +kernel)
set_option maxRecDepth 65536 in
theorem w_c12 : (Jvm.Cond.code ({ cls := "java/lang/AbstractStringBuilder", name := "<init>", desc := "(I)V" } : Jvm.MethodName) jdk_68_method_2_code (2 : Nat) (Option.none : Option Jvm.ClassFile.FieldType)).before args0 about1 = true := code_word (m := ⟨11, 1⟩) (meth := k11m1) (c := k11c1) (by decide +kernel) rfl rfl rfl (by decide +kernel)
set_option maxRecDepth 65536 in
theorem w_c13 : (Jvm.Cond.code ({ cls := "java/lang/String", name := "contains", desc := "(Ljava/lang/CharSequence;)Z" } : Jvm.MethodName) jdk_42_method_97_code (2 : Nat) (Option.some Jvm.ClassFile.FieldType.boolean)).before args0 about1 = true := code_word (m := ⟨7, 7⟩) (meth := k7m7) (c := k7c7) (by decide +kernel) rfl rfl rfl (by decide +kernel)
set_option maxRecDepth 65536 in
theorem w_c14 : (Jvm.Cond.code ({ cls := "java/lang/String", name := "toString", desc := "()Ljava/lang/String;" } : Jvm.MethodName) jdk_42_method_126_code (1 : Nat) (Option.some (Jvm.ClassFile.FieldType.object "java/lang/String"))).before args0 about1 = true := code_word (m := ⟨7, 8⟩) (meth := k7m8) (c := k7c8) (by decide +kernel) rfl rfl rfl (by decide +kernel)
set_option maxRecDepth 65536 in
theorem w_c15 : (Jvm.Cond.code ({ cls := "java/lang/String", name := "indexOf", desc := "(Ljava/lang/String;)I" } : Jvm.MethodName) jdk_42_method_84_code (3 : Nat) (Option.some Jvm.ClassFile.FieldType.int)).before args0 about1 = true := code_word (m := ⟨7, 6⟩) (meth := k7m6) (c := k7c6) (by decide +kernel) rfl rfl rfl (by decide +kernel)
set_option maxRecDepth 65536 in
theorem w_c16 : (Jvm.Cond.code ({ cls := "java/lang/String", name := "coder", desc := "()B" } : Jvm.MethodName) jdk_42_method_152_code (1 : Nat) (Option.some Jvm.ClassFile.FieldType.byte)).before args0 about1 = true := code_word (m := ⟨7, 12⟩) (meth := k7m12) (c := k7c12) (by decide +kernel) rfl rfl rfl (by decide +kernel)
set_option maxRecDepth 65536 in
theorem w_c17 : (Jvm.Cond.code ({ cls := "java/lang/String", name := "isLatin1", desc := "()Z" } : Jvm.MethodName) jdk_42_method_154_code (1 : Nat) (Option.some Jvm.ClassFile.FieldType.boolean)).before args0 about1 = true := code_word (m := ⟨7, 13⟩) (meth := k7m13) (c := k7c13) (by decide +kernel) rfl rfl rfl (by decide +kernel)
set_option maxRecDepth 65536 in
theorem w_c18 : (Jvm.Cond.code ({ cls := "java/lang/StringLatin1", name := "indexOf", desc := "([B[B)I" } : Jvm.MethodName) jdk_43_method_24_code (2 : Nat) (Option.some Jvm.ClassFile.FieldType.int)).before args0 about1 = true := code_word (m := ⟨13, 2⟩) (meth := k13m2) (c := k13c2) (by decide +kernel) rfl rfl rfl (by decide +kernel)
set_option maxRecDepth 65536 in
theorem w_c19 : (Jvm.Cond.code ({ cls := "java/lang/StringLatin1", name := "indexOf", desc := "([BI[BII)I" } : Jvm.MethodName) jdk_43_method_25_code (11 : Nat) (Option.some Jvm.ClassFile.FieldType.int)).before args0 about1 = true := code_word (m := ⟨13, 3⟩) (meth := k13m3) (c := k13c3) (by decide +kernel) rfl rfl rfl (by decide +kernel)
set_option maxRecDepth 65536 in
theorem w_c20 : (Jvm.Cond.code ({ cls := "java/lang/StringBuilder", name := "append", desc := "(Ljava/lang/String;)Ljava/lang/StringBuilder;" } : Jvm.MethodName) jdk_67_method_7_code (2 : Nat) (Option.some (Jvm.ClassFile.FieldType.object "java/lang/StringBuilder"))).before args0 about1 = true := code_word (m := ⟨12, 1⟩) (meth := k12m1) (c := k12c1) (by decide +kernel) rfl rfl rfl (by decide +kernel)
set_option maxRecDepth 65536 in
theorem w_c21 : (Jvm.Cond.code ({ cls := "java/lang/AbstractStringBuilder", name := "append", desc := "(Ljava/lang/String;)Ljava/lang/AbstractStringBuilder;" } : Jvm.MethodName) jdk_68_method_22_code (3 : Nat) (Option.some (Jvm.ClassFile.FieldType.object "java/lang/AbstractStringBuilder"))).before args0 about1 = true := code_word (m := ⟨11, 4⟩) (meth := k11m4) (c := k11c4) (by decide +kernel) rfl rfl rfl (by decide +kernel)
set_option maxRecDepth 65536 in
theorem w_c22 : (Jvm.Cond.code ({ cls := "java/lang/String", name := "length", desc := "()I" } : Jvm.MethodName) jdk_42_method_54_code (1 : Nat) (Option.some Jvm.ClassFile.FieldType.int)).before args0 about1 = true := code_word (m := ⟨7, 3⟩) (meth := k7m3) (c := k7c3) (by decide +kernel) rfl rfl rfl (by decide +kernel)
set_option maxRecDepth 65536 in
theorem w_c23 : (Jvm.Cond.code ({ cls := "java/lang/AbstractStringBuilder", name := "ensureCapacityInternal", desc := "(I)V" } : Jvm.MethodName) jdk_68_method_9_code (3 : Nat) (Option.none : Option Jvm.ClassFile.FieldType)).before args0 about1 = true := code_word (m := ⟨11, 3⟩) (meth := k11m3) (c := k11c3) (by decide +kernel) rfl rfl rfl (by decide +kernel)
set_option maxRecDepth 65536 in
theorem w_c24 : (Jvm.Cond.code ({ cls := "java/lang/AbstractStringBuilder", name := "putStringAt", desc := "(ILjava/lang/String;)V" } : Jvm.MethodName) jdk_68_method_73_code (3 : Nat) (Option.none : Option Jvm.ClassFile.FieldType)).before args0 about1 = true := code_word (m := ⟨11, 9⟩) (meth := k11m9) (c := k11c9) (by decide +kernel) rfl rfl rfl (by decide +kernel)
set_option maxRecDepth 65536 in
theorem w_c25 : (Jvm.Cond.code ({ cls := "java/lang/AbstractStringBuilder", name := "inflateIfNeededFor", desc := "(Ljava/lang/String;)V" } : Jvm.MethodName) jdk_68_method_71_code (2 : Nat) (Option.none : Option Jvm.ClassFile.FieldType)).before args0 about1 = true := code_word (m := ⟨11, 8⟩) (meth := k11m8) (c := k11c8) (by decide +kernel) rfl rfl rfl (by decide +kernel)
set_option maxRecDepth 65536 in
theorem w_c26 : (Jvm.Cond.code ({ cls := "java/lang/String", name := "getBytes", desc := "([BIB)V" } : Jvm.MethodName) jdk_42_method_147_code (4 : Nat) (Option.none : Option Jvm.ClassFile.FieldType)).before args0 about1 = true := code_word (m := ⟨7, 9⟩) (meth := k7m9) (c := k7c9) (by decide +kernel) rfl rfl rfl (by decide +kernel)
set_option maxRecDepth 65536 in
theorem w_c27 : (Jvm.Cond.code ({ cls := "java/lang/StringBuilder", name := "toString", desc := "()Ljava/lang/String;" } : Jvm.MethodName) jdk_67_method_42_code (1 : Nat) (Option.some (Jvm.ClassFile.FieldType.object "java/lang/String"))).before args0 about1 = true := code_word (m := ⟨12, 3⟩) (meth := k12m3) (c := k12c3) (by decide +kernel) rfl rfl rfl (by decide +kernel)
set_option maxRecDepth 65536 in
theorem w_c28 : (Jvm.Cond.code ({ cls := "java/lang/String", name := "<init>", desc := "(Ljava/lang/StringBuilder;)V" } : Jvm.MethodName) jdk_42_method_53_code (2 : Nat) (Option.none : Option Jvm.ClassFile.FieldType)).before args0 about1 = true := code_word (m := ⟨7, 2⟩) (meth := k7m2) (c := k7c2) (by decide +kernel) rfl rfl rfl (by decide +kernel)
set_option maxRecDepth 65536 in
theorem w_c29 : (Jvm.Cond.code ({ cls := "java/lang/String", name := "<init>", desc := "(Ljava/lang/AbstractStringBuilder;Ljava/lang/Void;)V" } : Jvm.MethodName) jdk_42_method_150_code (5 : Nat) (Option.none : Option Jvm.ClassFile.FieldType)).before args0 about1 = true := code_word (m := ⟨7, 11⟩) (meth := k7m11) (c := k7c11) (by decide +kernel) rfl rfl rfl (by decide +kernel)
set_option maxRecDepth 65536 in
theorem w_c30 : (Jvm.Cond.code ({ cls := "java/lang/AbstractStringBuilder", name := "getValue", desc := "()[B" } : Jvm.MethodName) jdk_68_method_64_code (1 : Nat) (Option.some (Jvm.ClassFile.FieldType.array Jvm.ClassFile.FieldType.byte))).before args0 about1 = true := code_word (m := ⟨11, 6⟩) (meth := k11m6) (c := k11c6) (by decide +kernel) rfl rfl rfl (by decide +kernel)
set_option maxRecDepth 65536 in
theorem w_c31 : (Jvm.Cond.code ({ cls := "java/lang/StringBuilder", name := "length", desc := "()I" } : Jvm.MethodName) jdk_67_method_93_code (1 : Nat) (Option.some Jvm.ClassFile.FieldType.int)).before args0 about1 = true := code_word (m := ⟨12, 4⟩) (meth := k12m4) (c := k12c4) (by decide +kernel) rfl rfl rfl (by decide +kernel)
set_option maxRecDepth 65536 in
theorem w_c32 : (Jvm.Cond.code ({ cls := "java/lang/AbstractStringBuilder", name := "length", desc := "()I" } : Jvm.MethodName) jdk_68_method_6_code (1 : Nat) (Option.some Jvm.ClassFile.FieldType.int)).before args0 about1 = true := code_word (m := ⟨11, 2⟩) (meth := k11m2) (c := k11c2) (by decide +kernel) rfl rfl rfl (by decide +kernel)
set_option maxRecDepth 65536 in
theorem w_c33 : (Jvm.Cond.code ({ cls := "java/lang/AbstractStringBuilder", name := "isLatin1", desc := "()Z" } : Jvm.MethodName) jdk_68_method_68_code (1 : Nat) (Option.some Jvm.ClassFile.FieldType.boolean)).before args0 about1 = true := code_word (m := ⟨11, 7⟩) (meth := k11m7) (c := k11c7) (by decide +kernel) rfl rfl rfl (by decide +kernel)
set_option maxRecDepth 65536 in
theorem w_c34 : (Jvm.Cond.code ({ cls := "java/util/Arrays", name := "copyOfRange", desc := "([BII)[B" } : Jvm.MethodName) jdk_65_method_132_code (3 : Nat) (Option.some (Jvm.ClassFile.FieldType.array Jvm.ClassFile.FieldType.byte))).before args0 about1 = true := code_word (m := ⟨15, 2⟩) (meth := k15m2) (c := k15c2) (by decide +kernel) rfl rfl rfl (by decide +kernel)
set_option maxRecDepth 65536 in
theorem w_c35 : (Jvm.Cond.code ({ cls := "java/util/Arrays", name := "copyOfRangeByte", desc := "([BII)[B" } : Jvm.MethodName) jdk_65_method_133_code (5 : Nat) (Option.some (Jvm.ClassFile.FieldType.array Jvm.ClassFile.FieldType.byte))).before args0 about1 = true := code_word (m := ⟨15, 3⟩) (meth := k15m3) (c := k15c3) (by decide +kernel) rfl rfl rfl (by decide +kernel)
set_option maxRecDepth 65536 in
theorem w_c36 : (Jvm.Cond.code ({ cls := "java/util/Arrays", name := "checkLength", desc := "(II)V" } : Jvm.MethodName) jdk_65_method_131_code (2 : Nat) (Option.none : Option Jvm.ClassFile.FieldType)).before args0 about1 = true := code_word (m := ⟨15, 1⟩) (meth := k15m1) (c := k15c1) (by decide +kernel) rfl rfl rfl (by decide +kernel)
set_option maxRecDepth 65536 in
theorem w_c37 : (Jvm.Cond.code ({ cls := "java/lang/Math", name := "min", desc := "(II)I" } : Jvm.MethodName) jdk_29_method_69_code (2 : Nat) (Option.some Jvm.ClassFile.FieldType.int)).before args0 about1 = true := code_word (m := ⟨16, 1⟩) (meth := k16m1) (c := k16c1) (by decide +kernel) rfl rfl rfl (by decide +kernel)
set_option maxRecDepth 65536 in
theorem w_c38 : (Jvm.Cond.code ({ cls := "java/lang/StringBuilder", name := "append", desc := "(I)Ljava/lang/StringBuilder;" } : Jvm.MethodName) jdk_67_method_15_code (2 : Nat) (Option.some (Jvm.ClassFile.FieldType.object "java/lang/StringBuilder"))).before args0 about1 = true := code_word (m := ⟨12, 2⟩) (meth := k12m2) (c := k12c2) (by decide +kernel) rfl rfl rfl (by decide +kernel)
set_option maxRecDepth 65536 in
theorem w_c39 : (Jvm.Cond.code ({ cls := "java/lang/AbstractStringBuilder", name := "append", desc := "(I)Ljava/lang/AbstractStringBuilder;" } : Jvm.MethodName) jdk_68_method_32_code (4 : Nat) (Option.some (Jvm.ClassFile.FieldType.object "java/lang/AbstractStringBuilder"))).before args0 about1 = true := code_word (m := ⟨11, 5⟩) (meth := k11m5) (c := k11c5) (by decide +kernel) rfl rfl rfl (by decide +kernel)
set_option maxRecDepth 65536 in
theorem w_c40 : (Jvm.Cond.code ({ cls := "java/lang/Integer", name := "stringSize", desc := "(I)I" } : Jvm.MethodName) jdk_33_method_13_code (4 : Nat) (Option.some Jvm.ClassFile.FieldType.int)).before args0 about1 = true := code_word (m := ⟨18, 1⟩) (meth := k18m1) (c := k18c1) (by decide +kernel) rfl rfl rfl (by decide +kernel)
set_option maxRecDepth 65536 in
theorem w_c41 : (Jvm.Cond.code ({ cls := "java/lang/Integer", name := "getChars", desc := "(II[B)I" } : Jvm.MethodName) jdk_33_method_12_code (7 : Nat) (Option.some Jvm.ClassFile.FieldType.int)).before args0 about1 = true := code_word (m := ⟨18, 0⟩) (meth := k18m0) (c := k18c0) (by decide +kernel) rfl rfl rfl (by decide +kernel)
set_option maxRecDepth 65536 in
theorem w_c42 : (Jvm.Cond.code ({ cls := "com/example/entries_to_nodes/entriestonodes/component/ServerAddressToStringPinLaw", name := "at", desc := "(Ljava/lang/String;[CII)Z" } : Jvm.MethodName) method_3_code (4 : Nat) (Option.some Jvm.ClassFile.FieldType.boolean)).before args0 about1 = true := code_word (m := ⟨1, 2⟩) (meth := k1m2) (c := k1c2) (by decide +kernel) rfl rfl rfl (by decide +kernel)
set_option maxRecDepth 65536 in
theorem w_c43 : (Jvm.Cond.code ({ cls := "java/lang/String", name := "charAt", desc := "(I)C" } : Jvm.MethodName) jdk_42_method_56_code (2 : Nat) (Option.some Jvm.ClassFile.FieldType.char)).before args0 about1 = true := code_word (m := ⟨7, 5⟩) (meth := k7m5) (c := k7c5) (by decide +kernel) rfl rfl rfl (by decide +kernel)
set_option maxRecDepth 65536 in
theorem w_c44 : (Jvm.Cond.code ({ cls := "java/lang/StringLatin1", name := "charAt", desc := "([BI)C" } : Jvm.MethodName) jdk_43_method_2_code (2 : Nat) (Option.some Jvm.ClassFile.FieldType.char)).before args0 about1 = true := code_word (m := ⟨13, 1⟩) (meth := k13m1) (c := k13c1) (by decide +kernel) rfl rfl rfl (by decide +kernel)
set_option maxRecDepth 65536 in
theorem w_c45 : (Jvm.Cond.code ({ cls := "java/lang/String", name := "checkIndex", desc := "(II)V" } : Jvm.MethodName) jdk_42_method_155_code (2 : Nat) (Option.none : Option Jvm.ClassFile.FieldType)).before args0 about1 = true := code_word (m := ⟨7, 14⟩) (meth := k7m14) (c := k7c14) (by decide +kernel) rfl rfl rfl (by decide +kernel)
set_option maxRecDepth 65536 in
theorem w_c46 : (Jvm.Cond.code ({ cls := "jdk/internal/util/Preconditions", name := "checkIndex", desc := "(IILjava/util/function/BiFunction;)I" } : Jvm.MethodName) jdk_41_method_11_code (3 : Nat) (Option.some Jvm.ClassFile.FieldType.int)).before args0 about1 = true := code_word (m := ⟨19, 1⟩) (meth := k19m1) (c := k19c1) (by decide +kernel) rfl rfl rfl (by decide +kernel)
def codes1 : List Jvm.Cond := [Jvm.Cond.code x code maxLocals ret, Jvm.Cond.code ({ cls := "com/example/entries_to_nodes/entriestonodes/component/ServerAddressToStringPinLaw", name := "draw", desc := "(I)C" } : Jvm.MethodName) method_2_code (1 : Nat) (Option.some Jvm.ClassFile.FieldType.char), Jvm.Cond.code ({ cls := "java/lang/String", name := "<init>", desc := "([C)V" } : Jvm.MethodName) jdk_42_method_3_code (2 : Nat) (Option.none : Option Jvm.ClassFile.FieldType), Jvm.Cond.code ({ cls := "java/lang/String", name := "<init>", desc := "([CIILjava/lang/Void;)V" } : Jvm.MethodName) jdk_42_method_149_code (6 : Nat) (Option.none : Option Jvm.ClassFile.FieldType), Jvm.Cond.code ({ cls := "java/lang/Object", name := "<init>", desc := "()V" } : Jvm.MethodName) object_method_1_code (1 : Nat) (Option.none : Option Jvm.ClassFile.FieldType), Jvm.Cond.code ({ cls := "java/lang/StringUTF16", name := "compress", desc := "([CII)[B" } : Jvm.MethodName) jdk_52_method_16_code (6 : Nat) (Option.some (Jvm.ClassFile.FieldType.array Jvm.ClassFile.FieldType.byte)), Jvm.Cond.code ({ cls := "java/lang/StringUTF16", name := "compress", desc := "([CI[BII)I" } : Jvm.MethodName) jdk_52_method_21_code (7 : Nat) (Option.some Jvm.ClassFile.FieldType.int), Jvm.Cond.code ({ cls := "java/lang/StringUTF16", name := "coderFromArrayLen", desc := "([BI)B" } : Jvm.MethodName) jdk_52_method_15_code (2 : Nat) (Option.some Jvm.ClassFile.FieldType.byte), Jvm.Cond.code ({ cls := "com/example/entries_to_nodes/entriestonodes/component/ServerAddress", name := "<init>", desc := "(Ljava/lang/String;I)V" } : Jvm.MethodName) prog_6_method_1_code (3 : Nat) (Option.none : Option Jvm.ClassFile.FieldType), Jvm.Cond.code ({ cls := "java/lang/String", name := "isEmpty", desc := "()Z" } : Jvm.MethodName) jdk_42_method_55_code (1 : Nat) (Option.some Jvm.ClassFile.FieldType.boolean), Jvm.Cond.code ({ cls := "com/example/entries_to_nodes/entriestonodes/component/ServerAddress", name := "toString", desc := "()Ljava/lang/String;" } : Jvm.MethodName) prog_6_method_5_code (1 : Nat) (Option.some (Jvm.ClassFile.FieldType.object "java/lang/String")), Jvm.Cond.code ({ cls := "java/lang/StringBuilder", name := "<init>", desc := "()V" } : Jvm.MethodName) jdk_67_method_1_code (1 : Nat) (Option.none : Option Jvm.ClassFile.FieldType), Jvm.Cond.code ({ cls := "java/lang/AbstractStringBuilder", name := "<init>", desc := "(I)V" } : Jvm.MethodName) jdk_68_method_2_code (2 : Nat) (Option.none : Option Jvm.ClassFile.FieldType), Jvm.Cond.code ({ cls := "java/lang/String", name := "contains", desc := "(Ljava/lang/CharSequence;)Z" } : Jvm.MethodName) jdk_42_method_97_code (2 : Nat) (Option.some Jvm.ClassFile.FieldType.boolean), Jvm.Cond.code ({ cls := "java/lang/String", name := "toString", desc := "()Ljava/lang/String;" } : Jvm.MethodName) jdk_42_method_126_code (1 : Nat) (Option.some (Jvm.ClassFile.FieldType.object "java/lang/String")), Jvm.Cond.code ({ cls := "java/lang/String", name := "indexOf", desc := "(Ljava/lang/String;)I" } : Jvm.MethodName) jdk_42_method_84_code (3 : Nat) (Option.some Jvm.ClassFile.FieldType.int), Jvm.Cond.code ({ cls := "java/lang/String", name := "coder", desc := "()B" } : Jvm.MethodName) jdk_42_method_152_code (1 : Nat) (Option.some Jvm.ClassFile.FieldType.byte), Jvm.Cond.code ({ cls := "java/lang/String", name := "isLatin1", desc := "()Z" } : Jvm.MethodName) jdk_42_method_154_code (1 : Nat) (Option.some Jvm.ClassFile.FieldType.boolean), Jvm.Cond.code ({ cls := "java/lang/StringLatin1", name := "indexOf", desc := "([B[B)I" } : Jvm.MethodName) jdk_43_method_24_code (2 : Nat) (Option.some Jvm.ClassFile.FieldType.int), Jvm.Cond.code ({ cls := "java/lang/StringLatin1", name := "indexOf", desc := "([BI[BII)I" } : Jvm.MethodName) jdk_43_method_25_code (11 : Nat) (Option.some Jvm.ClassFile.FieldType.int), Jvm.Cond.code ({ cls := "java/lang/StringBuilder", name := "append", desc := "(Ljava/lang/String;)Ljava/lang/StringBuilder;" } : Jvm.MethodName) jdk_67_method_7_code (2 : Nat) (Option.some (Jvm.ClassFile.FieldType.object "java/lang/StringBuilder")), Jvm.Cond.code ({ cls := "java/lang/AbstractStringBuilder", name := "append", desc := "(Ljava/lang/String;)Ljava/lang/AbstractStringBuilder;" } : Jvm.MethodName) jdk_68_method_22_code (3 : Nat) (Option.some (Jvm.ClassFile.FieldType.object "java/lang/AbstractStringBuilder")), Jvm.Cond.code ({ cls := "java/lang/String", name := "length", desc := "()I" } : Jvm.MethodName) jdk_42_method_54_code (1 : Nat) (Option.some Jvm.ClassFile.FieldType.int), Jvm.Cond.code ({ cls := "java/lang/AbstractStringBuilder", name := "ensureCapacityInternal", desc := "(I)V" } : Jvm.MethodName) jdk_68_method_9_code (3 : Nat) (Option.none : Option Jvm.ClassFile.FieldType), Jvm.Cond.code ({ cls := "java/lang/AbstractStringBuilder", name := "putStringAt", desc := "(ILjava/lang/String;)V" } : Jvm.MethodName) jdk_68_method_73_code (3 : Nat) (Option.none : Option Jvm.ClassFile.FieldType), Jvm.Cond.code ({ cls := "java/lang/AbstractStringBuilder", name := "inflateIfNeededFor", desc := "(Ljava/lang/String;)V" } : Jvm.MethodName) jdk_68_method_71_code (2 : Nat) (Option.none : Option Jvm.ClassFile.FieldType), Jvm.Cond.code ({ cls := "java/lang/String", name := "getBytes", desc := "([BIB)V" } : Jvm.MethodName) jdk_42_method_147_code (4 : Nat) (Option.none : Option Jvm.ClassFile.FieldType), Jvm.Cond.code ({ cls := "java/lang/StringBuilder", name := "toString", desc := "()Ljava/lang/String;" } : Jvm.MethodName) jdk_67_method_42_code (1 : Nat) (Option.some (Jvm.ClassFile.FieldType.object "java/lang/String")), Jvm.Cond.code ({ cls := "java/lang/String", name := "<init>", desc := "(Ljava/lang/StringBuilder;)V" } : Jvm.MethodName) jdk_42_method_53_code (2 : Nat) (Option.none : Option Jvm.ClassFile.FieldType), Jvm.Cond.code ({ cls := "java/lang/String", name := "<init>", desc := "(Ljava/lang/AbstractStringBuilder;Ljava/lang/Void;)V" } : Jvm.MethodName) jdk_42_method_150_code (5 : Nat) (Option.none : Option Jvm.ClassFile.FieldType), Jvm.Cond.code ({ cls := "java/lang/AbstractStringBuilder", name := "getValue", desc := "()[B" } : Jvm.MethodName) jdk_68_method_64_code (1 : Nat) (Option.some (Jvm.ClassFile.FieldType.array Jvm.ClassFile.FieldType.byte)), Jvm.Cond.code ({ cls := "java/lang/StringBuilder", name := "length", desc := "()I" } : Jvm.MethodName) jdk_67_method_93_code (1 : Nat) (Option.some Jvm.ClassFile.FieldType.int), Jvm.Cond.code ({ cls := "java/lang/AbstractStringBuilder", name := "length", desc := "()I" } : Jvm.MethodName) jdk_68_method_6_code (1 : Nat) (Option.some Jvm.ClassFile.FieldType.int), Jvm.Cond.code ({ cls := "java/lang/AbstractStringBuilder", name := "isLatin1", desc := "()Z" } : Jvm.MethodName) jdk_68_method_68_code (1 : Nat) (Option.some Jvm.ClassFile.FieldType.boolean), Jvm.Cond.code ({ cls := "java/util/Arrays", name := "copyOfRange", desc := "([BII)[B" } : Jvm.MethodName) jdk_65_method_132_code (3 : Nat) (Option.some (Jvm.ClassFile.FieldType.array Jvm.ClassFile.FieldType.byte)), Jvm.Cond.code ({ cls := "java/util/Arrays", name := "copyOfRangeByte", desc := "([BII)[B" } : Jvm.MethodName) jdk_65_method_133_code (5 : Nat) (Option.some (Jvm.ClassFile.FieldType.array Jvm.ClassFile.FieldType.byte)), Jvm.Cond.code ({ cls := "java/util/Arrays", name := "checkLength", desc := "(II)V" } : Jvm.MethodName) jdk_65_method_131_code (2 : Nat) (Option.none : Option Jvm.ClassFile.FieldType), Jvm.Cond.code ({ cls := "java/lang/Math", name := "min", desc := "(II)I" } : Jvm.MethodName) jdk_29_method_69_code (2 : Nat) (Option.some Jvm.ClassFile.FieldType.int), Jvm.Cond.code ({ cls := "java/lang/StringBuilder", name := "append", desc := "(I)Ljava/lang/StringBuilder;" } : Jvm.MethodName) jdk_67_method_15_code (2 : Nat) (Option.some (Jvm.ClassFile.FieldType.object "java/lang/StringBuilder")), Jvm.Cond.code ({ cls := "java/lang/AbstractStringBuilder", name := "append", desc := "(I)Ljava/lang/AbstractStringBuilder;" } : Jvm.MethodName) jdk_68_method_32_code (4 : Nat) (Option.some (Jvm.ClassFile.FieldType.object "java/lang/AbstractStringBuilder")), Jvm.Cond.code ({ cls := "java/lang/Integer", name := "stringSize", desc := "(I)I" } : Jvm.MethodName) jdk_33_method_13_code (4 : Nat) (Option.some Jvm.ClassFile.FieldType.int), Jvm.Cond.code ({ cls := "java/lang/Integer", name := "getChars", desc := "(II[B)I" } : Jvm.MethodName) jdk_33_method_12_code (7 : Nat) (Option.some Jvm.ClassFile.FieldType.int), Jvm.Cond.code ({ cls := "com/example/entries_to_nodes/entriestonodes/component/ServerAddressToStringPinLaw", name := "at", desc := "(Ljava/lang/String;[CII)Z" } : Jvm.MethodName) method_3_code (4 : Nat) (Option.some Jvm.ClassFile.FieldType.boolean), Jvm.Cond.code ({ cls := "java/lang/String", name := "charAt", desc := "(I)C" } : Jvm.MethodName) jdk_42_method_56_code (2 : Nat) (Option.some Jvm.ClassFile.FieldType.char), Jvm.Cond.code ({ cls := "java/lang/StringLatin1", name := "charAt", desc := "([BI)C" } : Jvm.MethodName) jdk_43_method_2_code (2 : Nat) (Option.some Jvm.ClassFile.FieldType.char), Jvm.Cond.code ({ cls := "java/lang/String", name := "checkIndex", desc := "(II)V" } : Jvm.MethodName) jdk_42_method_155_code (2 : Nat) (Option.none : Option Jvm.ClassFile.FieldType), Jvm.Cond.code ({ cls := "jdk/internal/util/Preconditions", name := "checkIndex", desc := "(IILjava/util/function/BiFunction;)I" } : Jvm.MethodName) jdk_41_method_11_code (3 : Nat) (Option.some Jvm.ClassFile.FieldType.int)]
set_option maxRecDepth 65536 in
theorem codes_eq : words1.filter isCode = codes1 := rfl
theorem w_codes : ∀ c ∈ words1.filter isCode, c.before args0 about1 = true := by
  rw [codes_eq]
  intro c hc
  simp only [codes1, List.mem_cons, List.not_mem_nil, or_false] at hc
  rcases hc with rfl | rfl | rfl | rfl | rfl | rfl | rfl | rfl | rfl | rfl | rfl | rfl | rfl | rfl | rfl | rfl | rfl | rfl | rfl | rfl | rfl | rfl | rfl | rfl | rfl | rfl | rfl | rfl | rfl | rfl | rfl | rfl | rfl | rfl | rfl | rfl | rfl | rfl | rfl | rfl | rfl | rfl | rfl | rfl | rfl | rfl | rfl
  · exact w_c0
  · exact w_c1
  · exact w_c2
  · exact w_c3
  · exact w_c4
  · exact w_c5
  · exact w_c6
  · exact w_c7
  · exact w_c8
  · exact w_c9
  · exact w_c10
  · exact w_c11
  · exact w_c12
  · exact w_c13
  · exact w_c14
  · exact w_c15
  · exact w_c16
  · exact w_c17
  · exact w_c18
  · exact w_c19
  · exact w_c20
  · exact w_c21
  · exact w_c22
  · exact w_c23
  · exact w_c24
  · exact w_c25
  · exact w_c26
  · exact w_c27
  · exact w_c28
  · exact w_c29
  · exact w_c30
  · exact w_c31
  · exact w_c32
  · exact w_c33
  · exact w_c34
  · exact w_c35
  · exact w_c36
  · exact w_c37
  · exact w_c38
  · exact w_c39
  · exact w_c40
  · exact w_c41
  · exact w_c42
  · exact w_c43
  · exact w_c44
  · exact w_c45
  · exact w_c46
set_option maxRecDepth 65536 in
theorem w_t1 : (words1.take 24).all (fun c => isCode c || c.before args0 about1) = true := by decide +kernel
set_option maxRecDepth 65536 in
theorem w_t2 : ((words1.drop 24).take 24).all (fun c => isCode c || c.before args0 about1) = true := by decide +kernel
set_option maxRecDepth 65536 in
theorem w_t3 : (((words1.drop 24).drop 24).take 24).all (fun c => isCode c || c.before args0 about1) = true := by decide +kernel
set_option maxRecDepth 65536 in
theorem w_t4 : ((((words1.drop 24).drop 24).drop 24).take 24).all (fun c => isCode c || c.before args0 about1) = true := by decide +kernel
set_option maxRecDepth 65536 in
theorem w_t5 : (((((words1.drop 24).drop 24).drop 24).drop 24).take 24).all (fun c => isCode c || c.before args0 about1) = true := by decide +kernel
set_option maxRecDepth 65536 in
theorem w_t6 : ((((((words1.drop 24).drop 24).drop 24).drop 24).drop 24).take 24).all (fun c => isCode c || c.before args0 about1) = true := by decide +kernel
set_option maxRecDepth 65536 in
theorem w_t7 : (((((((words1.drop 24).drop 24).drop 24).drop 24).drop 24).drop 24).take 24).all (fun c => isCode c || c.before args0 about1) = true := by decide +kernel
set_option maxRecDepth 65536 in
theorem w_t8 : ((((((((words1.drop 24).drop 24).drop 24).drop 24).drop 24).drop 24).drop 24).take 24).all (fun c => isCode c || c.before args0 about1) = true := by decide +kernel
set_option maxRecDepth 65536 in
theorem w_t9 : (((((((((words1.drop 24).drop 24).drop 24).drop 24).drop 24).drop 24).drop 24).drop 24).take 24).all (fun c => isCode c || c.before args0 about1) = true := by decide +kernel
set_option maxRecDepth 65536 in
theorem w_t10 : ((((((((((words1.drop 24).drop 24).drop 24).drop 24).drop 24).drop 24).drop 24).drop 24).drop 24).take 24).all (fun c => isCode c || c.before args0 about1) = true := by decide +kernel
set_option maxRecDepth 65536 in
theorem w_t11 : ((((((((((words1.drop 24).drop 24).drop 24).drop 24).drop 24).drop 24).drop 24).drop 24).drop 24).drop 24).all (fun c => isCode c || c.before args0 about1) = true := by decide +kernel
theorem w_tables : (allAtoms (Jvm.Cond.code x code maxLocals ret :: tables_1)).before args0 about1 = true := by
  rw [allAtoms_all]
  show words1.all (fun c => c.before args0 about1) = true
  refine all_split ?_ w_codes
  rw [← List.take_append_drop 24 words1, List.all_append, w_t1, ← List.take_append_drop 24 (words1.drop 24), List.all_append, w_t2, ← List.take_append_drop 24 ((words1.drop 24).drop 24), List.all_append, w_t3, ← List.take_append_drop 24 (((words1.drop 24).drop 24).drop 24), List.all_append, w_t4, ← List.take_append_drop 24 ((((words1.drop 24).drop 24).drop 24).drop 24), List.all_append, w_t5, ← List.take_append_drop 24 (((((words1.drop 24).drop 24).drop 24).drop 24).drop 24), List.all_append, w_t6, ← List.take_append_drop 24 ((((((words1.drop 24).drop 24).drop 24).drop 24).drop 24).drop 24), List.all_append, w_t7, ← List.take_append_drop 24 (((((((words1.drop 24).drop 24).drop 24).drop 24).drop 24).drop 24).drop 24), List.all_append, w_t8, ← List.take_append_drop 24 ((((((((words1.drop 24).drop 24).drop 24).drop 24).drop 24).drop 24).drop 24).drop 24), List.all_append, w_t9, ← List.take_append_drop 24 (((((((((words1.drop 24).drop 24).drop 24).drop 24).drop 24).drop 24).drop 24).drop 24).drop 24), List.all_append, w_t10, w_t11]
  rfl
set_option maxRecDepth 65536 in
theorem w_rest : rest_1_c.before args0 about1 = true := by decide +kernel
set_option maxRecDepth 65536 in
theorem w_case : (Jvm.Cond.and given_1 narrow_1).before args0 about1 = true := by decide +kernel
set_option maxRecDepth 65536 in
theorem w_consts : constsHeld consts_1 about1 := Jvm.Lit.constsHeldB_iff.mp (by decide +kernel)
theorem w_applies : (headSpec (Jvm.Cond.code x code maxLocals ret :: tables_1) room_1).applies x e0.platform about1 = true :=
  (Spec.applies_iff w_frames).mpr ⟨w_running, w_runnable, w_alone, w_named, w_hears, w_ripe, w_room, w_tables⟩
theorem atStart : AtStart classFile x code maxLocals ret World_1 tables_1 room_1 Calls_1 rest_1 Pre_1 launch0 p0 e0 about1 theMethod args0 below0 :=
  ⟨lists_1, trivial, launch0.admits_env _ _ _, launch0.least_env, fairChoices_fair.cas, fairChoices_fair.clock, w_frames, w_args, w_heap, w_applies, ⟨w_consts, trivial⟩, w_rest, w_case⟩
end start1
theorem witness_1 : WitnessClaimed_1 := ⟨start1.p0, start1.e0, start1.about1, start1.theMethod, start1.args0, start1.below0, start1.atStart⟩
end Jvm.Pilot.@@N@@
