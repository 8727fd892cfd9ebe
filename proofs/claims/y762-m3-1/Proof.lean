import JvmDerived
import JvmDerived.Pilot.@@N@@Statement
import JvmDerived.Pilot.@@N@@Code
set_option linter.unusedVariables false
set_option linter.unusedSimpArgs false
namespace Jvm.Pilot.@@N@@
open Jvm Jvm.ClassFile Sem Op Lib Jvm.Free Jvm.Stand Jvm.LawKit Jvm.RoadKit Bundle Jvm.Pilot.@@N@@.Jvm.D
abbrev un : Slot := .unset
theorem ow {Z : State} {a0 : Array Value} {d : Jvm.Cond} (hw : ∀ d ∈ tables_1, d.before a0 Z = true) (i : Nat) (h : tables_1[i]? = some d) : d.before a0 Z = true := hw d (List.mem_of_getElem? h)
section OwnGo
variable {p : Program} {l : Launch} {e : Env} {R : Room} {s : State} {m : MethodId} {args : Array Value} {below : List Frame} {meth : Method} {c : Code} {T T' : State} {locs : List Loc} {cells slots : Nat} {Q : Option Value → Heap → List Loc → Prop} {C S : Nat} {g g' : JFrame} {F : Outcome → State → Prop}
/-- from this state and frame the body comes to an end of which F holds -/
def Go (p : Program) (e : Env) (below : List Frame) (F : Outcome → State → Prop) (T : State) (g : JFrame) : Prop :=
  ∃ s₂ o, Steps p.tables e below (T.setTop g) s₂ ∧ s₂.status = .running ∧ Ended s₂ below o ∧ F o s₂
/-- it returned, Q holds, and nothing else has moved than L and so many new cells and slots -/
abbrev EndN (s : State) (Q : Option Value → Heap → List Loc → Prop) (C S : Nat) (o : Outcome) (t : State) : Prop := ∃ v L, o = .returned v ∧ Q v t.heap L ∧ FrameEnd s o t L C S
theorem Go.enter (q : g = g') (k : Go p e below F T g') : ∃ s₂ o, Steps p.tables e below (T.setTop g) s₂ ∧ s₂.status = .running ∧ Ended s₂ below o ∧ F o s₂ := by
  subst q
  exact k
theorem Go.by (h : ∀ t, Steps p.tables e below (T'.setTop g') t → Steps p.tables e below (T.setTop g) t) (k : Go p e below F T' g') : Go p e below F T g := by
  obtain ⟨s₂, o, h1, h2⟩ := k
  exact ⟨s₂, o, h _ h1, h2⟩
theorem Go.to (h : Steps p.tables e below (T.setTop g) (T'.setTop g')) (k : Go p e below F T' g') : Go p e below F T g := by
  obtain ⟨s₂, o, h1, h2⟩ := k
  exact ⟨s₂, o, h.trans h1, h2⟩
abbrev own_retKind (i : Instr) (t : FieldType) (w : Value) : Prop := (i = .ireturn ∧ (t = .int ∨ t = .boolean ∨ t = .byte ∨ t = .char ∨ t = .short) ∧ ∃ z, w = .int z) ∨ (i = .lreturn ∧ t = .long ∧ ∃ z, w = .long z) ∨ (i = .dreturn ∧ t = .double ∧ ∃ z, w = .double z) ∨ (i = .freturn ∧ t = .float ∧ ∃ z, w = .float z) ∨ (i = .areturn ∧ t.isReference = true ∧ w.isRef = true)
theorem Go.ret (X : Stand p l e R s m args below meth c T locs cells slots) (hx : p.tables.exec = Jvm.exec) (hlocks : meth.locks = false) {pc : Nat} {Ls : Array Slot} {w : Value} {t : FieldType} {i : Instr} {rest : List Value} (hret : meth.sig.returnType = some t) (hn : narrow t w = w)
    (hi : own_retKind i t w) (hd : decode c.code pc = .ok (i, 1)) (hq : Q (some w) T.heap locs) (hc : cells ≤ C) (hs : slots ≤ S) : Go p e below (EndN s Q C S) T (mkF m pc Ls (w :: rest)) := by
  obtain ⟨fs, hr, hrun, hended, hW, hsame⟩ := X.leave (v := some w) (fun h => by rw [hret] at h; cases h) hlocks
  exact ⟨_, _, retOut X hx hret hn hi hd hr, hrun, hended, _, _, rfl, hq, ⟨_, rfl⟩, hW, hsame.mono hc hs⟩
theorem Go.retI (X : Stand p l e R s m args below meth c T locs cells slots) (hx : p.tables.exec = Jvm.exec) (hlocks : meth.locks = false) {pc : Nat} {Ls : Array Slot} {w : Int32} {t : FieldType} {rest : List Value} (hret : meth.sig.returnType = some t) (hn : narrow t (.int w) = .int w)
    (ht : t = .int ∨ t = .boolean ∨ t = .byte ∨ t = .char ∨ t = .short) (hd : decode c.code pc = .ok (.ireturn, 1)) (hq : Q (some (.int w)) T.heap locs) (hc : cells ≤ C) (hs : slots ≤ S) : Go p e below (EndN s Q C S) T (mkF m pc Ls (.int w :: rest)) :=
  Go.ret X hx hlocks hret hn (Or.inl ⟨rfl, ht, _, rfl⟩) hd hq hc hs
theorem Go.retJ (X : Stand p l e R s m args below meth c T locs cells slots) (hx : p.tables.exec = Jvm.exec) (hlocks : meth.locks = false) {pc : Nat} {Ls : Array Slot} {w : Int64} {rest : List Value} (hret : meth.sig.returnType = some .long)
    (hd : decode c.code pc = .ok (.lreturn, 1)) (hq : Q (some (.long w)) T.heap locs) (hc : cells ≤ C) (hs : slots ≤ S) : Go p e below (EndN s Q C S) T (mkF m pc Ls (.long w :: rest)) :=
  Go.ret X hx hlocks hret rfl (Or.inr (Or.inl ⟨rfl, rfl, _, rfl⟩)) hd hq hc hs
theorem own_narR (t : FieldType) {w : Value} (ht : t.isReference = true) (hw : w.isRef = true) : narrow t w = w := by
  cases t <;> first | (simp [FieldType.isReference] at ht; done) | (rcases ref_cases hw with rfl | ⟨_, rfl⟩ <;> rfl)
theorem own_fitR (t : FieldType) {w : Value} (ht : t.isReference = true) (hw : w.isRef = true) : fits t w = true := by
  cases t <;> first | (simp [FieldType.isReference] at ht; done) | (rcases ref_cases hw with rfl | ⟨_, rfl⟩ <;> rfl)
theorem Go.retA (X : Stand p l e R s m args below meth c T locs cells slots) (hx : p.tables.exec = Jvm.exec) (hlocks : meth.locks = false) {pc : Nat} {Ls : Array Slot} {w : Value} {t : FieldType} {rest : List Value} (hret : meth.sig.returnType = some t) (ht : t.isReference = true) (hw : w.isRef = true)
    (hd : decode c.code pc = .ok (.areturn, 1)) (hq : Q (some w) T.heap locs) (hc : cells ≤ C) (hs : slots ≤ S) : Go p e below (EndN s Q C S) T (mkF m pc Ls (w :: rest)) :=
  Go.ret X hx hlocks hret (own_narR t ht hw) (Or.inr (Or.inr (Or.inr (Or.inr ⟨rfl, ht, hw⟩)))) hd hq hc hs
theorem Go.retV (X : Stand p l e R s m args below meth c T locs cells slots) (hx : p.tables.exec = Jvm.exec) (hlocks : meth.locks = false) {pc : Nat} {Ls : Array Slot} (hret : meth.sig.returnType = none)
    (hd : decode c.code pc = .ok (.return_, 1)) (hq : Q none T.heap locs) (hc : cells ≤ C) (hs : slots ≤ S) : Go p e below (EndN s Q C S) T (mkF m pc Ls []) := by
  obtain ⟨fs, hr, hrun, hended, hW, hsame⟩ := X.leave (v := none) (fun _ => rfl) hlocks
  exact ⟨_, _, X.returnOut hx hret hd hr, hrun, hended, _, _, rfl, hq, ⟨_, rfl⟩, hW, hsame.mono hc hs⟩
/-- two or more roads that meet: what comes behind is shown once, for every x that P allows -/
theorem Go.join {α : Type} {P : α → Prop} {fr : α → JFrame} (h : ∀ x, P x → Go p e below F T (fr x)) (k : (∀ x, P x → Go p e below F T (fr x)) → Go p e below F T g) : Go p e below F T g := k h
def own_at (X : Stand p l e R s m args below meth c T locs cells slots) (h : Heap) (T' : State) : Prop := Stand p l e R s m args below meth c T' locs cells slots ∧ T'.heap = h
theorem Go.joinT {α : Type} {St : State → Prop} {P : α → Prop} {fr : α → JFrame} (h : ∀ T', St T' → ∀ x, P x → Go p e below F T' (fr x)) (k : (∀ T', St T' → ∀ x, P x → Go p e below F T' (fr x)) → Go p e below F T g) : Go p e below F T g := k h
end OwnGo
section OwnSteps
variable {p : Program} {l : Launch} {e : Env} {R : Room} {s : State} {m : MethodId} {args : Array Value} {below : List Frame} {meth : Method} {c : Code} {T : State} {locs : List Loc} {cells slots : Nat} {F : Outcome → State → Prop}
theorem Go.iload1 (q : Nat) (X : Stand p l e R s m args below meth c T locs cells slots) (hx : p.tables.exec = Jvm.exec) {pc : Nat} {Ls : Array Slot} {k : Fin 4} {v : Int32} {St : List Value} (hd : decode c.code pc = .ok (.iload_n k, 1)) (hl : Ls[k.val]? = some (.val (.int v))) (hq : pc + 1 = q) (K : Go p e below F T (mkF m q Ls (.int v :: St))) : Go p e below F T (mkF m pc Ls St) := by
  subst hq
  exact Go.by (fun _ gk => XS.iloadN X.here hx rfl hd hl gk) K
theorem Go.iload2 (q : Nat) (X : Stand p l e R s m args below meth c T locs cells slots) (hx : p.tables.exec = Jvm.exec) {pc : Nat} {Ls : Array Slot} {k : Nat} {v : Int32} {St : List Value} (hd : decode c.code pc = .ok (.iload k, 2)) (hl : Ls[k]? = some (.val (.int v))) (hq : pc + 2 = q) (K : Go p e below F T (mkF m q Ls (.int v :: St))) : Go p e below F T (mkF m pc Ls St) := by
  subst hq
  exact Go.by (fun _ gk => XS.iload X.here hx rfl hd hl gk) K
theorem Go.istore1 (q : Nat) (X : Stand p l e R s m args below meth c T locs cells slots) (hx : p.tables.exec = Jvm.exec) {pc : Nat} {Ls : Array Slot} {k : Fin 4} {x : Int32} {St : List Value} {L' : Array Slot} (hd : decode c.code pc = .ok (.istore_n k, 1)) (hl : storeLocals Ls k.val (.int x) = some L') (hq : pc + 1 = q) (K : Go p e below F T (mkF m q L' St)) : Go p e below F T (mkF m pc Ls (.int x :: St)) := by
  subst hq
  exact Go.by (fun _ gk => XS.istoreN X.here hx rfl hd rfl hl gk) K
theorem Go.istore2 (q : Nat) (X : Stand p l e R s m args below meth c T locs cells slots) (hx : p.tables.exec = Jvm.exec) {pc : Nat} {Ls : Array Slot} {k : Nat} {x : Int32} {St : List Value} {L' : Array Slot} (hd : decode c.code pc = .ok (.istore k, 2)) (hl : storeLocals Ls k (.int x) = some L') (hq : pc + 2 = q) (K : Go p e below F T (mkF m q L' St)) : Go p e below F T (mkF m pc Ls (.int x :: St)) := by
  subst hq
  exact Go.by (fun _ gk => XS.istore X.here hx rfl hd rfl hl gk) K
theorem Go.lload1 (q : Nat) (X : Stand p l e R s m args below meth c T locs cells slots) (hx : p.tables.exec = Jvm.exec) {pc : Nat} {Ls : Array Slot} {k : Fin 4} {v : Int64} {St : List Value} (hd : decode c.code pc = .ok (.lload_n k, 1)) (hl : Ls[k.val]? = some (.val (.long v))) (hq : pc + 1 = q) (K : Go p e below F T (mkF m q Ls (.long v :: St))) : Go p e below F T (mkF m pc Ls St) := by
  subst hq
  exact Go.by (fun _ gk => XT.lloadN X.here hx rfl hd hl gk) K
theorem Go.lload2 (q : Nat) (X : Stand p l e R s m args below meth c T locs cells slots) (hx : p.tables.exec = Jvm.exec) {pc : Nat} {Ls : Array Slot} {k : Nat} {v : Int64} {St : List Value} (hd : decode c.code pc = .ok (.lload k, 2)) (hl : Ls[k]? = some (.val (.long v))) (hq : pc + 2 = q) (K : Go p e below F T (mkF m q Ls (.long v :: St))) : Go p e below F T (mkF m pc Ls St) := by
  subst hq
  exact Go.by (fun _ gk => XT.lload X.here hx rfl hd hl gk) K
theorem Go.lstore1 (q : Nat) (X : Stand p l e R s m args below meth c T locs cells slots) (hx : p.tables.exec = Jvm.exec) {pc : Nat} {Ls : Array Slot} {k : Fin 4} {x : Int64} {St : List Value} {L' : Array Slot} (hd : decode c.code pc = .ok (.lstore_n k, 1)) (hl : storeLocals Ls k.val (.long x) = some L') (hq : pc + 1 = q) (K : Go p e below F T (mkF m q L' St)) : Go p e below F T (mkF m pc Ls (.long x :: St)) := by
  subst hq
  exact Go.by (fun _ gk => XT.lstoreN X.here hx rfl hd rfl hl gk) K
theorem Go.lstore2 (q : Nat) (X : Stand p l e R s m args below meth c T locs cells slots) (hx : p.tables.exec = Jvm.exec) {pc : Nat} {Ls : Array Slot} {k : Nat} {x : Int64} {St : List Value} {L' : Array Slot} (hd : decode c.code pc = .ok (.lstore k, 2)) (hl : storeLocals Ls k (.long x) = some L') (hq : pc + 2 = q) (K : Go p e below F T (mkF m q L' St)) : Go p e below F T (mkF m pc Ls (.long x :: St)) := by
  subst hq
  exact Go.by (fun _ gk => XT.lstore X.here hx rfl hd rfl hl gk) K
theorem Go.aload1 (q : Nat) (X : Stand p l e R s m args below meth c T locs cells slots) (hx : p.tables.exec = Jvm.exec) {pc : Nat} {Ls : Array Slot} {k : Fin 4} {v : Value} {St : List Value} (hd : decode c.code pc = .ok (.aload_n k, 1)) (hl : Ls[k.val]? = some (.val v)) (hv : v.isRef = true) (hq : pc + 1 = q) (K : Go p e below F T (mkF m q Ls (v :: St))) : Go p e below F T (mkF m pc Ls St) := by
  subst hq
  exact Go.by (fun _ gk => XS.aloadN X.here hx rfl hd hl hv gk) K
theorem Go.aload2 (q : Nat) (X : Stand p l e R s m args below meth c T locs cells slots) (hx : p.tables.exec = Jvm.exec) {pc : Nat} {Ls : Array Slot} {k : Nat} {v : Value} {St : List Value} (hd : decode c.code pc = .ok (.aload k, 2)) (hl : Ls[k]? = some (.val v)) (hv : v.isRef = true) (hq : pc + 2 = q) (K : Go p e below F T (mkF m q Ls (v :: St))) : Go p e below F T (mkF m pc Ls St) := by
  subst hq
  exact Go.by (fun _ gk => XS.aload X.here hx rfl hd hl hv gk) K
theorem Go.astore1 (q : Nat) (X : Stand p l e R s m args below meth c T locs cells slots) (hx : p.tables.exec = Jvm.exec) {pc : Nat} {Ls : Array Slot} {k : Fin 4} {x : Value} {St : List Value} {L' : Array Slot} (hd : decode c.code pc = .ok (.astore_n k, 1)) (hv : x.isRef = true) (hl : storeLocals Ls k.val x = some L') (hq : pc + 1 = q) (K : Go p e below F T (mkF m q L' St)) : Go p e below F T (mkF m pc Ls (x :: St)) := by
  subst hq
  exact Go.by (fun _ gk => XS.astoreN X.here hx rfl hd rfl hv hl gk) K
theorem Go.astore2 (q : Nat) (X : Stand p l e R s m args below meth c T locs cells slots) (hx : p.tables.exec = Jvm.exec) {pc : Nat} {Ls : Array Slot} {k : Nat} {x : Value} {St : List Value} {L' : Array Slot} (hd : decode c.code pc = .ok (.astore k, 2)) (hv : x.isRef = true) (hl : storeLocals Ls k x = some L') (hq : pc + 2 = q) (K : Go p e below F T (mkF m q L' St)) : Go p e below F T (mkF m pc Ls (x :: St)) := by
  subst hq
  exact Go.by (fun _ gk => XS.astore X.here hx rfl hd rfl hv hl gk) K
theorem Go.iconst (q : Nat) (X : Stand p l e R s m args below meth c T locs cells slots) (hx : p.tables.exec = Jvm.exec) {pc : Nat} {Ls : Array Slot} {i : Int} (v : Int32) {St : List Value} (hd : decode c.code pc = .ok (.iconst i, 1)) (hv : Int32.ofInt i = v) (hq : pc + 1 = q) (K : Go p e below F T (mkF m q Ls (.int v :: St))) : Go p e below F T (mkF m pc Ls St) := by
  subst hq
  exact Go.by (fun _ gk => XT.iconstV X.here hx rfl v hd hv gk) K
theorem Go.bipush (q : Nat) (X : Stand p l e R s m args below meth c T locs cells slots) (hx : p.tables.exec = Jvm.exec) {pc : Nat} {Ls : Array Slot} {i : Int} (v : Int32) {St : List Value} (hd : decode c.code pc = .ok (.bipush i, 2)) (hv : (Int8.ofInt i).toInt32 = v) (hq : pc + 2 = q) (K : Go p e below F T (mkF m q Ls (.int v :: St))) : Go p e below F T (mkF m pc Ls St) := by
  subst hq
  exact Go.by (fun _ gk => XT.bipushV X.here hx rfl v hd hv gk) K
theorem Go.sipush (q : Nat) (X : Stand p l e R s m args below meth c T locs cells slots) (hx : p.tables.exec = Jvm.exec) {pc : Nat} {Ls : Array Slot} {i : Int} (v : Int32) {St : List Value} (hd : decode c.code pc = .ok (.sipush i, 3)) (hv : (Int16.ofInt i).toInt32 = v) (hq : pc + 3 = q) (K : Go p e below F T (mkF m q Ls (.int v :: St))) : Go p e below F T (mkF m pc Ls St) := by
  subst hq
  exact Go.by (fun _ gk => XT.sipushV X.here hx rfl v hd hv gk) K
theorem Go.lconst (q : Nat) (X : Stand p l e R s m args below meth c T locs cells slots) (hx : p.tables.exec = Jvm.exec) {pc : Nat} {Ls : Array Slot} {k : Fin 2} (v : Int64) {St : List Value} (hd : decode c.code pc = .ok (.lconst k, 1)) (hv : Int64.ofNat k = v) (hq : pc + 1 = q) (K : Go p e below F T (mkF m q Ls (.long v :: St))) : Go p e below F T (mkF m pc Ls St) := by
  subst hq
  exact Go.by (fun _ gk => XT.lconstV X.here hx rfl v hd hv gk) K
theorem Go.aconst_null (q : Nat) (X : Stand p l e R s m args below meth c T locs cells slots) (hx : p.tables.exec = Jvm.exec) {pc : Nat} {Ls : Array Slot} {St : List Value} (hd : decode c.code pc = .ok (.aconst_null, 1)) (hq : pc + 1 = q) (K : Go p e below F T (mkF m q Ls (.null :: St))) : Go p e below F T (mkF m pc Ls St) := by
  subst hq
  exact Go.by (fun _ gk => XS.aconstNull X.here hx rfl hd gk) K
theorem Go.iadd (q : Nat) (X : Stand p l e R s m args below meth c T locs cells slots) (hx : p.tables.exec = Jvm.exec) {pc : Nat} {Ls : Array Slot} {x y : Int32} {St : List Value} (hd : decode c.code pc = .ok (.iadd, 1)) (hq : pc + 1 = q) (K : Go p e below F T (mkF m q Ls (.int (x + y) :: St))) : Go p e below F T (mkF m pc Ls (.int y :: .int x :: St)) := by
  subst hq
  exact Go.by (fun _ gk => XS.iadd X.here hx rfl hd rfl gk) K
theorem Go.isub (q : Nat) (X : Stand p l e R s m args below meth c T locs cells slots) (hx : p.tables.exec = Jvm.exec) {pc : Nat} {Ls : Array Slot} {x y : Int32} {St : List Value} (hd : decode c.code pc = .ok (.isub, 1)) (hq : pc + 1 = q) (K : Go p e below F T (mkF m q Ls (.int (x - y) :: St))) : Go p e below F T (mkF m pc Ls (.int y :: .int x :: St)) := by
  subst hq
  exact Go.by (fun _ gk => XS.isub X.here hx rfl hd rfl gk) K
theorem Go.imul (q : Nat) (X : Stand p l e R s m args below meth c T locs cells slots) (hx : p.tables.exec = Jvm.exec) {pc : Nat} {Ls : Array Slot} {x y : Int32} {St : List Value} (hd : decode c.code pc = .ok (.imul, 1)) (hq : pc + 1 = q) (K : Go p e below F T (mkF m q Ls (.int (x * y) :: St))) : Go p e below F T (mkF m pc Ls (.int y :: .int x :: St)) := by
  subst hq
  exact Go.by (fun _ gk => XS.imul X.here hx rfl hd rfl gk) K
theorem Go.iand (q : Nat) (X : Stand p l e R s m args below meth c T locs cells slots) (hx : p.tables.exec = Jvm.exec) {pc : Nat} {Ls : Array Slot} {x y : Int32} {St : List Value} (hd : decode c.code pc = .ok (.iand, 1)) (hq : pc + 1 = q) (K : Go p e below F T (mkF m q Ls (.int (x &&& y) :: St))) : Go p e below F T (mkF m pc Ls (.int y :: .int x :: St)) := by
  subst hq
  exact Go.by (fun _ gk => XS.iand X.here hx rfl hd rfl gk) K
theorem Go.ior (q : Nat) (X : Stand p l e R s m args below meth c T locs cells slots) (hx : p.tables.exec = Jvm.exec) {pc : Nat} {Ls : Array Slot} {x y : Int32} {St : List Value} (hd : decode c.code pc = .ok (.ior, 1)) (hq : pc + 1 = q) (K : Go p e below F T (mkF m q Ls (.int (x ||| y) :: St))) : Go p e below F T (mkF m pc Ls (.int y :: .int x :: St)) := by
  subst hq
  exact Go.by (fun _ gk => XT.ior X.here hx rfl hd rfl gk) K
theorem Go.ixor (q : Nat) (X : Stand p l e R s m args below meth c T locs cells slots) (hx : p.tables.exec = Jvm.exec) {pc : Nat} {Ls : Array Slot} {x y : Int32} {St : List Value} (hd : decode c.code pc = .ok (.ixor, 1)) (hq : pc + 1 = q) (K : Go p e below F T (mkF m q Ls (.int (x ^^^ y) :: St))) : Go p e below F T (mkF m pc Ls (.int y :: .int x :: St)) := by
  subst hq
  exact Go.by (fun _ gk => XT.ixor X.here hx rfl hd rfl gk) K
theorem Go.ishl (q : Nat) (X : Stand p l e R s m args below meth c T locs cells slots) (hx : p.tables.exec = Jvm.exec) {pc : Nat} {Ls : Array Slot} {x y : Int32} {St : List Value} (hd : decode c.code pc = .ok (.ishl, 1)) (hq : pc + 1 = q) (K : Go p e below F T (mkF m q Ls (.int (x <<< (y &&& 31)) :: St))) : Go p e below F T (mkF m pc Ls (.int y :: .int x :: St)) := by
  subst hq
  exact Go.by (fun _ gk => XT.ishl X.here hx rfl hd rfl gk) K
theorem Go.ishr (q : Nat) (X : Stand p l e R s m args below meth c T locs cells slots) (hx : p.tables.exec = Jvm.exec) {pc : Nat} {Ls : Array Slot} {x y : Int32} {St : List Value} (hd : decode c.code pc = .ok (.ishr, 1)) (hq : pc + 1 = q) (K : Go p e below F T (mkF m q Ls (.int (x >>> (y &&& 31)) :: St))) : Go p e below F T (mkF m pc Ls (.int y :: .int x :: St)) := by
  subst hq
  exact Go.by (fun _ gk => XT.ishr X.here hx rfl hd rfl gk) K
theorem Go.iushr (q : Nat) (X : Stand p l e R s m args below meth c T locs cells slots) (hx : p.tables.exec = Jvm.exec) {pc : Nat} {Ls : Array Slot} {x y : Int32} {St : List Value} (hd : decode c.code pc = .ok (.iushr, 1)) (hq : pc + 1 = q) (K : Go p e below F T (mkF m q Ls (.int (XT.ushr x y) :: St))) : Go p e below F T (mkF m pc Ls (.int y :: .int x :: St)) := by
  subst hq
  exact Go.by (fun _ gk => XT.iushr X.here hx rfl hd rfl gk) K
theorem Go.ladd (q : Nat) (X : Stand p l e R s m args below meth c T locs cells slots) (hx : p.tables.exec = Jvm.exec) {pc : Nat} {Ls : Array Slot} {x y : Int64} {St : List Value} (hd : decode c.code pc = .ok (.ladd, 1)) (hq : pc + 1 = q) (K : Go p e below F T (mkF m q Ls (.long (x + y) :: St))) : Go p e below F T (mkF m pc Ls (.long y :: .long x :: St)) := by
  subst hq
  exact Go.by (fun _ gk => XT.ladd X.here hx rfl hd rfl gk) K
theorem Go.lsub (q : Nat) (X : Stand p l e R s m args below meth c T locs cells slots) (hx : p.tables.exec = Jvm.exec) {pc : Nat} {Ls : Array Slot} {x y : Int64} {St : List Value} (hd : decode c.code pc = .ok (.lsub, 1)) (hq : pc + 1 = q) (K : Go p e below F T (mkF m q Ls (.long (x - y) :: St))) : Go p e below F T (mkF m pc Ls (.long y :: .long x :: St)) := by
  subst hq
  exact Go.by (fun _ gk => XT.lsub X.here hx rfl hd rfl gk) K
theorem Go.lmul (q : Nat) (X : Stand p l e R s m args below meth c T locs cells slots) (hx : p.tables.exec = Jvm.exec) {pc : Nat} {Ls : Array Slot} {x y : Int64} {St : List Value} (hd : decode c.code pc = .ok (.lmul, 1)) (hq : pc + 1 = q) (K : Go p e below F T (mkF m q Ls (.long (x * y) :: St))) : Go p e below F T (mkF m pc Ls (.long y :: .long x :: St)) := by
  subst hq
  exact Go.by (fun _ gk => XT.lmul X.here hx rfl hd rfl gk) K
theorem Go.land (q : Nat) (X : Stand p l e R s m args below meth c T locs cells slots) (hx : p.tables.exec = Jvm.exec) {pc : Nat} {Ls : Array Slot} {x y : Int64} {St : List Value} (hd : decode c.code pc = .ok (.land, 1)) (hq : pc + 1 = q) (K : Go p e below F T (mkF m q Ls (.long (x &&& y) :: St))) : Go p e below F T (mkF m pc Ls (.long y :: .long x :: St)) := by
  subst hq
  exact Go.by (fun _ gk => XT.land X.here hx rfl hd rfl gk) K
theorem Go.lor (q : Nat) (X : Stand p l e R s m args below meth c T locs cells slots) (hx : p.tables.exec = Jvm.exec) {pc : Nat} {Ls : Array Slot} {x y : Int64} {St : List Value} (hd : decode c.code pc = .ok (.lor, 1)) (hq : pc + 1 = q) (K : Go p e below F T (mkF m q Ls (.long (x ||| y) :: St))) : Go p e below F T (mkF m pc Ls (.long y :: .long x :: St)) := by
  subst hq
  exact Go.by (fun _ gk => XT.lor X.here hx rfl hd rfl gk) K
theorem Go.lxor (q : Nat) (X : Stand p l e R s m args below meth c T locs cells slots) (hx : p.tables.exec = Jvm.exec) {pc : Nat} {Ls : Array Slot} {x y : Int64} {St : List Value} (hd : decode c.code pc = .ok (.lxor, 1)) (hq : pc + 1 = q) (K : Go p e below F T (mkF m q Ls (.long (x ^^^ y) :: St))) : Go p e below F T (mkF m pc Ls (.long y :: .long x :: St)) := by
  subst hq
  exact Go.by (fun _ gk => XT.lxor X.here hx rfl hd rfl gk) K
theorem Go.lshl (q : Nat) (X : Stand p l e R s m args below meth c T locs cells slots) (hx : p.tables.exec = Jvm.exec) {pc : Nat} {Ls : Array Slot} {x : Int64} {y : Int32} {St : List Value} (hd : decode c.code pc = .ok (.lshl, 1)) (hq : pc + 1 = q) (K : Go p e below F T (mkF m q Ls (.long (x <<< (y.toInt64 &&& 63)) :: St))) : Go p e below F T (mkF m pc Ls (.int y :: .long x :: St)) := by
  subst hq
  exact Go.by (fun _ gk => XT.lshl X.here hx rfl hd rfl gk) K
theorem Go.lshr (q : Nat) (X : Stand p l e R s m args below meth c T locs cells slots) (hx : p.tables.exec = Jvm.exec) {pc : Nat} {Ls : Array Slot} {x : Int64} {y : Int32} {St : List Value} (hd : decode c.code pc = .ok (.lshr, 1)) (hq : pc + 1 = q) (K : Go p e below F T (mkF m q Ls (.long (x >>> (y.toInt64 &&& 63)) :: St))) : Go p e below F T (mkF m pc Ls (.int y :: .long x :: St)) := by
  subst hq
  exact Go.by (fun _ gk => XT.lshr X.here hx rfl hd rfl gk) K
theorem Go.lushr (q : Nat) (X : Stand p l e R s m args below meth c T locs cells slots) (hx : p.tables.exec = Jvm.exec) {pc : Nat} {Ls : Array Slot} {x : Int64} {y : Int32} {St : List Value} (hd : decode c.code pc = .ok (.lushr, 1)) (hq : pc + 1 = q) (K : Go p e below F T (mkF m q Ls (.long (XT.ushrL x y) :: St))) : Go p e below F T (mkF m pc Ls (.int y :: .long x :: St)) := by
  subst hq
  exact Go.by (fun _ gk => XT.lushr X.here hx rfl hd rfl gk) K
theorem Go.idiv (q : Nat) (X : Stand p l e R s m args below meth c T locs cells slots) (hx : p.tables.exec = Jvm.exec) {pc : Nat} {Ls : Array Slot} {x y : Int32} {St : List Value} (hd : decode c.code pc = .ok (.idiv, 1)) (hy : y ≠ 0) (hq : pc + 1 = q) (K : Go p e below F T (mkF m q Ls (.int (x / y) :: St))) : Go p e below F T (mkF m pc Ls (.int y :: .int x :: St)) := by
  subst hq
  exact Go.by (fun _ gk => XS.idiv X.here hx rfl hd rfl hy gk) K
theorem Go.irem (q : Nat) (X : Stand p l e R s m args below meth c T locs cells slots) (hx : p.tables.exec = Jvm.exec) {pc : Nat} {Ls : Array Slot} {x y : Int32} {St : List Value} (hd : decode c.code pc = .ok (.irem, 1)) (hy : y ≠ 0) (hq : pc + 1 = q) (K : Go p e below F T (mkF m q Ls (.int (x - (x / y) * y) :: St))) : Go p e below F T (mkF m pc Ls (.int y :: .int x :: St)) := by
  subst hq
  exact Go.by (fun _ gk => XS.irem X.here hx rfl hd rfl hy gk) K
theorem Go.ldiv (q : Nat) (X : Stand p l e R s m args below meth c T locs cells slots) (hx : p.tables.exec = Jvm.exec) {pc : Nat} {Ls : Array Slot} {x y : Int64} {St : List Value} (hd : decode c.code pc = .ok (.ldiv, 1)) (hy : y ≠ 0) (hq : pc + 1 = q) (K : Go p e below F T (mkF m q Ls (.long (x / y) :: St))) : Go p e below F T (mkF m pc Ls (.long y :: .long x :: St)) := by
  subst hq
  exact Go.by (fun _ gk => XT.ldiv X.here hx rfl hd rfl hy gk) K
theorem Go.lrem (q : Nat) (X : Stand p l e R s m args below meth c T locs cells slots) (hx : p.tables.exec = Jvm.exec) {pc : Nat} {Ls : Array Slot} {x y : Int64} {St : List Value} (hd : decode c.code pc = .ok (.lrem, 1)) (hy : y ≠ 0) (hq : pc + 1 = q) (K : Go p e below F T (mkF m q Ls (.long (x - (x / y) * y) :: St))) : Go p e below F T (mkF m pc Ls (.long y :: .long x :: St)) := by
  subst hq
  exact Go.by (fun _ gk => XT.lrem X.here hx rfl hd rfl hy gk) K
theorem Go.ineg (q : Nat) (X : Stand p l e R s m args below meth c T locs cells slots) (hx : p.tables.exec = Jvm.exec) {pc : Nat} {Ls : Array Slot} {x : Int32} {St : List Value} (hd : decode c.code pc = .ok (.ineg, 1)) (hq : pc + 1 = q) (K : Go p e below F T (mkF m q Ls (.int (-x) :: St))) : Go p e below F T (mkF m pc Ls (.int x :: St)) := by
  subst hq
  exact Go.by (fun _ gk => XS.ineg X.here hx rfl hd rfl gk) K
theorem Go.lneg (q : Nat) (X : Stand p l e R s m args below meth c T locs cells slots) (hx : p.tables.exec = Jvm.exec) {pc : Nat} {Ls : Array Slot} {x : Int64} {St : List Value} (hd : decode c.code pc = .ok (.lneg, 1)) (hq : pc + 1 = q) (K : Go p e below F T (mkF m q Ls (.long (-x) :: St))) : Go p e below F T (mkF m pc Ls (.long x :: St)) := by
  subst hq
  exact Go.by (fun _ gk => XT.lneg X.here hx rfl hd rfl gk) K
theorem Go.i2l (q : Nat) (X : Stand p l e R s m args below meth c T locs cells slots) (hx : p.tables.exec = Jvm.exec) {pc : Nat} {Ls : Array Slot} {x : Int32} {St : List Value} (hd : decode c.code pc = .ok (.i2l, 1)) (hq : pc + 1 = q) (K : Go p e below F T (mkF m q Ls (.long (x.toInt64) :: St))) : Go p e below F T (mkF m pc Ls (.int x :: St)) := by
  subst hq
  exact Go.by (fun _ gk => XT.i2l X.here hx rfl hd rfl gk) K
theorem Go.l2i (q : Nat) (X : Stand p l e R s m args below meth c T locs cells slots) (hx : p.tables.exec = Jvm.exec) {pc : Nat} {Ls : Array Slot} {x : Int64} {St : List Value} (hd : decode c.code pc = .ok (.l2i, 1)) (hq : pc + 1 = q) (K : Go p e below F T (mkF m q Ls (.int (x.toInt32) :: St))) : Go p e below F T (mkF m pc Ls (.long x :: St)) := by
  subst hq
  exact Go.by (fun _ gk => XT.l2i X.here hx rfl hd rfl gk) K
theorem Go.i2b (q : Nat) (X : Stand p l e R s m args below meth c T locs cells slots) (hx : p.tables.exec = Jvm.exec) {pc : Nat} {Ls : Array Slot} {x : Int32} {St : List Value} (hd : decode c.code pc = .ok (.i2b, 1)) (hq : pc + 1 = q) (K : Go p e below F T (mkF m q Ls (.int (x.toInt8.toInt32) :: St))) : Go p e below F T (mkF m pc Ls (.int x :: St)) := by
  subst hq
  exact Go.by (fun _ gk => XT.i2b X.here hx rfl hd rfl gk) K
theorem Go.i2s (q : Nat) (X : Stand p l e R s m args below meth c T locs cells slots) (hx : p.tables.exec = Jvm.exec) {pc : Nat} {Ls : Array Slot} {x : Int32} {St : List Value} (hd : decode c.code pc = .ok (.i2s, 1)) (hq : pc + 1 = q) (K : Go p e below F T (mkF m q Ls (.int (x.toInt16.toInt32) :: St))) : Go p e below F T (mkF m pc Ls (.int x :: St)) := by
  subst hq
  exact Go.by (fun _ gk => XT.i2s X.here hx rfl hd rfl gk) K
theorem Go.i2c (q : Nat) (X : Stand p l e R s m args below meth c T locs cells slots) (hx : p.tables.exec = Jvm.exec) {pc : Nat} {Ls : Array Slot} {x : Int32} {St : List Value} (hd : decode c.code pc = .ok (.i2c, 1)) (hq : pc + 1 = q) (K : Go p e below F T (mkF m q Ls (.int (x.toUInt32.toUInt16.toUInt32.toInt32) :: St))) : Go p e below F T (mkF m pc Ls (.int x :: St)) := by
  subst hq
  exact Go.by (fun _ gk => XT.i2c X.here hx rfl hd rfl gk) K
theorem Go.lcmp (q : Nat) (X : Stand p l e R s m args below meth c T locs cells slots) (hx : p.tables.exec = Jvm.exec) {pc : Nat} {Ls : Array Slot} {x y : Int64} {St : List Value} (hd : decode c.code pc = .ok (.lcmp, 1)) (hq : pc + 1 = q) (K : Go p e below F T (mkF m q Ls (.int (XT.cmpL x y) :: St))) : Go p e below F T (mkF m pc Ls (.long y :: .long x :: St)) := by
  subst hq
  exact Go.by (fun _ gk => XT.lcmp X.here hx rfl hd rfl gk) K
theorem Go.dup (q : Nat) (X : Stand p l e R s m args below meth c T locs cells slots) (hx : p.tables.exec = Jvm.exec) {pc : Nat} {Ls : Array Slot} {x : Value} {St : List Value} (hd : decode c.code pc = .ok (.dup, 1)) (hc : x.category = 1) (hq : pc + 1 = q) (K : Go p e below F T (mkF m q Ls (x :: x :: St))) : Go p e below F T (mkF m pc Ls (x :: St)) := by
  subst hq
  exact Go.by (fun _ gk => XS.dup X.here hx rfl hd rfl hc gk) K
theorem Go.pop (q : Nat) (X : Stand p l e R s m args below meth c T locs cells slots) (hx : p.tables.exec = Jvm.exec) {pc : Nat} {Ls : Array Slot} {x : Value} {St : List Value} (hd : decode c.code pc = .ok (.pop, 1)) (hc : x.category = 1) (hq : pc + 1 = q) (K : Go p e below F T (mkF m q Ls St)) : Go p e below F T (mkF m pc Ls (x :: St)) := by
  subst hq
  exact Go.by (fun _ gk => XT.pop X.here hx rfl hd rfl hc gk) K
theorem Go.dup_x1 (q : Nat) (X : Stand p l e R s m args below meth c T locs cells slots) (hx : p.tables.exec = Jvm.exec) {pc : Nat} {Ls : Array Slot} {x y : Value} {St : List Value} (hd : decode c.code pc = .ok (.dup_x1, 1)) (hc : x.category = 1) (hc' : y.category = 1) (hq : pc + 1 = q) (K : Go p e below F T (mkF m q Ls (x :: y :: x :: St))) : Go p e below F T (mkF m pc Ls (x :: y :: St)) := by
  subst hq
  exact Go.by (fun _ gk => XT.dupX1 X.here hx rfl hd rfl hc hc' gk) K
theorem Go.dup2 (q : Nat) (X : Stand p l e R s m args below meth c T locs cells slots) (hx : p.tables.exec = Jvm.exec) {pc : Nat} {Ls : Array Slot} {x y : Value} {St : List Value} (hd : decode c.code pc = .ok (.dup2, 1)) (hc : x.category = 1) (hc' : y.category = 1) (hq : pc + 1 = q) (K : Go p e below F T (mkF m q Ls (x :: y :: x :: y :: St))) : Go p e below F T (mkF m pc Ls (x :: y :: St)) := by
  subst hq
  exact Go.by (fun _ gk => XT.dup2 X.here hx rfl hd rfl hc hc' gk) K
theorem Go.dup2L (q : Nat) (X : Stand p l e R s m args below meth c T locs cells slots) (hx : p.tables.exec = Jvm.exec) {pc : Nat} {Ls : Array Slot} {x : Int64} {St : List Value} (hd : decode c.code pc = .ok (.dup2, 1)) (hq : pc + 1 = q) (K : Go p e below F T (mkF m q Ls (.long x :: .long x :: St))) : Go p e below F T (mkF m pc Ls (.long x :: St)) := by
  subst hq
  exact Go.by (fun _ gk => XT.dup2L X.here hx rfl hd rfl gk) K
theorem Go.iinc (q : Nat) (X : Stand p l e R s m args below meth c T locs cells slots) (hx : p.tables.exec = Jvm.exec) {pc : Nat} {Ls : Array Slot} {k : Nat} {cst : Int} {x : Int32} (v : Int32) {St : List Value} {L' : Array Slot} (hd : decode c.code pc = .ok (.iinc k cst, 3)) (hv : Int32.ofInt cst = v) (hl : Ls[k]? = some (.val (.int x))) (hl' : storeLocals Ls k (.int (x + v)) = some L') (hq : pc + 3 = q) (K : Go p e below F T (mkF m q L' St)) : Go p e below F T (mkF m pc Ls St) := by
  subst hq
  exact Go.by (fun _ gk => XT.iincV X.here hx rfl v hd hv hl hl' gk) K
theorem Go.goto (q : Nat) (X : Stand p l e R s m args below meth c T locs cells slots) (hx : p.tables.exec = Jvm.exec) {pc : Nat} {Ls : Array Slot} {o : Int} {St : List Value} (hd : decode c.code pc = .ok (.goto o, 3)) (ho : 0 ≤ (pc : Int) + o) (hq : ((pc : Int) + o).toNat = q) (K : Go p e below F T (mkF m q Ls St)) : Go p e below F T (mkF m pc Ls St) :=
  Go.by (fun _ gk => XS.goto X.here hx rfl rfl hd ho hq gk) K
theorem Go.ifY (q : Nat) (X : Stand p l e R s m args below meth c T locs cells slots) (hx : p.tables.exec = Jvm.exec) {pc : Nat} {Ls : Array Slot} {cd : ClassFile.Cond} {x : Int32} {o : Int} {St : List Value} (hd : decode c.code pc = .ok (.ifCond cd o, 3)) (hc : ifCond.holds cd x = true) (ho : 0 ≤ (pc : Int) + o) (hq : ((pc : Int) + o).toNat = q) (K : Go p e below F T (mkF m q Ls St)) : Go p e below F T (mkF m pc Ls (.int x :: St)) :=
  Go.by (fun _ gk => XS.ifYes X.here hx rfl rfl hd rfl hc ho hq gk) K
theorem Go.ifN (q : Nat) (X : Stand p l e R s m args below meth c T locs cells slots) (hx : p.tables.exec = Jvm.exec) {pc : Nat} {Ls : Array Slot} {cd : ClassFile.Cond} {x : Int32} {o : Int} {St : List Value} (hd : decode c.code pc = .ok (.ifCond cd o, 3)) (hc : ifCond.holds cd x = false) (hq : pc + 3 = q) (K : Go p e below F T (mkF m q Ls St)) : Go p e below F T (mkF m pc Ls (.int x :: St)) := by
  subst hq
  exact Go.by (fun _ gk => XS.ifNo X.here hx rfl hd rfl hc gk) K
theorem Go.icmpY (q : Nat) (X : Stand p l e R s m args below meth c T locs cells slots) (hx : p.tables.exec = Jvm.exec) {pc : Nat} {Ls : Array Slot} {cd : ClassFile.Cond} {x y : Int32} {o : Int} {St : List Value} (hd : decode c.code pc = .ok (.if_icmp cd o, 3)) (hc : if_icmp.holds cd x y = true) (ho : 0 ≤ (pc : Int) + o) (hq : ((pc : Int) + o).toNat = q) (K : Go p e below F T (mkF m q Ls St)) : Go p e below F T (mkF m pc Ls (.int y :: .int x :: St)) :=
  Go.by (fun _ gk => XS.icmpYes X.here hx rfl rfl hd rfl hc ho hq gk) K
theorem Go.icmpN (q : Nat) (X : Stand p l e R s m args below meth c T locs cells slots) (hx : p.tables.exec = Jvm.exec) {pc : Nat} {Ls : Array Slot} {cd : ClassFile.Cond} {x y : Int32} {o : Int} {St : List Value} (hd : decode c.code pc = .ok (.if_icmp cd o, 3)) (hc : if_icmp.holds cd x y = false) (hq : pc + 3 = q) (K : Go p e below F T (mkF m q Ls St)) : Go p e below F T (mkF m pc Ls (.int y :: .int x :: St)) := by
  subst hq
  exact Go.by (fun _ gk => XS.icmpNo X.here hx rfl hd rfl hc gk) K
end OwnSteps
theorem own_len {args : Array Value} {s : State} {t : Term} {a : Addr} {c : Cell} {z : Int32} (ev : t.eval args s none [] s = some (.ref a)) (A : s.arrayAt? a = some c) (h : (Term.length t).eval args s none [] s = some (.int z)) : c.slots.size < 2 ^ 31 ∧ c.slots.size.toInt32 = z := by
  simp only [Term.eval, ev, A, Option.bind_eq_bind, Option.bind_some] at h
  by_cases q : c.slots.size < 2 ^ 31
  · refine ⟨q, ?_⟩
    simpa [q] using h
  · simp [q] at h
theorem own_static {args : Array Value} {s : State} {C n d : String} {v : Value} (h : (Term.static C n d).eval args s none [] s = some v) : ∀ idx, (Term.static C n d).eval args s none idx s = some v := fun idx => by
  simpa [Term.eval] using h
theorem own_valI {Z : State} {args : Array Value} (X : Term) (j : Int32) (hj : ¬ j < 0) (h : (Jvm.Cond.eq X (Term.sub (Term.index 0) (Term.int 128))).value args Z none Z [j.toNatClampNeg] = some true) : X.eval args Z none [j.toNatClampNeg] Z = some (.int (j - 128)) := by
  refine eqv_i ?_ h
  have h1 : (Term.index 0).eval args Z none [j.toNatClampNeg] Z = some (.int j) := idx_at hj
  simp only [Term.eval] at h1 ⊢
  rw [h1]
  rfl
theorem own_boxin {x : Int32} (h1 : ¬ x < -128) (h2 : ¬ (127 : Int32) < x) : ¬ (x + 128) < 0 ∧ (x + 128) < 256 := by
  rw [Int32.lt_iff_toInt_lt] at h1 h2 ⊢
  rw [Int32.lt_iff_toInt_lt]
  have h := c_iadd x 128
  have r := rng32 (x + 128)
  have r2 := rng32 x
  have l1 : (-128 : Int32).toInt = -128 := by decide
  have l2 : (127 : Int32).toInt = 127 := by decide
  have l3 : (128 : Int32).toInt = 128 := by decide
  have l4 : (256 : Int32).toInt = 256 := by decide
  have l5 : (0 : Int32).toInt = 0 := by decide
  omega
theorem own_valJ {Z : State} {args : Array Value} (X : Term) (j : Int32) (hj : ¬ j < 0) (h : (Jvm.Cond.eq X (Term.op1 .i2l (Term.sub (Term.index 0) (Term.int 128)))).value args Z none Z [j.toNatClampNeg] = some true) : X.eval args Z none [j.toNatClampNeg] Z = some (.long (j - 128).toInt64) := by
  refine eqv_l (i2l_at ?_) h
  have h1 : (Term.index 0).eval args Z none [j.toNatClampNeg] Z = some (.int j) := idx_at hj
  simp only [Term.eval] at h1 ⊢
  rw [h1]
  rfl
theorem own_boxinJ {x : Int64} (h1 : ¬ x < -128) (h2 : ¬ (127 : Int64) < x) : ¬ (x.toInt32 + 128) < 0 ∧ (x.toInt32 + 128) < 256 := by
  rw [Int64.lt_iff_toInt_lt] at h1 h2
  rw [Int32.lt_iff_toInt_lt, Int32.lt_iff_toInt_lt]
  have h := c_iadd x.toInt32 128
  have r := rng32 (x.toInt32 + 128)
  have r2 := rng32 x.toInt32
  have r3 := c_l2i x
  have l1 : (-128 : Int64).toInt = -128 := by decide
  have l2 : (127 : Int64).toInt = 127 := by decide
  have l3 : (128 : Int32).toInt = 128 := by decide
  have l4 : (256 : Int32).toInt = 256 := by decide
  have l5 : (0 : Int32).toInt = 0 := by decide
  omega

theorem own_masked (x : Int32) : ¬ (x &&& 2147483647) < 0 := by
  have h := (c_and x (2147483647 : Int32) (by decide)).1
  rw [XT.negI32]
  omega
theorem own_irem (x y : Int32) : x - x / y * y = x % y := irem_eq_mod x y
theorem own_rem {x d k : Int32} (n : Nat) (hx : ¬ x < 0) (hd : d.toInt = n) (hn : 0 < n) (hk : k = x - x / d * d) : ∃ j : Nat, j < n ∧ k = Int32.ofNat j := by
  rw [own_irem] at hk
  rw [XT.negI32] at hx
  have h1 := (c_irem x d n hd).1 (by omega)
  have h2 := Int.emod_nonneg x.toInt (b := (n : Int)) (by omega)
  have h3 := Int.emod_lt_of_pos x.toInt (b := (n : Int)) (by omega)
  refine ⟨k.toInt.toNat, by rw [hk, h1]; omega, ?_⟩
  apply Int32.toInt_inj.mp
  have h4 := rng32 k
  rw [← hk] at h1
  rw [Int32.toInt_ofNat_of_lt (by omega)]
  omega

theorem own_ord {args : Array Value} {s : State} {t : Term} {a : Addr} {C n d : String} {k : Int32} (h : (Jvm.Cond.eq (Term.field t C n d) (Term.int k)).value args s none s [] = some true) (ev : t.eval args s none [] s = some (.ref a)) : s.fieldOf? a C n d = some (.int k) :=
  (fld_at ev).symm.trans (eqv_i (Term.int_eval k) h)
theorem own_eqR {args : Array Value} {s : State} {X Y : Term} {d : Addr} (h : (Jvm.Cond.eq X Y).value args s none s [] = some true) (hY : Y.eval args s none [] s = some (.ref d)) : X.eval args s none [] s = some (.ref d) := by
  obtain ⟨x, y, hx, hy, -, hk⟩ := cmp_v (Or.inl h)
  obtain rfl : (.ref d) = y := Option.some.inj (hY.symm.trans hy)
  have hr : x.isRef = true := hk.2
  rw [hx, gotT (eq_R hx hY hr rfl) h]

def own_bd (x : Int64) : Prop := -1099511627776 ≤ x.toInt ∧ x.toInt ≤ 1099511627776
theorem own_bd0 : own_bd 0 := ⟨by decide, by decide⟩
theorem own_bdI (p : Int32) : own_bd p.toInt64 := by
  have h := c_i2l p
  have r := rng32 p
  constructor <;> omega
theorem own_bdA (p : Int32) : own_bd (0 + p.toInt64) := by
  have h := c_i2l p
  have r := rng32 p
  have a := c_ladd 0 p.toInt64
  have z : (0 : Int64).toInt = 0 := by decide
  have r2 := rng64 (0 + p.toInt64)
  constructor <;> omega
theorem own_min {x : Int64} (h : own_bd x) : ¬ x = (-9223372036854775808 : Int64) := by
  rintro rfl
  exact absurd h.1 (by decide)
theorem own_bdN {x : Int64} (h : own_bd x) : own_bd (-x) := by
  obtain ⟨h1, h2⟩ := h
  have a := c_lneg x
  have r2 := rng64 (-x)
  constructor <;> omega
theorem own_minS {x y : Int64} (h : own_bd x) (g : own_bd y) : ¬ x + y = (-9223372036854775808 : Int64) := by
  intro q
  obtain ⟨h1, h2⟩ := h
  obtain ⟨g1, g2⟩ := g
  have a := c_ladd x y
  rw [q] at a
  have z : (-9223372036854775808 : Int64).toInt = -9223372036854775808 := by decide
  omega
theorem own_nov {x y : Int64} (h : own_bd x) (g : own_bd y) : ¬ (((x + y) ^^^ x) &&& ((x + y) ^^^ y)) < 0 := by
  obtain ⟨h1, h2⟩ := h
  obtain ⟨g1, g2⟩ := g
  have a := c_ladd x y
  have r2 := rng64 (x + y)
  have e : (x + y).toInt = x.toInt + y.toInt := by omega
  have s1 := c_xorSL (x + y) x
  have s2 := c_xorSL (x + y) y
  have s3 := c_andSL ((x + y) ^^^ x) ((x + y) ^^^ y)
  have z : (0 : Int64).toInt = 0 := by decide
  rw [Int64.lt_iff_toInt_lt, z]
  omega
theorem own_eqL {args : Array Value} {s : State} {X Y : Term} {d : Addr} (h : (Jvm.Cond.eq X Y).value args s none s [] = some true) (hX : X.eval args s none [] s = some (.ref d)) : Y.eval args s none [] s = some (.ref d) := by
  obtain ⟨x, y, hx, hy, hk, -⟩ := cmp_v (Or.inl h)
  obtain rfl : (.ref d) = x := Option.some.inj (hX.symm.trans hx)
  have hr : y.isRef = true := by cases y <;> simp_all [Kin, Value.isRef]
  rw [hy, ← gotT (eq_R hX hy rfl hr) h]
theorem pn_2 : plainName "java/lang/Number" = true := by first | (simp [plainName, overriddenIn]; done) | decide +kernel
theorem ef_3 (m : MethodId) (x0 : Addr) : entryFrame m #[(.ref x0)] 1 = mkF m 0 #[rv x0] [] := by (first | (simp [entryFrame, mkF, argsToLocals, Value.category]; done) | rfl)
theorem d4_0 : decode jdk_18_method_1_code 0 = .ok (.aload_n 0, 1) := by decide +kernel
theorem d4_1 : decode jdk_18_method_1_code 1 = .ok (.invokespecial 1, 3) := by decide +kernel
theorem d4_4 : decode jdk_18_method_1_code 4 = .ok (.return_, 1) := by decide +kernel
def Q_rmNumber (Z : State) (a : Addr) (h0 : Heap) (n0 : Nat) (v : Option Value) (h : Heap) (L : List Loc) : Prop := v = none ∧ Fr n0 L ∧ h = h0
set_option maxRecDepth 65536 in
set_option maxHeartbeats 40000000 in
theorem rmNumber (l : Launch) (Z : State) (a0 : Array Value) (hw : ∀ d ∈ tables_1, d.before a0 Z = true) (ws : List Jvm.Cond) (a : Addr) (h0 : Heap) (n0 : Nat) (Z0 : n0 ≤ h0.size)  :
    MetFree l (⟨"java/lang/Number", "<init>", "()V"⟩ : MethodName) (head1 (Jvm.Cond.code (⟨"java/lang/Number", "<init>", "()V"⟩ : MethodName) jdk_18_method_1_code 1 none :: ws) ({ frames := 1, cells := 0, slots := 0, locals := 12 } : Room)) (fun as' U => as' = #[(.ref a)] ∧ Z.Warmed39 U.vm ∧ U.heap = h0) (fun _ _ _ _ _ => True) (fun _ U o U' => ∃ v L, o = .returned v ∧ Q_rmNumber Z a h0 n0 v U'.heap L ∧ FrameEnd U o U' L ({ frames := 1, cells := 0, slots := 0, locals := 12 } : Room).cells ({ frames := 1, cells := 0, slots := 0, locals := 12 } : Room).slots) := by
  refine MetFree.of_bodySF (plainFor_of_name pn_2) hisR ?_
  intro p e s m args below meth c s₁ Bd hml0 hP hK
  obtain ⟨rfl, hZ, hh⟩ := hP
  have hx := Bd.exec
  have hby := Bd.bytes
  have hml : c.maxLocals = 1 := hml0
  have hown : s.vm.findClass "java/lang/Number" = some m.cls := findClass_of_methodNamed Bd.named
  have hnm := (name_of_methodNamed Bd.named Bd.method).1
  have X0 : Stand p l e ({ frames := 1, cells := 0, slots := 0, locals := 12 } : Room) s m #[(.ref a)] below meth c s₁ [] 0 0 := Stand.of_body Bd
  have e0 : s₁.heap = h0 := by rw [← hh, Bd.state]; rfl
  have N0 := Fr.nil n0
  refine Go.enter (F := EndN s (Q_rmNumber Z a h0 n0) ({ frames := 1, cells := 0, slots := 0, locals := 12 } : Room).cells ({ frames := 1, cells := 0, slots := 0, locals := 12 } : Room).slots) (ef_3 m a) ?_
  show Go _ _ _ _ s₁ (mkF m 0 #[rv a] [])
  refine Go.aload1 1 X0 hx (hb hby d4_0) rfl rfl rfl ?_
  obtain ⟨T1, X1, e1, st1⟩ := initO X0 hx hZ hown (ow hw 22 rfl) (ow hw 23 rfl) (ow hw 24 rfl) e0 (g := (mkF m 1 #[rv a] [(.ref a)])) rfl (by rw [hml]; rfl) rfl (hb hby d4_1) (by decide) (W := 0) (by show 2 * 0 + _ ≤ _; exact Nat.le_of_eq rfl) (by decide)
  refine Go.by st1 ?_
  show Go _ _ _ _ T1 (mkF m 4 #[rv a] [])
  exact Go.retV X1 hx Bd.notSynchronized Bd.returns (hb hby d4_4) (by rw [e1]; exact ⟨rfl, N0, rfl⟩) (by decide) (by decide)
theorem pn_7 : plainName "java/math/BigDecimal" = true := by first | (simp [plainName, overriddenIn]; done) | decide +kernel
theorem ef_8 (m : MethodId) (x0 : Addr) (x2 : Int64) (x3 : Int32) (x4 : Int32) : entryFrame m #[(.ref x0), .null, (.long x2), (.int x3), (.int x4)] 6 = mkF m 0 #[rv x0, .val .null, .val (.long x2), .second, iv x3, iv x4] [] := by (first | (simp [entryFrame, mkF, argsToLocals, Value.category]; done) | rfl)
theorem d3_0 : decode jdk_17_method_1_code 0 = .ok (.aload_n 0, 1) := by decide +kernel
theorem pd_10 : parseMethodDescriptor "()V" = some ⟨[], none⟩ := by decide +kernel
theorem d3_1 : decode jdk_17_method_1_code 1 = .ok (.invokespecial 11, 3) := by decide +kernel
theorem d3_4 : decode jdk_17_method_1_code 4 = .ok (.aload_n 0, 1) := by decide +kernel
theorem d3_5 : decode jdk_17_method_1_code 5 = .ok (.iload 4, 2) := by decide +kernel
theorem d3_7 : decode jdk_17_method_1_code 7 = .ok (.putfield 17, 3) := by decide +kernel
theorem d3_10 : decode jdk_17_method_1_code 10 = .ok (.aload_n 0, 1) := by decide +kernel
theorem d3_11 : decode jdk_17_method_1_code 11 = .ok (.iload 5, 2) := by decide +kernel
theorem d3_13 : decode jdk_17_method_1_code 13 = .ok (.putfield 21, 3) := by decide +kernel
theorem d3_16 : decode jdk_17_method_1_code 16 = .ok (.aload_n 0, 1) := by decide +kernel
theorem d3_17 : decode jdk_17_method_1_code 17 = .ok (.lload_n 2, 1) := by decide +kernel
theorem d3_18 : decode jdk_17_method_1_code 18 = .ok (.putfield 24, 3) := by decide +kernel
theorem d3_21 : decode jdk_17_method_1_code 21 = .ok (.aload_n 0, 1) := by decide +kernel
theorem d3_22 : decode jdk_17_method_1_code 22 = .ok (.aload_n 1, 1) := by decide +kernel
theorem d3_23 : decode jdk_17_method_1_code 23 = .ok (.putfield 28, 3) := by decide +kernel
theorem d3_26 : decode jdk_17_method_1_code 26 = .ok (.return_, 1) := by decide +kernel
def Q_rmBd (Z : State) (a : Addr) (x : Int64) (h0 : Heap) (n0 : Nat) (v : Option Value) (h : Heap) (L : List Loc) : Prop := v = none ∧ Fr n0 L ∧ Keep h0 h [a] ∧ Exa Z h a "java/math/BigDecimal" ∧ Fld Z h a "java/math/BigDecimal" "scale" "I" (.int 2) ∧ Fld Z h a "java/math/BigDecimal" "intCompact" "J" (.long x)
set_option maxRecDepth 65536 in
set_option maxHeartbeats 40000000 in
theorem rmBd (l : Launch) (Z : State) (a0 : Array Value) (hw : ∀ d ∈ tables_1, d.before a0 Z = true) (ws : List Jvm.Cond) (a : Addr) (x : Int64) (h0 : Heap) (n0 : Nat) (Z0 : n0 ≤ h0.size) (E_a : Exa Z h0 a "java/math/BigDecimal") (F_a_scale : Fld Z h0 a "java/math/BigDecimal" "scale" "I" (.int 0)) (F_a_precision : Fld Z h0 a "java/math/BigDecimal" "precision" "I" (.int 0)) (F_a_intCompact : Fld Z h0 a "java/math/BigDecimal" "intCompact" "J" (.long (0 : Int64))) (F_a_intVal : Fld Z h0 a "java/math/BigDecimal" "intVal" "Ljava/math/BigInteger;" .null) (g_a : n0 ≤ a) :
    MetFree l (⟨"java/math/BigDecimal", "<init>", "(Ljava/math/BigInteger;JII)V"⟩ : MethodName) (head1 (Jvm.Cond.code (⟨"java/math/BigDecimal", "<init>", "(Ljava/math/BigInteger;JII)V"⟩ : MethodName) jdk_17_method_1_code 6 none :: ws) ({ frames := 2, cells := 0, slots := 0, locals := 24 } : Room)) (fun as' U => as' = #[(.ref a), .null, (.long x), (.int 2), (.int 0)] ∧ Z.Warmed39 U.vm ∧ U.heap = h0) (fun _ _ _ _ _ => True) (fun _ U o U' => ∃ v L, o = .returned v ∧ Q_rmBd Z a x h0 n0 v U'.heap L ∧ FrameEnd U o U' L ({ frames := 2, cells := 0, slots := 0, locals := 24 } : Room).cells ({ frames := 2, cells := 0, slots := 0, locals := 24 } : Room).slots) := by
  refine MetFree.of_bodySF (plainFor_of_name pn_7) hisR ?_
  intro p e s m args below meth c s₁ Bd hml0 hP hK
  obtain ⟨rfl, hZ, hh⟩ := hP
  have hx := Bd.exec
  have hby := Bd.bytes
  have hml : c.maxLocals = 6 := hml0
  have hown : s.vm.findClass "java/math/BigDecimal" = some m.cls := findClass_of_methodNamed Bd.named
  have hnm := (name_of_methodNamed Bd.named Bd.method).1
  have X0 : Stand p l e ({ frames := 2, cells := 0, slots := 0, locals := 24 } : Room) s m #[(.ref a), .null, (.long x), (.int 2), (.int 0)] below meth c s₁ [] 0 0 := Stand.of_body Bd
  have e0 : s₁.heap = h0 := by rw [← hh, Bd.state]; rfl
  have N0 := Fr.nil n0
  refine Go.enter (F := EndN s (Q_rmBd Z a x h0 n0) ({ frames := 2, cells := 0, slots := 0, locals := 24 } : Room).cells ({ frames := 2, cells := 0, slots := 0, locals := 24 } : Room).slots) (ef_8 m a x (2 : Int32) (0 : Int32)) ?_
  show Go _ _ _ _ s₁ (mkF m 0 #[rv a, .val .null, .val (.long x), .second, iv 2, iv 0] [])
  refine Go.aload1 1 X0 hx (hb hby d3_0) rfl rfl rfl ?_
  obtain ⟨_, _, ⟨T1, L1, k1, n1⟩, -, X1, ⟨Lc1, hQ1, l1, y1, z1⟩, st1⟩ := X0.specialBack hx (y := (⟨"java/lang/Number", "<init>", "()V"⟩ : MethodName)) rfl hown (mvT hZ (ow hw 16 rfl)) (mvT hZ (ow hw 17 rfl)) (mvT hZ (ow hw 21 rfl)) (by decide) (backOf (W := 0) (rmNumber l Z a0 hw [] a h0 n0 Z0 ) hZ (ow hw 21 rfl) (ow hw 20 rfl) (by decide) (by decide)) (g := (mkF m 1 #[rv a, .val .null, .val (.long x), .second, iv 2, iv 0] [(.ref a)])) rfl (by rw [hml]; rfl) (Steps.refl _) (a := a) (argsL := []) (rest := []) (lenOf pd_10 rfl) rfl (by show 2 * 0 + _ ≤ _; exact Nat.le_of_eq rfl) (hb hby d3_1) (fun _ _ => ⟨rfl, e0, (by decide : 0 + 0 ≤ _), (by decide : 0 + 0 ≤ _)⟩)
  dsimp only [Pt.U, Pt.locs, Pt.cells, Pt.slots] at X1 l1 y1 z1 st1 hQ1
  subst l1 y1 z1
  obtain ⟨rfl, N1q, e1⟩ := hQ1
  have N1 := Fr.app N0 N1q
  refine Go.to st1 ?_
  show Go _ _ _ _ T1 (mkF m 4 #[rv a, .val .null, .val (.long x), .second, iv 2, iv 0] [])
  refine Go.aload1 5 X1 hx (hb hby d3_4) rfl rfl rfl ?_
  refine Go.iload2 7 X1 hx (hb hby d3_5) rfl rfl ?_
  obtain ⟨T2, h2, X2, e2, W2, st2⟩ := putF X1 hx hZ hown (host := "") (Or.inl (ow hw 25 rfl)) Via.refl e1 F_a_scale E_a (Or.inr ⟨(ow hw 26 rfl), rfl, hnm⟩) (ow hw 10 rfl) (ty := .int) (by decide) rfl rfl (g := (mkF m 7 #[rv a, .val .null, .val (.long x), .second, iv 2, iv 0] [(.int 2), (.ref a)])) rfl rfl (hb hby d3_7)
  have N2 := Fr.snoc X2 N1 g_a
  have Fw2 : Fld Z h2 a "java/math/BigDecimal" "scale" "I" (.int 2) := F_a_scale.same W2
  refine Go.by st2 ?_
  show Go _ _ _ _ T2 (mkF m 10 #[rv a, .val .null, .val (.long x), .second, iv 2, iv 0] [])
  refine Go.aload1 11 X2 hx (hb hby d3_10) rfl rfl rfl ?_
  refine Go.iload2 13 X2 hx (hb hby d3_11) rfl rfl ?_
  have F3 : Fld Z h2 a "java/math/BigDecimal" "precision" "I" (.int 0) := F_a_precision.other W2 (Or.inr (slot_ne (Or.inl (ow hw 28 rfl)) (Or.inr (ow hw 26 rfl)) (by decide) (t := .int) (t' := .int) (by decide) (by decide)))
  have F4 : Exa Z h2 a "java/math/BigDecimal" := E_a.wr W2
  obtain ⟨T5, h5, X5, e5, W5, st5⟩ := putF X2 hx hZ hown (host := "") (Or.inl (ow hw 27 rfl)) Via.refl e2 F3 F4 (Or.inl (ow hw 28 rfl)) (ow hw 10 rfl) (ty := .int) (by decide) rfl rfl (g := (mkF m 13 #[rv a, .val .null, .val (.long x), .second, iv 2, iv 0] [(.int 0), (.ref a)])) rfl rfl (hb hby d3_13)
  have N5 := Fr.snoc X5 N2 g_a
  have Fw5 : Fld Z h5 a "java/math/BigDecimal" "precision" "I" (.int 0) := F3.same W5
  refine Go.by st5 ?_
  show Go _ _ _ _ T5 (mkF m 16 #[rv a, .val .null, .val (.long x), .second, iv 2, iv 0] [])
  refine Go.aload1 17 X5 hx (hb hby d3_16) rfl rfl rfl ?_
  refine Go.lload1 18 X5 hx (hb hby d3_17) rfl rfl ?_
  have F6 : Fld Z h2 a "java/math/BigDecimal" "intCompact" "J" (.long (0 : Int64)) := F_a_intCompact.other W2 (Or.inr (slot_ne (Or.inr (ow hw 30 rfl)) (Or.inr (ow hw 26 rfl)) (by decide) (t := .long) (t' := .int) (by decide) (by decide)))
  have F7 : Fld Z h5 a "java/math/BigDecimal" "intCompact" "J" (.long (0 : Int64)) := F6.other W5 (Or.inr (slot_ne (Or.inr (ow hw 30 rfl)) (Or.inl (ow hw 28 rfl)) (by decide) (t := .long) (t' := .int) (by decide) (by decide)))
  have F8 : Exa Z h5 a "java/math/BigDecimal" := F4.wr W5
  obtain ⟨T9, h9, X9, e9, W9, st9⟩ := putF X5 hx hZ hown (host := "") (Or.inl (ow hw 29 rfl)) Via.refl e5 F7 F8 (Or.inr ⟨(ow hw 30 rfl), rfl, hnm⟩) (ow hw 10 rfl) (ty := .long) (by decide) rfl rfl (g := (mkF m 18 #[rv a, .val .null, .val (.long x), .second, iv 2, iv 0] [(.long x), (.ref a)])) rfl rfl (hb hby d3_18)
  have N9 := Fr.snoc X9 N5 g_a
  have Fw9 : Fld Z h9 a "java/math/BigDecimal" "intCompact" "J" (.long x) := F7.same W9
  refine Go.by st9 ?_
  show Go _ _ _ _ T9 (mkF m 21 #[rv a, .val .null, .val (.long x), .second, iv 2, iv 0] [])
  refine Go.aload1 22 X9 hx (hb hby d3_21) rfl rfl rfl ?_
  refine Go.aload1 23 X9 hx (hb hby d3_22) rfl rfl rfl ?_
  have F10 : Fld Z h2 a "java/math/BigDecimal" "intVal" "Ljava/math/BigInteger;" .null := F_a_intVal.other W2 (Or.inr (slot_ne (Or.inr (ow hw 32 rfl)) (Or.inr (ow hw 26 rfl)) (by decide) (t := (.object "java/math/BigInteger")) (t' := .int) (by decide) (by decide)))
  have F11 : Fld Z h5 a "java/math/BigDecimal" "intVal" "Ljava/math/BigInteger;" .null := F10.other W5 (Or.inr (slot_ne (Or.inr (ow hw 32 rfl)) (Or.inl (ow hw 28 rfl)) (by decide) (t := (.object "java/math/BigInteger")) (t' := .int) (by decide) (by decide)))
  have F12 : Fld Z h9 a "java/math/BigDecimal" "intVal" "Ljava/math/BigInteger;" .null := F11.other W9 (Or.inr (slot_ne (Or.inr (ow hw 32 rfl)) (Or.inr (ow hw 30 rfl)) (by decide) (t := (.object "java/math/BigInteger")) (t' := .long) (by decide) (by decide)))
  have F13 : Exa Z h9 a "java/math/BigDecimal" := F8.wr W9
  obtain ⟨T14, h14, X14, e14, W14, st14⟩ := putF X9 hx hZ hown (host := "") (Or.inl (ow hw 31 rfl)) Via.refl e9 F12 F13 (Or.inr ⟨(ow hw 32 rfl), rfl, hnm⟩) (ow hw 10 rfl) (ty := (.object "java/math/BigInteger")) (by decide) rfl rfl (g := (mkF m 23 #[rv a, .val .null, .val (.long x), .second, iv 2, iv 0] [.null, (.ref a)])) rfl rfl (hb hby d3_23)
  have N14 := Fr.snoc X14 N9 g_a
  have Fw14 : Fld Z h14 a "java/math/BigDecimal" "intVal" "Ljava/math/BigInteger;" .null := F12.same W14
  refine Go.by st14 ?_
  show Go _ _ _ _ T14 (mkF m 26 #[rv a, .val .null, .val (.long x), .second, iv 2, iv 0] [])
  have F15 : Keep h0 h2 [a] := (Keep.refl h0 [a]).wr W2 (Or.inl (List.mem_of_getElem? (i := 0) rfl))
  have F16 : Keep h0 h5 [a] := F15.wr W5 (Or.inl (List.mem_of_getElem? (i := 0) rfl))
  have F17 : Keep h0 h9 [a] := F16.wr W9 (Or.inl (List.mem_of_getElem? (i := 0) rfl))
  have F18 : Keep h0 h14 [a] := F17.wr W14 (Or.inl (List.mem_of_getElem? (i := 0) rfl))
  have F19 : Exa Z h14 a "java/math/BigDecimal" := F13.wr W14
  have F20 : Fld Z h5 a "java/math/BigDecimal" "scale" "I" (.int 2) := Fw2.other W5 (Or.inr (slot_ne (Or.inr (ow hw 26 rfl)) (Or.inl (ow hw 28 rfl)) (by decide) (t := .int) (t' := .int) (by decide) (by decide)))
  have F21 : Fld Z h9 a "java/math/BigDecimal" "scale" "I" (.int 2) := F20.other W9 (Or.inr (slot_ne (Or.inr (ow hw 26 rfl)) (Or.inr (ow hw 30 rfl)) (by decide) (t := .int) (t' := .long) (by decide) (by decide)))
  have F22 : Fld Z h14 a "java/math/BigDecimal" "scale" "I" (.int 2) := F21.other W14 (Or.inr (slot_ne (Or.inr (ow hw 26 rfl)) (Or.inr (ow hw 32 rfl)) (by decide) (t := .int) (t' := (.object "java/math/BigInteger")) (by decide) (by decide)))
  have F23 : Fld Z h14 a "java/math/BigDecimal" "intCompact" "J" (.long x) := Fw9.other W14 (Or.inr (slot_ne (Or.inr (ow hw 30 rfl)) (Or.inr (ow hw 32 rfl)) (by decide) (t := .long) (t' := (.object "java/math/BigInteger")) (by decide) (by decide)))
  exact Go.retV X14 hx Bd.notSynchronized Bd.returns (hb hby d3_26) (by rw [e14]; exact ⟨rfl, N14, F18, F19, F22, F23⟩) (by decide) (by decide)
theorem ef_25 (m : MethodId) (x0 : Int32) : entryFrame m #[(.int x0)] 1 = mkF m 0 #[iv x0] [] := by (first | (simp [entryFrame, mkF, argsToLocals, Value.category]; done) | rfl)
theorem d2_0 : decode jdk_17_method_24_code 0 = .ok (.iload_n 0, 1) := by decide +kernel
theorem d2_1 : decode jdk_17_method_24_code 1 = .ok (.ifCond .lt 17, 3) := by decide +kernel
theorem d2_4 : decode jdk_17_method_24_code 4 = .ok (.iload_n 0, 1) := by decide +kernel
theorem d2_5 : decode jdk_17_method_24_code 5 = .ok (.getstatic 250, 3) := by decide +kernel
theorem d2_8 : decode jdk_17_method_24_code 8 = .ok (.arraylength, 1) := by decide +kernel
theorem d2_9 : decode jdk_17_method_24_code 9 = .ok (.if_icmp .ge 9, 3) := by decide +kernel
theorem d2_12 : decode jdk_17_method_24_code 12 = .ok (.getstatic 250, 3) := by decide +kernel
theorem d2_15 : decode jdk_17_method_24_code 15 = .ok (.iload_n 0, 1) := by decide +kernel
theorem d2_16 : decode jdk_17_method_24_code 16 = .ok (.aaload, 1) := by decide +kernel
theorem d2_17 : decode jdk_17_method_24_code 17 = .ok (.areturn, 1) := by decide +kernel
def Q_rmZero (Z : State) (ze0 : Addr) (ze1 : Addr) (ze2 : Addr) (ze3 : Addr) (ze4 : Addr) (ze5 : Addr) (ze6 : Addr) (ze7 : Addr) (ze8 : Addr) (ze9 : Addr) (ze10 : Addr) (ze11 : Addr) (ze12 : Addr) (ze13 : Addr) (ze14 : Addr) (ze15 : Addr) (za : Addr) (kz : ClassId) (h0 : Heap) (n0 : Nat) (v : Option Value) (h : Heap) (L : List Loc) : Prop := v = some (.ref ze2) ∧ Fr n0 L ∧ h = h0
set_option maxRecDepth 65536 in
set_option maxHeartbeats 40000000 in
theorem rmZero (l : Launch) (Z : State) (a0 : Array Value) (hw : ∀ d ∈ tables_1, d.before a0 Z = true) (ws : List Jvm.Cond) (ze0 : Addr) (ze1 : Addr) (ze2 : Addr) (ze3 : Addr) (ze4 : Addr) (ze5 : Addr) (ze6 : Addr) (ze7 : Addr) (ze8 : Addr) (ze9 : Addr) (ze10 : Addr) (ze11 : Addr) (ze12 : Addr) (ze13 : Addr) (ze14 : Addr) (ze15 : Addr) (za : Addr) (kz : ClassId) (h0 : Heap) (n0 : Nat) (Z0 : n0 ≤ h0.size) (O0 : Old Z n0 h0) (D0 : Sta Z Z.heap "java/math/BigDecimal" "ZERO_SCALED_BY" "[Ljava/math/BigDecimal;" (.ref za)) (D1 : Sta Z Z.heap "java/math/BigDecimal" "ZERO" "Ljava/math/BigDecimal;" (.ref ze0)) (D2 : Arv Z Z.heap za kz (.object "java/math/BigDecimal") (16 : Int32) ([(.ref ze0), (.ref ze1), (.ref ze2), (.ref ze3), (.ref ze4), (.ref ze5), (.ref ze6), (.ref ze7), (.ref ze8), (.ref ze9), (.ref ze10), (.ref ze11), (.ref ze12), (.ref ze13), (.ref ze14), (.ref ze15)]) .null) (D3 : Exa Z Z.heap ze0 "java/math/BigDecimal") (D4 : Fld Z Z.heap ze0 "java/math/BigDecimal" "scale" "I" (.int 0)) (D5 : Fld Z Z.heap ze0 "java/math/BigDecimal" "intCompact" "J" (.long (0 : Int64))) (D6 : Exa Z Z.heap ze2 "java/math/BigDecimal") (D7 : Fld Z Z.heap ze2 "java/math/BigDecimal" "scale" "I" (.int 2)) (D8 : Fld Z Z.heap ze2 "java/math/BigDecimal" "intCompact" "J" (.long (0 : Int64))) :
    MetFree l (⟨"java/math/BigDecimal", "zeroValueOf", "(I)Ljava/math/BigDecimal;"⟩ : MethodName) (head1 (Jvm.Cond.code (⟨"java/math/BigDecimal", "zeroValueOf", "(I)Ljava/math/BigDecimal;"⟩ : MethodName) jdk_17_method_24_code 1 (some (.object "java/math/BigDecimal")) :: ws) ({ frames := 0, cells := 0, slots := 0, locals := 0 } : Room)) (fun as' U => as' = #[(.int 2)] ∧ Z.Warmed39 U.vm ∧ U.heap = h0) (fun _ _ _ _ _ => True) (fun _ U o U' => ∃ v L, o = .returned v ∧ Q_rmZero Z ze0 ze1 ze2 ze3 ze4 ze5 ze6 ze7 ze8 ze9 ze10 ze11 ze12 ze13 ze14 ze15 za kz h0 n0 v U'.heap L ∧ FrameEnd U o U' L ({ frames := 0, cells := 0, slots := 0, locals := 0 } : Room).cells ({ frames := 0, cells := 0, slots := 0, locals := 0 } : Room).slots) := by
  refine MetFree.of_bodySF (plainFor_of_name pn_7) hisR ?_
  intro p e s m args below meth c s₁ Bd hml0 hP hK
  obtain ⟨rfl, hZ, hh⟩ := hP
  have hx := Bd.exec
  have hby := Bd.bytes
  have hml : c.maxLocals = 1 := hml0
  have hown : s.vm.findClass "java/math/BigDecimal" = some m.cls := findClass_of_methodNamed Bd.named
  have hnm := (name_of_methodNamed Bd.named Bd.method).1
  have X0 : Stand p l e ({ frames := 0, cells := 0, slots := 0, locals := 0 } : Room) s m #[(.int 2)] below meth c s₁ [] 0 0 := Stand.of_body Bd
  have e0 : s₁.heap = h0 := by rw [← hh, Bd.state]; rfl
  have N0 := Fr.nil n0
  refine Go.enter (F := EndN s (Q_rmZero Z ze0 ze1 ze2 ze3 ze4 ze5 ze6 ze7 ze8 ze9 ze10 ze11 ze12 ze13 ze14 ze15 za kz h0 n0) ({ frames := 0, cells := 0, slots := 0, locals := 0 } : Room).cells ({ frames := 0, cells := 0, slots := 0, locals := 0 } : Room).slots) (ef_25 m (2 : Int32)) ?_
  show Go _ _ _ _ s₁ (mkF m 0 #[iv 2] [])
  refine Go.iload1 1 X0 hx (hb hby d2_0) rfl rfl ?_
  refine Go.ifN 4 X0 hx (hb hby d2_1) (XT.i0_lt_f (by decide)) rfl ?_
  refine Go.iload1 5 X0 hx (hb hby d2_4) rfl rfl ?_
  have F1 : Sta Z h0 "java/math/BigDecimal" "ZERO_SCALED_BY" "[Ljava/math/BigDecimal;" (.ref za) := D0.ext O0.2
  obtain ⟨T2, X2, e2, st2⟩ := getS2 X0 hx hZ hown (host := "") (Or.inl (ow hw 8 rfl)) Via.refl e0 F1 (g := (mkF m 5 #[iv 2] [(.int 2)])) rfl (hb hby d2_5)
  refine Go.by st2 ?_
  show Go _ _ _ _ T2 (mkF m 8 #[iv 2] [(.ref za), (.int 2)])
  have F3 : Arv Z h0 za kz (.object "java/math/BigDecimal") (16 : Int32) [(.ref ze0), (.ref ze1), (.ref ze2), (.ref ze3), (.ref ze4), (.ref ze5), (.ref ze6), (.ref ze7), (.ref ze8), (.ref ze9), (.ref ze10), (.ref ze11), (.ref ze12), (.ref ze13), (.ref ze14), (.ref ze15)] .null := D2.ext O0.2
  obtain ⟨cl4, Ar4, -, S4, M4, -, -⟩ := id F3
  refine Go.by (fun _ gk => X2.arraylength hx (by rw [e2]; exact Ar4.1) (State.isArrayOf_alike hZ.alike Ar4.2.1) (g := (mkF m 8 #[iv 2] [(.ref za), (.int 2)])) rfl rfl (hb hby d2_8) _ gk) ?_
  rw [len_of S4 M4]
  show Go _ _ _ _ T2 (mkF m 9 #[iv 2] [(.int 16), (.int 2)])
  refine Go.icmpN 12 X2 hx (hb hby d2_9) (XT.ii_ge_f (by decide)) rfl ?_
  obtain ⟨T5, X5, e5, st5⟩ := getS2 X2 hx hZ hown (host := "") (Or.inl (ow hw 8 rfl)) Via.refl e2 F1 (g := (mkF m 12 #[iv 2] [])) rfl (hb hby d2_12)
  refine Go.by st5 ?_
  show Go _ _ _ _ T5 (mkF m 15 #[iv 2] [(.ref za)])
  refine Go.iload1 16 X5 hx (hb hby d2_15) rfl rfl ?_
  obtain ⟨cl6, Ar6, -, S6, M6, H6, -⟩ := id F3
  have hin6 : ¬ ((2 : Int32) < 0 ∨ cl6.slots.size ≤ (2 : Int32).toNatClampNeg) := inb_of S6 ⟨by decide, by decide⟩
  refine Go.by (fun _ gk => X5.aaload hx (j := (2 : Int32)) (v := (.ref ze2)) (by rw [e5]; exact Ar6.1) (State.isArrayOf_alike hZ.alike Ar6.2.1) rfl Ar6.2.2 hin6 (Has.at H6 hin6 rfl) (g := (mkF m 16 #[iv 2] [(.int 2), (.ref za)])) rfl rfl (hb hby d2_16) _ gk) ?_
  show Go _ _ _ _ T5 (mkF m 17 #[iv 2] [(.ref ze2)])
  exact Go.retA X5 hx Bd.notSynchronized Bd.returns rfl rfl (hb hby d2_17) (by rw [e5]; exact ⟨rfl, N0, rfl⟩) (by decide) (by decide)
theorem ef_36 (m : MethodId) (x0 : Int64) (x1 : Int32) : entryFrame m #[(.long x0), (.int x1)] 3 = mkF m 0 #[.val (.long x0), .second, iv x1] [] := by (first | (simp [entryFrame, mkF, argsToLocals, Value.category]; done) | rfl)
theorem d1_0 : decode jdk_17_method_20_code 0 = .ok (.iload_n 2, 1) := by decide +kernel
theorem d1_1 : decode jdk_17_method_20_code 1 = .ok (.ifCond .ne 8, 3) := by decide +kernel
theorem d1_9 : decode jdk_17_method_20_code 9 = .ok (.lload_n 0, 1) := by decide +kernel
theorem d1_10 : decode jdk_17_method_20_code 10 = .ok (.lconst 0, 1) := by decide +kernel
theorem d1_11 : decode jdk_17_method_20_code 11 = .ok (.lcmp, 1) := by decide +kernel
theorem d1_12 : decode jdk_17_method_20_code 12 = .ok (.ifCond .ne 8, 3) := by decide +kernel
theorem d1_15 : decode jdk_17_method_20_code 15 = .ok (.iload_n 2, 1) := by decide +kernel
theorem pd_44 : parseMethodDescriptor "(I)Ljava/math/BigDecimal;" = some ⟨[.int], some (.object "java/math/BigDecimal")⟩ := by decide +kernel
theorem d1_16 : decode jdk_17_method_20_code 16 = .ok (.invokestatic 239, 3) := by decide +kernel
theorem d1_19 : decode jdk_17_method_20_code 19 = .ok (.areturn, 1) := by decide +kernel
theorem d1_20 : decode jdk_17_method_20_code 20 = .ok (.new 3, 3) := by decide +kernel
theorem d1_23 : decode jdk_17_method_20_code 23 = .ok (.dup, 1) := by decide +kernel
theorem d1_24 : decode jdk_17_method_20_code 24 = .ok (.lload_n 0, 1) := by decide +kernel
theorem d1_25 : decode jdk_17_method_20_code 25 = .ok (.ldc2_w 125, 3) := by decide +kernel
theorem d1_28 : decode jdk_17_method_20_code 28 = .ok (.lcmp, 1) := by decide +kernel
theorem d1_29 : decode jdk_17_method_20_code 29 = .ok (.ifCond .ne 9, 3) := by decide +kernel
theorem d1_38 : decode jdk_17_method_20_code 38 = .ok (.aconst_null, 1) := by decide +kernel
theorem d1_39 : decode jdk_17_method_20_code 39 = .ok (.lload_n 0, 1) := by decide +kernel
theorem d1_40 : decode jdk_17_method_20_code 40 = .ok (.iload_n 2, 1) := by decide +kernel
theorem d1_41 : decode jdk_17_method_20_code 41 = .ok (.iconst 0, 1) := by decide +kernel
theorem pd_57 : parseMethodDescriptor "(Ljava/math/BigInteger;JII)V" = some ⟨[(.object "java/math/BigInteger"), .long, .int, .int], none⟩ := by decide +kernel
theorem d1_42 : decode jdk_17_method_20_code 42 = .ok (.invokespecial 243, 3) := by decide +kernel
theorem d1_45 : decode jdk_17_method_20_code 45 = .ok (.areturn, 1) := by decide +kernel
def Q_rmVal (Z : State) (x : Int64) (ze0 : Addr) (ze1 : Addr) (ze2 : Addr) (ze3 : Addr) (ze4 : Addr) (ze5 : Addr) (ze6 : Addr) (ze7 : Addr) (ze8 : Addr) (ze9 : Addr) (ze10 : Addr) (ze11 : Addr) (ze12 : Addr) (ze13 : Addr) (ze14 : Addr) (ze15 : Addr) (za : Addr) (kz : ClassId) (h0 : Heap) (n0 : Nat) (v : Option Value) (h : Heap) (L : List Loc) : Prop := ∃ b : Addr, v = some (.ref b) ∧ Fr n0 L ∧ Keep h0 h [] ∧ Exa Z h b "java/math/BigDecimal" ∧ Fld Z h b "java/math/BigDecimal" "scale" "I" (.int 2) ∧ Fld Z h b "java/math/BigDecimal" "intCompact" "J" (.long x)
set_option maxRecDepth 65536 in
set_option maxHeartbeats 40000000 in
theorem rmVal (l : Launch) (Z : State) (a0 : Array Value) (hw : ∀ d ∈ tables_1, d.before a0 Z = true) (ws : List Jvm.Cond) (x : Int64) (ze0 : Addr) (ze1 : Addr) (ze2 : Addr) (ze3 : Addr) (ze4 : Addr) (ze5 : Addr) (ze6 : Addr) (ze7 : Addr) (ze8 : Addr) (ze9 : Addr) (ze10 : Addr) (ze11 : Addr) (ze12 : Addr) (ze13 : Addr) (ze14 : Addr) (ze15 : Addr) (za : Addr) (kz : ClassId) (h0 : Heap) (n0 : Nat) (Z0 : n0 ≤ h0.size) (O0 : Old Z n0 h0) (hm : (¬ x = (-9223372036854775808 : Int64))) (D0 : Sta Z Z.heap "java/math/BigDecimal" "ZERO_SCALED_BY" "[Ljava/math/BigDecimal;" (.ref za)) (D1 : Sta Z Z.heap "java/math/BigDecimal" "ZERO" "Ljava/math/BigDecimal;" (.ref ze0)) (D2 : Arv Z Z.heap za kz (.object "java/math/BigDecimal") (16 : Int32) ([(.ref ze0), (.ref ze1), (.ref ze2), (.ref ze3), (.ref ze4), (.ref ze5), (.ref ze6), (.ref ze7), (.ref ze8), (.ref ze9), (.ref ze10), (.ref ze11), (.ref ze12), (.ref ze13), (.ref ze14), (.ref ze15)]) .null) (D3 : Exa Z Z.heap ze0 "java/math/BigDecimal") (D4 : Fld Z Z.heap ze0 "java/math/BigDecimal" "scale" "I" (.int 0)) (D5 : Fld Z Z.heap ze0 "java/math/BigDecimal" "intCompact" "J" (.long (0 : Int64))) (D6 : Exa Z Z.heap ze2 "java/math/BigDecimal") (D7 : Fld Z Z.heap ze2 "java/math/BigDecimal" "scale" "I" (.int 2)) (D8 : Fld Z Z.heap ze2 "java/math/BigDecimal" "intCompact" "J" (.long (0 : Int64))) :
    MetFree l (⟨"java/math/BigDecimal", "valueOf", "(JI)Ljava/math/BigDecimal;"⟩ : MethodName) (head1 (Jvm.Cond.code (⟨"java/math/BigDecimal", "valueOf", "(JI)Ljava/math/BigDecimal;"⟩ : MethodName) jdk_17_method_20_code 3 (some (.object "java/math/BigDecimal")) :: ws) ({ frames := 3, cells := 1, slots := 5, locals := 42 } : Room)) (fun as' U => as' = #[(.long x), (.int 2)] ∧ Z.Warmed39 U.vm ∧ U.heap = h0) (fun _ _ _ _ _ => True) (fun _ U o U' => ∃ v L, o = .returned v ∧ Q_rmVal Z x ze0 ze1 ze2 ze3 ze4 ze5 ze6 ze7 ze8 ze9 ze10 ze11 ze12 ze13 ze14 ze15 za kz h0 n0 v U'.heap L ∧ FrameEnd U o U' L ({ frames := 3, cells := 1, slots := 5, locals := 42 } : Room).cells ({ frames := 3, cells := 1, slots := 5, locals := 42 } : Room).slots) := by
  refine MetFree.of_bodySF (plainFor_of_name pn_7) hisR ?_
  intro p e s m args below meth c s₁ Bd hml0 hP hK
  obtain ⟨rfl, hZ, hh⟩ := hP
  have hx := Bd.exec
  have hby := Bd.bytes
  have hml : c.maxLocals = 3 := hml0
  have hown : s.vm.findClass "java/math/BigDecimal" = some m.cls := findClass_of_methodNamed Bd.named
  have hnm := (name_of_methodNamed Bd.named Bd.method).1
  have X0 : Stand p l e ({ frames := 3, cells := 1, slots := 5, locals := 42 } : Room) s m #[(.long x), (.int 2)] below meth c s₁ [] 0 0 := Stand.of_body Bd
  have e0 : s₁.heap = h0 := by rw [← hh, Bd.state]; rfl
  have N0 := Fr.nil n0
  refine Go.enter (F := EndN s (Q_rmVal Z x ze0 ze1 ze2 ze3 ze4 ze5 ze6 ze7 ze8 ze9 ze10 ze11 ze12 ze13 ze14 ze15 za kz h0 n0) ({ frames := 3, cells := 1, slots := 5, locals := 42 } : Room).cells ({ frames := 3, cells := 1, slots := 5, locals := 42 } : Room).slots) (ef_36 m x (2 : Int32)) ?_
  show Go _ _ _ _ s₁ (mkF m 0 #[.val (.long x), .second, iv 2] [])
  refine Go.iload1 1 X0 hx (hb hby d1_0) rfl rfl ?_
  refine Go.ifY 9 X0 hx (hb hby d1_1) (XT.i0_ne_t (by decide)) (by decide) (by decide) ?_
  refine Go.lload1 10 X0 hx (hb hby d1_9) rfl rfl ?_
  refine Go.lconst 11 X0 hx (0 : Int64) (hb hby d1_10) (by decide) rfl ?_
  refine Go.lcmp 12 X0 hx (hb hby d1_11) rfl ?_
  by_cases hb1 : x = (0 : Int64)
  · refine Go.ifN 15 X0 hx (hb hby d1_12) (XT.ll_ne_f hb1) rfl ?_
    subst hb1
    show Go _ _ _ _ s₁ (mkF m 15 #[.val (.long (0 : Int64)), .second, iv 2] [])
    refine Go.iload1 16 X0 hx (hb hby d1_15) rfl rfl ?_
    obtain ⟨_, _, ⟨T2, L2, k2, n2⟩, -, X2, ⟨Lc2, hQ2, l2, y2, z2⟩, st2⟩ := Jvm.LawKit.callS X0 hx (y := (⟨"java/math/BigDecimal", "zeroValueOf", "(I)Ljava/math/BigDecimal;"⟩ : MethodName)) hown (mvT hZ (ow hw 5 rfl)) (mvT hZ (ow hw 6 rfl)) (mvT hZ (ow hw 3 rfl)) (mvT hZ (ow hw 7 rfl)) (by decide) (backOf (W := 0) (rmZero l Z a0 hw [] ze0 ze1 ze2 ze3 ze4 ze5 ze6 ze7 ze8 ze9 ze10 ze11 ze12 ze13 ze14 ze15 za kz h0 n0 Z0 O0 D0 D1 D2 D3 D4 D5 D6 D7 D8) hZ (ow hw 7 rfl) (ow hw 3 rfl) (by decide) (by decide)) (g := (mkF m 16 #[.val (.long (0 : Int64)), .second, iv 2] [(.int 2)])) rfl (by rw [hml]; rfl) (argsL := [(.int 2)]) (rest := []) (lenOf pd_44 rfl) rfl (by show 2 * 0 + _ ≤ _; exact Nat.le_of_eq rfl) (hb hby d1_16) (fun _ _ => ⟨rfl, e0, (by decide : 0 + 0 ≤ _), (by decide : 0 + 0 ≤ _)⟩)
    dsimp only [Pt.U, Pt.locs, Pt.cells, Pt.slots] at X2 l2 y2 z2 st2 hQ2
    subst l2 y2 z2
    obtain ⟨rfl, N2q, e2⟩ := hQ2
    have N2 := Fr.app N0 N2q
    refine Go.by st2 ?_
    show Go _ _ _ _ T2 (mkF m 19 #[.val (.long (0 : Int64)), .second, iv 2] [(.ref ze2)])
    have F3 : Exa Z h0 ze2 "java/math/BigDecimal" := D6.ext O0.2
    have F4 : Fld Z h0 ze2 "java/math/BigDecimal" "scale" "I" (.int 2) := D7.ext O0.2
    have F5 : Fld Z h0 ze2 "java/math/BigDecimal" "intCompact" "J" (.long (0 : Int64)) := D8.ext O0.2
    exact Go.retA X2 hx Bd.notSynchronized Bd.returns rfl rfl (hb hby d1_19) (by rw [e2]; exact ⟨ze2, rfl, N2, (Keep.refl h0 []), F3, F4, F5⟩) (by decide) (by decide)
  · refine Go.ifY 20 X0 hx (hb hby d1_12) (XT.ll_ne_t hb1) (by decide) (by decide) ?_
    obtain ⟨b, g6⟩ : ∃ z, z = h0.size := ⟨_, rfl⟩
    have ge_b : n0 ≤ b := Nat.le_trans Z0 (Nat.le_of_eq g6.symm)
    have sz_b : h0.size ≤ b := Nat.le_trans (Keep.refl h0 []).1 (Nat.le_of_eq g6.symm)
    obtain ⟨T6, h6, X6, e6, E6, A6, D6, -, st6⟩ := newO X0 hx hZ hown (ow hw 9 rfl) (ow hw 10 rfl) (ow hw 3 rfl) e0 (g := (mkF m 20 #[.val (.long x), .second, iv 2] [])) rfl (hb hby d1_20) (by decide) (by decide)
    rw [← g6] at A6 D6 st6
    have F_scale_b : Fld Z h6 b "java/math/BigDecimal" "scale" "I" (.int 0) := D6 (Or.inr (ow hw 26 rfl)) (ty := .int) (by decide)
    have F_precision_b : Fld Z h6 b "java/math/BigDecimal" "precision" "I" (.int 0) := D6 (Or.inl (ow hw 28 rfl)) (ty := .int) (by decide)
    have F_intCompact_b : Fld Z h6 b "java/math/BigDecimal" "intCompact" "J" (.long (0 : Int64)) := D6 (Or.inr (ow hw 30 rfl)) (ty := .long) (by decide)
    have F_intVal_b : Fld Z h6 b "java/math/BigDecimal" "intVal" "Ljava/math/BigInteger;" .null := D6 (Or.inr (ow hw 32 rfl)) (ty := (.object "java/math/BigInteger")) (by decide)
    refine Go.by st6 ?_
    show Go _ _ _ _ T6 (mkF m 23 #[.val (.long x), .second, iv 2] [(.ref b)])
    refine Go.dup 24 X6 hx (hb hby d1_23) rfl rfl ?_
    refine Go.lload1 25 X6 hx (hb hby d1_24) rfl rfl ?_
    refine Go.by (fun _ gk => X6.ldc2J hx hown (mvT hZ (ow hw 11 rfl)) (g := (mkF m 25 #[.val (.long x), .second, iv 2] [(.long x), (.ref b), (.ref b)])) rfl (hb hby d1_25) gk) ?_
    show Go _ _ _ _ T6 (mkF m 28 #[.val (.long x), .second, iv 2] [(.long (-9223372036854775808 : Int64)), (.long x), (.ref b), (.ref b)])
    refine Go.lcmp 29 X6 hx (hb hby d1_28) rfl ?_
    refine Go.ifY 38 X6 hx (hb hby d1_29) (XT.ll_ne_t hm) (by decide) (by decide) ?_
    refine Go.aconst_null 39 X6 hx (hb hby d1_38) rfl ?_
    refine Go.lload1 40 X6 hx (hb hby d1_39) rfl rfl ?_
    refine Go.iload1 41 X6 hx (hb hby d1_40) rfl rfl ?_
    refine Go.iconst 42 X6 hx (0 : Int32) (hb hby d1_41) (by decide) rfl ?_
    have F7 : n0 ≤ h6.size := Nat.le_trans Z0 E6.1
    obtain ⟨_, _, ⟨T8, L8, k8, n8⟩, -, X8, ⟨Lc8, hQ8, l8, y8, z8⟩, st8⟩ := X6.specialBack hx (y := (⟨"java/math/BigDecimal", "<init>", "(Ljava/math/BigInteger;JII)V"⟩ : MethodName)) rfl hown (mvT hZ (ow hw 12 rfl)) (mvT hZ (ow hw 13 rfl)) (mvT hZ (ow hw 15 rfl)) (by decide) (backOf (W := 1) (rmBd l Z a0 hw [] b x h6 n0 F7 A6 F_scale_b F_precision_b F_intCompact_b F_intVal_b ge_b) hZ (ow hw 15 rfl) (ow hw 3 rfl) (by decide) (by decide)) (g := (mkF m 42 #[.val (.long x), .second, iv 2] [(.int 0), (.int 2), (.long x), .null, (.ref b), (.ref b)])) rfl (by rw [hml]; rfl) (Steps.refl _) (a := b) (argsL := [.null, (.long x), (.int 2), (.int 0)]) (rest := [(.ref b)]) (lenOf pd_57 rfl) rfl (by show 2 * 0 + _ ≤ _; exact Nat.le_of_eq rfl) (hb hby d1_42) (fun _ _ => ⟨rfl, e6, (by decide : 1 + 0 ≤ _), (by decide : 5 + 0 ≤ _)⟩)
    dsimp only [Pt.U, Pt.locs, Pt.cells, Pt.slots] at X8 l8 y8 z8 st8 hQ8
    subst l8 y8 z8
    obtain ⟨rfl, N8q, K8, Q8_0, Q8_1, Q8_2⟩ := hQ8
    have N8 := Fr.app N0 N8q
    refine Go.to st8 ?_
    show Go _ _ _ _ T8 (mkF m 45 #[.val (.long x), .second, iv 2] [(.ref b)])
    have F9 : Keep h0 h6 [] := (Keep.refl h0 []).ext E6
    have F10 : Keep h0 T8.heap [] := F9.trans K8 (allS (Or.inr sz_b) all0)
    exact Go.retA X8 hx Bd.notSynchronized Bd.returns rfl rfl (hb hby d1_45) ⟨b, rfl, N8, F10, Q8_0, Q8_1, Q8_2⟩ (by decide) (by decide)
theorem pn_60 : plainName "java/lang/Long" = true := by first | (simp [plainName, overriddenIn]; done) | decide +kernel
theorem ef_61 (m : MethodId) (x0 : Int64) : entryFrame m #[(.long x0)] 2 = mkF m 0 #[.val (.long x0), .second] [] := by (first | (simp [entryFrame, mkF, argsToLocals, Value.category]; done) | rfl)
theorem d10_0 : decode jdk_35_method_57_code 0 = .ok (.lload_n 0, 1) := by decide +kernel
theorem d10_1 : decode jdk_35_method_57_code 1 = .ok (.bipush 63, 2) := by decide +kernel
theorem d10_3 : decode jdk_35_method_57_code 3 = .ok (.lshr, 1) := by decide +kernel
theorem d10_4 : decode jdk_35_method_57_code 4 = .ok (.lload_n 0, 1) := by decide +kernel
theorem d10_5 : decode jdk_35_method_57_code 5 = .ok (.lneg, 1) := by decide +kernel
theorem d10_6 : decode jdk_35_method_57_code 6 = .ok (.bipush 63, 2) := by decide +kernel
theorem d10_8 : decode jdk_35_method_57_code 8 = .ok (.lushr, 1) := by decide +kernel
theorem d10_9 : decode jdk_35_method_57_code 9 = .ok (.lor, 1) := by decide +kernel
theorem d10_10 : decode jdk_35_method_57_code 10 = .ok (.l2i, 1) := by decide +kernel
theorem d10_11 : decode jdk_35_method_57_code 11 = .ok (.ireturn, 1) := by decide +kernel
def Q_rmLsg0 (Z : State)  (h0 : Heap) (n0 : Nat) (v : Option Value) (h : Heap) (L : List Loc) : Prop := v = some (.int 0) ∧ Fr n0 L ∧ h = h0
set_option maxRecDepth 65536 in
set_option maxHeartbeats 40000000 in
theorem rmLsg0 (l : Launch) (Z : State) (a0 : Array Value) (hw : ∀ d ∈ tables_1, d.before a0 Z = true) (ws : List Jvm.Cond)  (h0 : Heap) (n0 : Nat) (Z0 : n0 ≤ h0.size)  :
    MetFree l (⟨"java/lang/Long", "signum", "(J)I"⟩ : MethodName) (head1 (Jvm.Cond.code (⟨"java/lang/Long", "signum", "(J)I"⟩ : MethodName) jdk_35_method_57_code 2 (some .int) :: ws) ({ frames := 0, cells := 0, slots := 0, locals := 0 } : Room)) (fun as' U => as' = #[(.long (0 : Int64))] ∧ Z.Warmed39 U.vm ∧ U.heap = h0) (fun _ _ _ _ _ => True) (fun _ U o U' => ∃ v L, o = .returned v ∧ Q_rmLsg0 Z  h0 n0 v U'.heap L ∧ FrameEnd U o U' L ({ frames := 0, cells := 0, slots := 0, locals := 0 } : Room).cells ({ frames := 0, cells := 0, slots := 0, locals := 0 } : Room).slots) := by
  refine MetFree.of_bodySF (plainFor_of_name pn_60) hisR ?_
  intro p e s m args below meth c s₁ Bd hml0 hP hK
  obtain ⟨rfl, hZ, hh⟩ := hP
  have hx := Bd.exec
  have hby := Bd.bytes
  have hml : c.maxLocals = 2 := hml0
  have hown : s.vm.findClass "java/lang/Long" = some m.cls := findClass_of_methodNamed Bd.named
  have hnm := (name_of_methodNamed Bd.named Bd.method).1
  have X0 : Stand p l e ({ frames := 0, cells := 0, slots := 0, locals := 0 } : Room) s m #[(.long (0 : Int64))] below meth c s₁ [] 0 0 := Stand.of_body Bd
  have e0 : s₁.heap = h0 := by rw [← hh, Bd.state]; rfl
  have N0 := Fr.nil n0
  refine Go.enter (F := EndN s (Q_rmLsg0 Z  h0 n0) ({ frames := 0, cells := 0, slots := 0, locals := 0 } : Room).cells ({ frames := 0, cells := 0, slots := 0, locals := 0 } : Room).slots) (ef_61 m (0 : Int64)) ?_
  show Go _ _ _ _ s₁ (mkF m 0 #[.val (.long (0 : Int64)), .second] [])
  refine Go.lload1 1 X0 hx (hb hby d10_0) rfl rfl ?_
  refine Go.bipush 3 X0 hx (63 : Int32) (hb hby d10_1) (by decide) rfl ?_
  refine Go.lshr 4 X0 hx (hb hby d10_3) rfl ?_
  refine Go.lload1 5 X0 hx (hb hby d10_4) rfl rfl ?_
  refine Go.lneg 6 X0 hx (hb hby d10_5) rfl ?_
  refine Go.bipush 8 X0 hx (63 : Int32) (hb hby d10_6) (by decide) rfl ?_
  refine Go.lushr 9 X0 hx (hb hby d10_8) rfl ?_
  refine Go.lor 10 X0 hx (hb hby d10_9) rfl ?_
  refine Go.l2i 11 X0 hx (hb hby d10_10) rfl ?_
  rw [(by decide : ((((0 : Int64) >>> ((63 : Int32).toInt64 &&& 63)) ||| (XT.ushrL (-(0 : Int64)) (63 : Int32))).toInt32) = (0 : Int32))]
  show Go _ _ _ _ s₁ (mkF m 11 #[.val (.long (0 : Int64)), .second] [(.int 0)])
  exact Go.retI X0 hx Bd.notSynchronized Bd.returns rfl (by simp) (hb hby d10_11) (by rw [e0]; exact ⟨rfl, N0, rfl⟩) (by decide) (by decide)
def Q_rmLsg (Z : State) (x : Int64) (h0 : Heap) (n0 : Nat) (v : Option Value) (h : Heap) (L : List Loc) : Prop := ∃ r : Int32, v = some (.int r) ∧ Fr n0 L ∧ h = h0
set_option maxRecDepth 65536 in
set_option maxHeartbeats 40000000 in
theorem rmLsg (l : Launch) (Z : State) (a0 : Array Value) (hw : ∀ d ∈ tables_1, d.before a0 Z = true) (ws : List Jvm.Cond) (x : Int64) (h0 : Heap) (n0 : Nat) (Z0 : n0 ≤ h0.size)  :
    MetFree l (⟨"java/lang/Long", "signum", "(J)I"⟩ : MethodName) (head1 (Jvm.Cond.code (⟨"java/lang/Long", "signum", "(J)I"⟩ : MethodName) jdk_35_method_57_code 2 (some .int) :: ws) ({ frames := 0, cells := 0, slots := 0, locals := 0 } : Room)) (fun as' U => as' = #[(.long x)] ∧ Z.Warmed39 U.vm ∧ U.heap = h0) (fun _ _ _ _ _ => True) (fun _ U o U' => ∃ v L, o = .returned v ∧ Q_rmLsg Z x h0 n0 v U'.heap L ∧ FrameEnd U o U' L ({ frames := 0, cells := 0, slots := 0, locals := 0 } : Room).cells ({ frames := 0, cells := 0, slots := 0, locals := 0 } : Room).slots) := by
  refine MetFree.of_bodySF (plainFor_of_name pn_60) hisR ?_
  intro p e s m args below meth c s₁ Bd hml0 hP hK
  obtain ⟨rfl, hZ, hh⟩ := hP
  have hx := Bd.exec
  have hby := Bd.bytes
  have hml : c.maxLocals = 2 := hml0
  have hown : s.vm.findClass "java/lang/Long" = some m.cls := findClass_of_methodNamed Bd.named
  have hnm := (name_of_methodNamed Bd.named Bd.method).1
  have X0 : Stand p l e ({ frames := 0, cells := 0, slots := 0, locals := 0 } : Room) s m #[(.long x)] below meth c s₁ [] 0 0 := Stand.of_body Bd
  have e0 : s₁.heap = h0 := by rw [← hh, Bd.state]; rfl
  have N0 := Fr.nil n0
  refine Go.enter (F := EndN s (Q_rmLsg Z x h0 n0) ({ frames := 0, cells := 0, slots := 0, locals := 0 } : Room).cells ({ frames := 0, cells := 0, slots := 0, locals := 0 } : Room).slots) (ef_61 m x) ?_
  show Go _ _ _ _ s₁ (mkF m 0 #[.val (.long x), .second] [])
  refine Go.lload1 1 X0 hx (hb hby d10_0) rfl rfl ?_
  refine Go.bipush 3 X0 hx (63 : Int32) (hb hby d10_1) (by decide) rfl ?_
  refine Go.lshr 4 X0 hx (hb hby d10_3) rfl ?_
  refine Go.lload1 5 X0 hx (hb hby d10_4) rfl rfl ?_
  refine Go.lneg 6 X0 hx (hb hby d10_5) rfl ?_
  refine Go.bipush 8 X0 hx (63 : Int32) (hb hby d10_6) (by decide) rfl ?_
  refine Go.lushr 9 X0 hx (hb hby d10_8) rfl ?_
  refine Go.lor 10 X0 hx (hb hby d10_9) rfl ?_
  refine Go.l2i 11 X0 hx (hb hby d10_10) rfl ?_
  exact Go.retI X0 hx Bd.notSynchronized Bd.returns rfl (by simp) (hb hby d10_11) (by rw [e0]; exact ⟨(((x >>> ((63 : Int32).toInt64 &&& 63)) ||| (XT.ushrL (-x) (63 : Int32))).toInt32), rfl, N0, rfl⟩) (by decide) (by decide)
theorem d9_0 : decode jdk_17_method_58_code 0 = .ok (.aload_n 0, 1) := by decide +kernel
theorem d9_1 : decode jdk_17_method_58_code 1 = .ok (.getfield 24, 3) := by decide +kernel
theorem d9_4 : decode jdk_17_method_58_code 4 = .ok (.ldc2_w 125, 3) := by decide +kernel
theorem d9_7 : decode jdk_17_method_58_code 7 = .ok (.lcmp, 1) := by decide +kernel
theorem d9_8 : decode jdk_17_method_58_code 8 = .ok (.ifCond .eq 13, 3) := by decide +kernel
theorem d9_11 : decode jdk_17_method_58_code 11 = .ok (.aload_n 0, 1) := by decide +kernel
theorem d9_12 : decode jdk_17_method_58_code 12 = .ok (.getfield 24, 3) := by decide +kernel
theorem pd_79 : parseMethodDescriptor "(J)I" = some ⟨[.long], some .int⟩ := by decide +kernel
theorem d9_15 : decode jdk_17_method_58_code 15 = .ok (.invokestatic 596, 3) := by decide +kernel
theorem d9_18 : decode jdk_17_method_58_code 18 = .ok (.goto 10, 3) := by decide +kernel
theorem d9_28 : decode jdk_17_method_58_code 28 = .ok (.ireturn, 1) := by decide +kernel
def Q_rmSig0 (Z : State) (a : Addr) (h0 : Heap) (n0 : Nat) (v : Option Value) (h : Heap) (L : List Loc) : Prop := v = some (.int 0) ∧ Fr n0 L ∧ h = h0
set_option maxRecDepth 65536 in
set_option maxHeartbeats 40000000 in
theorem rmSig0 (l : Launch) (Z : State) (a0 : Array Value) (hw : ∀ d ∈ tables_1, d.before a0 Z = true) (ws : List Jvm.Cond) (a : Addr) (h0 : Heap) (n0 : Nat) (Z0 : n0 ≤ h0.size) (F_a_intCompact : Fld Z h0 a "java/math/BigDecimal" "intCompact" "J" (.long (0 : Int64))) :
    MetFree l (⟨"java/math/BigDecimal", "signum", "()I"⟩ : MethodName) (head1 (Jvm.Cond.code (⟨"java/math/BigDecimal", "signum", "()I"⟩ : MethodName) jdk_17_method_58_code 1 (some .int) :: ws) ({ frames := 1, cells := 0, slots := 0, locals := 13 } : Room)) (fun as' U => as' = #[(.ref a)] ∧ Z.Warmed39 U.vm ∧ U.heap = h0) (fun _ _ _ _ _ => True) (fun _ U o U' => ∃ v L, o = .returned v ∧ Q_rmSig0 Z a h0 n0 v U'.heap L ∧ FrameEnd U o U' L ({ frames := 1, cells := 0, slots := 0, locals := 13 } : Room).cells ({ frames := 1, cells := 0, slots := 0, locals := 13 } : Room).slots) := by
  refine MetFree.of_bodySF (plainFor_of_name pn_7) hisR ?_
  intro p e s m args below meth c s₁ Bd hml0 hP hK
  obtain ⟨rfl, hZ, hh⟩ := hP
  have hx := Bd.exec
  have hby := Bd.bytes
  have hml : c.maxLocals = 1 := hml0
  have hown : s.vm.findClass "java/math/BigDecimal" = some m.cls := findClass_of_methodNamed Bd.named
  have hnm := (name_of_methodNamed Bd.named Bd.method).1
  have X0 : Stand p l e ({ frames := 1, cells := 0, slots := 0, locals := 13 } : Room) s m #[(.ref a)] below meth c s₁ [] 0 0 := Stand.of_body Bd
  have e0 : s₁.heap = h0 := by rw [← hh, Bd.state]; rfl
  have N0 := Fr.nil n0
  refine Go.enter (F := EndN s (Q_rmSig0 Z a h0 n0) ({ frames := 1, cells := 0, slots := 0, locals := 13 } : Room).cells ({ frames := 1, cells := 0, slots := 0, locals := 13 } : Room).slots) (ef_3 m a) ?_
  show Go _ _ _ _ s₁ (mkF m 0 #[rv a] [])
  refine Go.aload1 1 X0 hx (hb hby d9_0) rfl rfl rfl ?_
  obtain ⟨T1, X1, e1, st1⟩ := getF X0 hx hZ hown (host := "") (Or.inl (ow hw 29 rfl)) Via.refl e0 F_a_intCompact (g := (mkF m 1 #[rv a] [(.ref a)])) rfl rfl (hb hby d9_1)
  refine Go.by st1 ?_
  show Go _ _ _ _ T1 (mkF m 4 #[rv a] [(.long (0 : Int64))])
  refine Go.by (fun _ gk => X1.ldc2J hx hown (mvT hZ (ow hw 11 rfl)) (g := (mkF m 4 #[rv a] [(.long (0 : Int64))])) rfl (hb hby d9_4) gk) ?_
  show Go _ _ _ _ T1 (mkF m 7 #[rv a] [(.long (-9223372036854775808 : Int64)), (.long (0 : Int64))])
  refine Go.lcmp 8 X1 hx (hb hby d9_7) rfl ?_
  refine Go.ifN 11 X1 hx (hb hby d9_8) (XT.ll_eq_f (by decide)) rfl ?_
  refine Go.aload1 12 X1 hx (hb hby d9_11) rfl rfl rfl ?_
  obtain ⟨T2, X2, e2, st2⟩ := getF X1 hx hZ hown (host := "") (Or.inl (ow hw 29 rfl)) Via.refl e1 F_a_intCompact (g := (mkF m 12 #[rv a] [(.ref a)])) rfl rfl (hb hby d9_12)
  refine Go.by st2 ?_
  show Go _ _ _ _ T2 (mkF m 15 #[rv a] [(.long (0 : Int64))])
  obtain ⟨_, _, ⟨T3, L3, k3, n3⟩, -, X3, ⟨Lc3, hQ3, l3, y3, z3⟩, st3⟩ := Jvm.LawKit.callS X2 hx (y := (⟨"java/lang/Long", "signum", "(J)I"⟩ : MethodName)) hown (mvT hZ (ow hw 56 rfl)) (mvT hZ (ow hw 57 rfl)) (mvT hZ (ow hw 58 rfl)) (mvT hZ (ow hw 59 rfl)) (by decide) (backOf (W := 0) (rmLsg0 l Z a0 hw []  h0 n0 Z0 ) hZ (ow hw 59 rfl) (ow hw 58 rfl) (by decide) (by decide)) (g := (mkF m 15 #[rv a] [(.long (0 : Int64))])) rfl (by rw [hml]; rfl) (argsL := [(.long (0 : Int64))]) (rest := []) (lenOf pd_79 rfl) rfl (by show 2 * 0 + _ ≤ _; exact Nat.le_of_eq rfl) (hb hby d9_15) (fun _ _ => ⟨rfl, e2, (by decide : 0 + 0 ≤ _), (by decide : 0 + 0 ≤ _)⟩)
  dsimp only [Pt.U, Pt.locs, Pt.cells, Pt.slots] at X3 l3 y3 z3 st3 hQ3
  subst l3 y3 z3
  obtain ⟨rfl, N3q, e3⟩ := hQ3
  have N3 := Fr.app N0 N3q
  refine Go.by st3 ?_
  show Go _ _ _ _ T3 (mkF m 18 #[rv a] [(.int 0)])
  refine Go.goto 28 X3 hx (hb hby d9_18) (by decide) (by decide) ?_
  exact Go.retI X3 hx Bd.notSynchronized Bd.returns rfl (by simp) (hb hby d9_28) (by rw [e3]; exact ⟨rfl, N3, rfl⟩) (by decide) (by decide)
def Q_rmSig (Z : State) (a : Addr) (x : Int64) (h0 : Heap) (n0 : Nat) (v : Option Value) (h : Heap) (L : List Loc) : Prop := ∃ r : Int32, v = some (.int r) ∧ Fr n0 L ∧ h = h0
set_option maxRecDepth 65536 in
set_option maxHeartbeats 40000000 in
theorem rmSig (l : Launch) (Z : State) (a0 : Array Value) (hw : ∀ d ∈ tables_1, d.before a0 Z = true) (ws : List Jvm.Cond) (a : Addr) (x : Int64) (h0 : Heap) (n0 : Nat) (Z0 : n0 ≤ h0.size) (F_a_intCompact : Fld Z h0 a "java/math/BigDecimal" "intCompact" "J" (.long x)) (hm : (¬ x = (-9223372036854775808 : Int64))) :
    MetFree l (⟨"java/math/BigDecimal", "signum", "()I"⟩ : MethodName) (head1 (Jvm.Cond.code (⟨"java/math/BigDecimal", "signum", "()I"⟩ : MethodName) jdk_17_method_58_code 1 (some .int) :: ws) ({ frames := 1, cells := 0, slots := 0, locals := 13 } : Room)) (fun as' U => as' = #[(.ref a)] ∧ Z.Warmed39 U.vm ∧ U.heap = h0) (fun _ _ _ _ _ => True) (fun _ U o U' => ∃ v L, o = .returned v ∧ Q_rmSig Z a x h0 n0 v U'.heap L ∧ FrameEnd U o U' L ({ frames := 1, cells := 0, slots := 0, locals := 13 } : Room).cells ({ frames := 1, cells := 0, slots := 0, locals := 13 } : Room).slots) := by
  refine MetFree.of_bodySF (plainFor_of_name pn_7) hisR ?_
  intro p e s m args below meth c s₁ Bd hml0 hP hK
  obtain ⟨rfl, hZ, hh⟩ := hP
  have hx := Bd.exec
  have hby := Bd.bytes
  have hml : c.maxLocals = 1 := hml0
  have hown : s.vm.findClass "java/math/BigDecimal" = some m.cls := findClass_of_methodNamed Bd.named
  have hnm := (name_of_methodNamed Bd.named Bd.method).1
  have X0 : Stand p l e ({ frames := 1, cells := 0, slots := 0, locals := 13 } : Room) s m #[(.ref a)] below meth c s₁ [] 0 0 := Stand.of_body Bd
  have e0 : s₁.heap = h0 := by rw [← hh, Bd.state]; rfl
  have N0 := Fr.nil n0
  refine Go.enter (F := EndN s (Q_rmSig Z a x h0 n0) ({ frames := 1, cells := 0, slots := 0, locals := 13 } : Room).cells ({ frames := 1, cells := 0, slots := 0, locals := 13 } : Room).slots) (ef_3 m a) ?_
  show Go _ _ _ _ s₁ (mkF m 0 #[rv a] [])
  refine Go.aload1 1 X0 hx (hb hby d9_0) rfl rfl rfl ?_
  obtain ⟨T1, X1, e1, st1⟩ := getF X0 hx hZ hown (host := "") (Or.inl (ow hw 29 rfl)) Via.refl e0 F_a_intCompact (g := (mkF m 1 #[rv a] [(.ref a)])) rfl rfl (hb hby d9_1)
  refine Go.by st1 ?_
  show Go _ _ _ _ T1 (mkF m 4 #[rv a] [(.long x)])
  refine Go.by (fun _ gk => X1.ldc2J hx hown (mvT hZ (ow hw 11 rfl)) (g := (mkF m 4 #[rv a] [(.long x)])) rfl (hb hby d9_4) gk) ?_
  show Go _ _ _ _ T1 (mkF m 7 #[rv a] [(.long (-9223372036854775808 : Int64)), (.long x)])
  refine Go.lcmp 8 X1 hx (hb hby d9_7) rfl ?_
  refine Go.ifN 11 X1 hx (hb hby d9_8) (XT.ll_eq_f hm) rfl ?_
  refine Go.aload1 12 X1 hx (hb hby d9_11) rfl rfl rfl ?_
  obtain ⟨T2, X2, e2, st2⟩ := getF X1 hx hZ hown (host := "") (Or.inl (ow hw 29 rfl)) Via.refl e1 F_a_intCompact (g := (mkF m 12 #[rv a] [(.ref a)])) rfl rfl (hb hby d9_12)
  refine Go.by st2 ?_
  show Go _ _ _ _ T2 (mkF m 15 #[rv a] [(.long x)])
  obtain ⟨_, _, ⟨T3, L3, k3, n3⟩, -, X3, ⟨Lc3, hQ3, l3, y3, z3⟩, st3⟩ := Jvm.LawKit.callS X2 hx (y := (⟨"java/lang/Long", "signum", "(J)I"⟩ : MethodName)) hown (mvT hZ (ow hw 56 rfl)) (mvT hZ (ow hw 57 rfl)) (mvT hZ (ow hw 58 rfl)) (mvT hZ (ow hw 59 rfl)) (by decide) (backOf (W := 0) (rmLsg l Z a0 hw [] x h0 n0 Z0 ) hZ (ow hw 59 rfl) (ow hw 58 rfl) (by decide) (by decide)) (g := (mkF m 15 #[rv a] [(.long x)])) rfl (by rw [hml]; rfl) (argsL := [(.long x)]) (rest := []) (lenOf pd_79 rfl) rfl (by show 2 * 0 + _ ≤ _; exact Nat.le_of_eq rfl) (hb hby d9_15) (fun _ _ => ⟨rfl, e2, (by decide : 0 + 0 ≤ _), (by decide : 0 + 0 ≤ _)⟩)
  dsimp only [Pt.U, Pt.locs, Pt.cells, Pt.slots] at X3 l3 y3 z3 st3 hQ3
  subst l3 y3 z3
  obtain ⟨r, rfl, N3q, e3⟩ := hQ3
  have N3 := Fr.app N0 N3q
  refine Go.by st3 ?_
  show Go _ _ _ _ T3 (mkF m 18 #[rv a] [(.int r)])
  refine Go.goto 28 X3 hx (hb hby d9_18) (by decide) (by decide) ?_
  exact Go.retI X3 hx Bd.notSynchronized Bd.returns rfl (by simp) (hb hby d9_28) (by rw [e3]; exact ⟨r, rfl, N3, rfl⟩) (by decide) (by decide)
theorem ef_83 (m : MethodId) (x0 : Addr) (x1 : Int32) (x2 : Int32) : entryFrame m #[(.ref x0), (.int x1), (.int x2)] 8 = mkF m 0 #[rv x0, iv x1, iv x2, un, un, un, un, un] [] := by (first | (simp [entryFrame, mkF, argsToLocals, Value.category]; done) | rfl)
theorem d8_0 : decode jdk_17_method_64_code 0 = .ok (.iload_n 2, 1) := by decide +kernel
theorem d8_1 : decode jdk_17_method_64_code 1 = .ok (.ifCond .lt 9, 3) := by decide +kernel
theorem d8_4 : decode jdk_17_method_64_code 4 = .ok (.iload_n 2, 1) := by decide +kernel
theorem d8_5 : decode jdk_17_method_64_code 5 = .ok (.bipush 7, 2) := by decide +kernel
theorem d8_7 : decode jdk_17_method_64_code 7 = .ok (.if_icmp .le 14, 3) := by decide +kernel
theorem d8_21 : decode jdk_17_method_64_code 21 = .ok (.aload_n 0, 1) := by decide +kernel
theorem d8_22 : decode jdk_17_method_64_code 22 = .ok (.getfield 17, 3) := by decide +kernel
theorem d8_25 : decode jdk_17_method_64_code 25 = .ok (.istore_n 3, 1) := by decide +kernel
theorem d8_26 : decode jdk_17_method_64_code 26 = .ok (.iload_n 1, 1) := by decide +kernel
theorem d8_27 : decode jdk_17_method_64_code 27 = .ok (.iload_n 3, 1) := by decide +kernel
theorem d8_28 : decode jdk_17_method_64_code 28 = .ok (.if_icmp .ne 5, 3) := by decide +kernel
theorem d8_33 : decode jdk_17_method_64_code 33 = .ok (.aload_n 0, 1) := by decide +kernel
theorem pd_96 : parseMethodDescriptor "()I" = some ⟨[], some .int⟩ := by decide +kernel
theorem d8_34 : decode jdk_17_method_64_code 34 = .ok (.invokevirtual 270, 3) := by decide +kernel
theorem d8_37 : decode jdk_17_method_64_code 37 = .ok (.ifCond .ne 8, 3) := by decide +kernel
theorem d8_40 : decode jdk_17_method_64_code 40 = .ok (.iload_n 1, 1) := by decide +kernel
theorem d8_41 : decode jdk_17_method_64_code 41 = .ok (.invokestatic 239, 3) := by decide +kernel
theorem d8_44 : decode jdk_17_method_64_code 44 = .ok (.areturn, 1) := by decide +kernel
def Q_rmSs2 (Z : State) (ze0 : Addr) (ze1 : Addr) (ze2 : Addr) (ze3 : Addr) (ze4 : Addr) (ze5 : Addr) (ze6 : Addr) (ze7 : Addr) (ze8 : Addr) (ze9 : Addr) (ze10 : Addr) (ze11 : Addr) (ze12 : Addr) (ze13 : Addr) (ze14 : Addr) (ze15 : Addr) (za : Addr) (kz : ClassId) (h0 : Heap) (n0 : Nat) (v : Option Value) (h : Heap) (L : List Loc) : Prop := v = some (.ref ze2) ∧ Fr n0 L ∧ h = h0
set_option maxRecDepth 65536 in
set_option maxHeartbeats 40000000 in
theorem rmSs2 (l : Launch) (Z : State) (a0 : Array Value) (hw : ∀ d ∈ tables_1, d.before a0 Z = true) (ws : List Jvm.Cond) (ze0 : Addr) (ze1 : Addr) (ze2 : Addr) (ze3 : Addr) (ze4 : Addr) (ze5 : Addr) (ze6 : Addr) (ze7 : Addr) (ze8 : Addr) (ze9 : Addr) (ze10 : Addr) (ze11 : Addr) (ze12 : Addr) (ze13 : Addr) (ze14 : Addr) (ze15 : Addr) (za : Addr) (kz : ClassId) (h0 : Heap) (n0 : Nat) (Z0 : n0 ≤ h0.size) (O0 : Old Z n0 h0) (D0 : Sta Z Z.heap "java/math/BigDecimal" "ZERO_SCALED_BY" "[Ljava/math/BigDecimal;" (.ref za)) (D1 : Sta Z Z.heap "java/math/BigDecimal" "ZERO" "Ljava/math/BigDecimal;" (.ref ze0)) (D2 : Arv Z Z.heap za kz (.object "java/math/BigDecimal") (16 : Int32) ([(.ref ze0), (.ref ze1), (.ref ze2), (.ref ze3), (.ref ze4), (.ref ze5), (.ref ze6), (.ref ze7), (.ref ze8), (.ref ze9), (.ref ze10), (.ref ze11), (.ref ze12), (.ref ze13), (.ref ze14), (.ref ze15)]) .null) (D3 : Exa Z Z.heap ze0 "java/math/BigDecimal") (D4 : Fld Z Z.heap ze0 "java/math/BigDecimal" "scale" "I" (.int 0)) (D5 : Fld Z Z.heap ze0 "java/math/BigDecimal" "intCompact" "J" (.long (0 : Int64))) (D6 : Exa Z Z.heap ze2 "java/math/BigDecimal") (D7 : Fld Z Z.heap ze2 "java/math/BigDecimal" "scale" "I" (.int 2)) (D8 : Fld Z Z.heap ze2 "java/math/BigDecimal" "intCompact" "J" (.long (0 : Int64))) :
    MetFree l (⟨"java/math/BigDecimal", "setScale", "(II)Ljava/math/BigDecimal;"⟩ : MethodName) (head1 (Jvm.Cond.code (⟨"java/math/BigDecimal", "setScale", "(II)Ljava/math/BigDecimal;"⟩ : MethodName) jdk_17_method_64_code 8 (some (.object "java/math/BigDecimal")) :: ws) ({ frames := 2, cells := 0, slots := 0, locals := 25 } : Room)) (fun as' U => as' = #[(.ref ze0), (.int 2), (.int 7)] ∧ Z.Warmed39 U.vm ∧ U.heap = h0) (fun _ _ _ _ _ => True) (fun _ U o U' => ∃ v L, o = .returned v ∧ Q_rmSs2 Z ze0 ze1 ze2 ze3 ze4 ze5 ze6 ze7 ze8 ze9 ze10 ze11 ze12 ze13 ze14 ze15 za kz h0 n0 v U'.heap L ∧ FrameEnd U o U' L ({ frames := 2, cells := 0, slots := 0, locals := 25 } : Room).cells ({ frames := 2, cells := 0, slots := 0, locals := 25 } : Room).slots) := by
  refine MetFree.of_bodySF (plainFor_of_name pn_7) hisR ?_
  intro p e s m args below meth c s₁ Bd hml0 hP hK
  obtain ⟨rfl, hZ, hh⟩ := hP
  have hx := Bd.exec
  have hby := Bd.bytes
  have hml : c.maxLocals = 8 := hml0
  have hown : s.vm.findClass "java/math/BigDecimal" = some m.cls := findClass_of_methodNamed Bd.named
  have hnm := (name_of_methodNamed Bd.named Bd.method).1
  have X0 : Stand p l e ({ frames := 2, cells := 0, slots := 0, locals := 25 } : Room) s m #[(.ref ze0), (.int 2), (.int 7)] below meth c s₁ [] 0 0 := Stand.of_body Bd
  have e0 : s₁.heap = h0 := by rw [← hh, Bd.state]; rfl
  have N0 := Fr.nil n0
  refine Go.enter (F := EndN s (Q_rmSs2 Z ze0 ze1 ze2 ze3 ze4 ze5 ze6 ze7 ze8 ze9 ze10 ze11 ze12 ze13 ze14 ze15 za kz h0 n0) ({ frames := 2, cells := 0, slots := 0, locals := 25 } : Room).cells ({ frames := 2, cells := 0, slots := 0, locals := 25 } : Room).slots) (ef_83 m ze0 (2 : Int32) (7 : Int32)) ?_
  show Go _ _ _ _ s₁ (mkF m 0 #[rv ze0, iv 2, iv 7, un, un, un, un, un] [])
  refine Go.iload1 1 X0 hx (hb hby d8_0) rfl rfl ?_
  refine Go.ifN 4 X0 hx (hb hby d8_1) (XT.i0_lt_f (by decide)) rfl ?_
  refine Go.iload1 5 X0 hx (hb hby d8_4) rfl rfl ?_
  refine Go.bipush 7 X0 hx (7 : Int32) (hb hby d8_5) (by decide) rfl ?_
  refine Go.icmpY 21 X0 hx (hb hby d8_7) (XT.ii_le_t (by decide)) (by decide) (by decide) ?_
  refine Go.aload1 22 X0 hx (hb hby d8_21) rfl rfl rfl ?_
  have F1 : Fld Z h0 ze0 "java/math/BigDecimal" "scale" "I" (.int 0) := D4.ext O0.2
  obtain ⟨T2, X2, e2, st2⟩ := getF X0 hx hZ hown (host := "") (Or.inl (ow hw 25 rfl)) Via.refl e0 F1 (g := (mkF m 22 #[rv ze0, iv 2, iv 7, un, un, un, un, un] [(.ref ze0)])) rfl rfl (hb hby d8_22)
  refine Go.by st2 ?_
  show Go _ _ _ _ T2 (mkF m 25 #[rv ze0, iv 2, iv 7, un, un, un, un, un] [(.int 0)])
  refine Go.istore1 26 X2 hx (L' := #[rv ze0, iv 2, iv 7, iv 0, un, un, un, un]) (hb hby d8_25) rfl rfl ?_
  refine Go.iload1 27 X2 hx (hb hby d8_26) rfl rfl ?_
  refine Go.iload1 28 X2 hx (hb hby d8_27) rfl rfl ?_
  refine Go.icmpY 33 X2 hx (hb hby d8_28) (XT.ii_ne_t (by decide)) (by decide) (by decide) ?_
  refine Go.aload1 34 X2 hx (hb hby d8_33) rfl rfl rfl ?_
  have F3 : Fld Z h0 ze0 "java/math/BigDecimal" "intCompact" "J" (.long (0 : Int64)) := D5.ext O0.2
  have F5 : Exa Z h0 ze0 "java/math/BigDecimal" := D3.ext O0.2
  obtain ⟨cq4, kq4, q4a, q4b, q4c⟩ := isOf hZ e2 F5
  obtain ⟨_, _, ⟨T4, L4, k4, n4⟩, -, X4, ⟨Lc4, hQ4, l4, y4, z4⟩, st4⟩ := X2.virtualBack hx (y := (⟨"java/math/BigDecimal", "signum", "()I"⟩ : MethodName)) (z := (⟨"java/math/BigDecimal", "signum", "()I"⟩ : MethodName)) hown (mvT hZ (ow hw 51 rfl)) (mvT hZ (ow hw 52 rfl)) (notFace_of_selects (args := #[]) (mvT hZ (ow hw 54 rfl))) (mvT hZ (ow hw 54 rfl)) (mvT hZ (ow hw 53 rfl)) (by decide) (backOf (W := 0) (rmSig0 l Z a0 hw [] ze0 h0 n0 Z0 F3) hZ (ow hw 55 rfl) (ow hw 3 rfl) (by decide) (by decide)) q4a q4c (g := (mkF m 34 #[rv ze0, iv 2, iv 7, iv 0, un, un, un, un] [(.ref ze0)])) rfl (by rw [hml]; rfl) (Steps.refl _) (argsL := []) (rest := []) (lenOf pd_96 rfl) rfl (by show 2 * 0 + _ ≤ _; exact Nat.le_of_eq rfl) (hb hby d8_34) (fun _ _ => ⟨rfl, e2, (by decide : 0 + 0 ≤ _), (by decide : 0 + 0 ≤ _)⟩)
  dsimp only [Pt.U, Pt.locs, Pt.cells, Pt.slots] at X4 l4 y4 z4 st4 hQ4
  subst l4 y4 z4
  obtain ⟨rfl, N4q, e4⟩ := hQ4
  have N4 := Fr.app N0 N4q
  refine Go.to st4 ?_
  show Go _ _ _ _ T4 (mkF m 37 #[rv ze0, iv 2, iv 7, iv 0, un, un, un, un] [(.int 0)])
  refine Go.ifN 40 X4 hx (hb hby d8_37) (XT.i0_ne_f rfl) rfl ?_
  refine Go.iload1 41 X4 hx (hb hby d8_40) rfl rfl ?_
  obtain ⟨_, _, ⟨T6, L6, k6, n6⟩, -, X6, ⟨Lc6, hQ6, l6, y6, z6⟩, st6⟩ := Jvm.LawKit.callS X4 hx (y := (⟨"java/math/BigDecimal", "zeroValueOf", "(I)Ljava/math/BigDecimal;"⟩ : MethodName)) hown (mvT hZ (ow hw 5 rfl)) (mvT hZ (ow hw 6 rfl)) (mvT hZ (ow hw 3 rfl)) (mvT hZ (ow hw 7 rfl)) (by decide) (backOf (W := 0) (rmZero l Z a0 hw [] ze0 ze1 ze2 ze3 ze4 ze5 ze6 ze7 ze8 ze9 ze10 ze11 ze12 ze13 ze14 ze15 za kz h0 n0 Z0 O0 D0 D1 D2 D3 D4 D5 D6 D7 D8) hZ (ow hw 7 rfl) (ow hw 3 rfl) (by decide) (by decide)) (g := (mkF m 41 #[rv ze0, iv 2, iv 7, iv 0, un, un, un, un] [(.int 2)])) rfl (by rw [hml]; rfl) (argsL := [(.int 2)]) (rest := []) (lenOf pd_44 rfl) rfl (by show 2 * 0 + _ ≤ _; exact Nat.le_of_eq rfl) (hb hby d8_41) (fun _ _ => ⟨rfl, e4, (by decide : 0 + 0 ≤ _), (by decide : 0 + 0 ≤ _)⟩)
  dsimp only [Pt.U, Pt.locs, Pt.cells, Pt.slots] at X6 l6 y6 z6 st6 hQ6
  subst l6 y6 z6
  obtain ⟨rfl, N6q, e6⟩ := hQ6
  have N6 := Fr.app N4 N6q
  refine Go.by st6 ?_
  show Go _ _ _ _ T6 (mkF m 44 #[rv ze0, iv 2, iv 7, iv 0, un, un, un, un] [(.ref ze2)])
  exact Go.retA X6 hx Bd.notSynchronized Bd.returns rfl rfl (hb hby d8_44) (by rw [e6]; exact ⟨rfl, N6, rfl⟩) (by decide) (by decide)
theorem ef_102 (m : MethodId) (x0 : Addr) (x1 : Int32) : entryFrame m #[(.ref x0), (.int x1)] 2 = mkF m 0 #[rv x0, iv x1] [] := by (first | (simp [entryFrame, mkF, argsToLocals, Value.category]; done) | rfl)
theorem d7_0 : decode jdk_17_method_65_code 0 = .ok (.aload_n 0, 1) := by decide +kernel
theorem d7_1 : decode jdk_17_method_65_code 1 = .ok (.iload_n 1, 1) := by decide +kernel
theorem d7_2 : decode jdk_17_method_65_code 2 = .ok (.bipush 7, 2) := by decide +kernel
theorem pd_106 : parseMethodDescriptor "(II)Ljava/math/BigDecimal;" = some ⟨[.int, .int], some (.object "java/math/BigDecimal")⟩ := by decide +kernel
theorem d7_4 : decode jdk_17_method_65_code 4 = .ok (.invokevirtual 419, 3) := by decide +kernel
theorem d7_7 : decode jdk_17_method_65_code 7 = .ok (.areturn, 1) := by decide +kernel
def Q_rmSs1 (Z : State) (ze0 : Addr) (ze1 : Addr) (ze2 : Addr) (ze3 : Addr) (ze4 : Addr) (ze5 : Addr) (ze6 : Addr) (ze7 : Addr) (ze8 : Addr) (ze9 : Addr) (ze10 : Addr) (ze11 : Addr) (ze12 : Addr) (ze13 : Addr) (ze14 : Addr) (ze15 : Addr) (za : Addr) (kz : ClassId) (h0 : Heap) (n0 : Nat) (v : Option Value) (h : Heap) (L : List Loc) : Prop := v = some (.ref ze2) ∧ Fr n0 L ∧ h = h0
set_option maxRecDepth 65536 in
set_option maxHeartbeats 40000000 in
theorem rmSs1 (l : Launch) (Z : State) (a0 : Array Value) (hw : ∀ d ∈ tables_1, d.before a0 Z = true) (ws : List Jvm.Cond) (ze0 : Addr) (ze1 : Addr) (ze2 : Addr) (ze3 : Addr) (ze4 : Addr) (ze5 : Addr) (ze6 : Addr) (ze7 : Addr) (ze8 : Addr) (ze9 : Addr) (ze10 : Addr) (ze11 : Addr) (ze12 : Addr) (ze13 : Addr) (ze14 : Addr) (ze15 : Addr) (za : Addr) (kz : ClassId) (h0 : Heap) (n0 : Nat) (Z0 : n0 ≤ h0.size) (O0 : Old Z n0 h0) (D0 : Sta Z Z.heap "java/math/BigDecimal" "ZERO_SCALED_BY" "[Ljava/math/BigDecimal;" (.ref za)) (D1 : Sta Z Z.heap "java/math/BigDecimal" "ZERO" "Ljava/math/BigDecimal;" (.ref ze0)) (D2 : Arv Z Z.heap za kz (.object "java/math/BigDecimal") (16 : Int32) ([(.ref ze0), (.ref ze1), (.ref ze2), (.ref ze3), (.ref ze4), (.ref ze5), (.ref ze6), (.ref ze7), (.ref ze8), (.ref ze9), (.ref ze10), (.ref ze11), (.ref ze12), (.ref ze13), (.ref ze14), (.ref ze15)]) .null) (D3 : Exa Z Z.heap ze0 "java/math/BigDecimal") (D4 : Fld Z Z.heap ze0 "java/math/BigDecimal" "scale" "I" (.int 0)) (D5 : Fld Z Z.heap ze0 "java/math/BigDecimal" "intCompact" "J" (.long (0 : Int64))) (D6 : Exa Z Z.heap ze2 "java/math/BigDecimal") (D7 : Fld Z Z.heap ze2 "java/math/BigDecimal" "scale" "I" (.int 2)) (D8 : Fld Z Z.heap ze2 "java/math/BigDecimal" "intCompact" "J" (.long (0 : Int64))) :
    MetFree l (⟨"java/math/BigDecimal", "setScale", "(I)Ljava/math/BigDecimal;"⟩ : MethodName) (head1 (Jvm.Cond.code (⟨"java/math/BigDecimal", "setScale", "(I)Ljava/math/BigDecimal;"⟩ : MethodName) jdk_17_method_65_code 2 (some (.object "java/math/BigDecimal")) :: ws) ({ frames := 3, cells := 0, slots := 0, locals := 44 } : Room)) (fun as' U => as' = #[(.ref ze0), (.int 2)] ∧ Z.Warmed39 U.vm ∧ U.heap = h0) (fun _ _ _ _ _ => True) (fun _ U o U' => ∃ v L, o = .returned v ∧ Q_rmSs1 Z ze0 ze1 ze2 ze3 ze4 ze5 ze6 ze7 ze8 ze9 ze10 ze11 ze12 ze13 ze14 ze15 za kz h0 n0 v U'.heap L ∧ FrameEnd U o U' L ({ frames := 3, cells := 0, slots := 0, locals := 44 } : Room).cells ({ frames := 3, cells := 0, slots := 0, locals := 44 } : Room).slots) := by
  refine MetFree.of_bodySF (plainFor_of_name pn_7) hisR ?_
  intro p e s m args below meth c s₁ Bd hml0 hP hK
  obtain ⟨rfl, hZ, hh⟩ := hP
  have hx := Bd.exec
  have hby := Bd.bytes
  have hml : c.maxLocals = 2 := hml0
  have hown : s.vm.findClass "java/math/BigDecimal" = some m.cls := findClass_of_methodNamed Bd.named
  have hnm := (name_of_methodNamed Bd.named Bd.method).1
  have X0 : Stand p l e ({ frames := 3, cells := 0, slots := 0, locals := 44 } : Room) s m #[(.ref ze0), (.int 2)] below meth c s₁ [] 0 0 := Stand.of_body Bd
  have e0 : s₁.heap = h0 := by rw [← hh, Bd.state]; rfl
  have N0 := Fr.nil n0
  refine Go.enter (F := EndN s (Q_rmSs1 Z ze0 ze1 ze2 ze3 ze4 ze5 ze6 ze7 ze8 ze9 ze10 ze11 ze12 ze13 ze14 ze15 za kz h0 n0) ({ frames := 3, cells := 0, slots := 0, locals := 44 } : Room).cells ({ frames := 3, cells := 0, slots := 0, locals := 44 } : Room).slots) (ef_102 m ze0 (2 : Int32)) ?_
  show Go _ _ _ _ s₁ (mkF m 0 #[rv ze0, iv 2] [])
  refine Go.aload1 1 X0 hx (hb hby d7_0) rfl rfl rfl ?_
  refine Go.iload1 2 X0 hx (hb hby d7_1) rfl rfl ?_
  refine Go.bipush 4 X0 hx (7 : Int32) (hb hby d7_2) (by decide) rfl ?_
  have F2 : Exa Z h0 ze0 "java/math/BigDecimal" := D3.ext O0.2
  obtain ⟨cq1, kq1, q1a, q1b, q1c⟩ := isOf hZ e0 F2
  obtain ⟨_, _, ⟨T1, L1, k1, n1⟩, -, X1, ⟨Lc1, hQ1, l1, y1, z1⟩, st1⟩ := X0.virtualBack hx (y := (⟨"java/math/BigDecimal", "setScale", "(II)Ljava/math/BigDecimal;"⟩ : MethodName)) (z := (⟨"java/math/BigDecimal", "setScale", "(II)Ljava/math/BigDecimal;"⟩ : MethodName)) hown (mvT hZ (ow hw 46 rfl)) (mvT hZ (ow hw 47 rfl)) (notFace_of_selects (args := #[]) (mvT hZ (ow hw 49 rfl))) (mvT hZ (ow hw 49 rfl)) (mvT hZ (ow hw 48 rfl)) (by decide) (backOf (W := 0) (rmSs2 l Z a0 hw [] ze0 ze1 ze2 ze3 ze4 ze5 ze6 ze7 ze8 ze9 ze10 ze11 ze12 ze13 ze14 ze15 za kz h0 n0 Z0 O0 D0 D1 D2 D3 D4 D5 D6 D7 D8) hZ (ow hw 50 rfl) (ow hw 3 rfl) (by decide) (by decide)) q1a q1c (g := (mkF m 4 #[rv ze0, iv 2] [(.int 7), (.int 2), (.ref ze0)])) rfl (by rw [hml]; rfl) (Steps.refl _) (argsL := [(.int 2), (.int 7)]) (rest := []) (lenOf pd_106 rfl) rfl (by show 2 * 0 + _ ≤ _; exact Nat.le_of_eq rfl) (hb hby d7_4) (fun _ _ => ⟨rfl, e0, (by decide : 0 + 0 ≤ _), (by decide : 0 + 0 ≤ _)⟩)
  dsimp only [Pt.U, Pt.locs, Pt.cells, Pt.slots] at X1 l1 y1 z1 st1 hQ1
  subst l1 y1 z1
  obtain ⟨rfl, N1q, e1⟩ := hQ1
  have N1 := Fr.app N0 N1q
  refine Go.to st1 ?_
  show Go _ _ _ _ T1 (mkF m 7 #[rv ze0, iv 2] [(.ref ze2)])
  exact Go.retA X1 hx Bd.notSynchronized Bd.returns rfl rfl (hb hby d7_7) (by rw [e1]; exact ⟨rfl, N1, rfl⟩) (by decide) (by decide)
theorem ef_109 (m : MethodId) (x0 : Int64) (x1 : Int64) : entryFrame m #[(.long x0), (.long x1)] 6 = mkF m 0 #[.val (.long x0), .second, .val (.long x1), .second, un, un] [] := by (first | (simp [entryFrame, mkF, argsToLocals, Value.category]; done) | rfl)
theorem d22_0 : decode jdk_17_method_132_code 0 = .ok (.lload_n 0, 1) := by decide +kernel
theorem d22_1 : decode jdk_17_method_132_code 1 = .ok (.lload_n 2, 1) := by decide +kernel
theorem d22_2 : decode jdk_17_method_132_code 2 = .ok (.ladd, 1) := by decide +kernel
theorem d22_3 : decode jdk_17_method_132_code 3 = .ok (.lstore 4, 2) := by decide +kernel
theorem d22_5 : decode jdk_17_method_132_code 5 = .ok (.lload 4, 2) := by decide +kernel
theorem d22_7 : decode jdk_17_method_132_code 7 = .ok (.lload_n 0, 1) := by decide +kernel
theorem d22_8 : decode jdk_17_method_132_code 8 = .ok (.lxor, 1) := by decide +kernel
theorem d22_9 : decode jdk_17_method_132_code 9 = .ok (.lload 4, 2) := by decide +kernel
theorem d22_11 : decode jdk_17_method_132_code 11 = .ok (.lload_n 2, 1) := by decide +kernel
theorem d22_12 : decode jdk_17_method_132_code 12 = .ok (.lxor, 1) := by decide +kernel
theorem d22_13 : decode jdk_17_method_132_code 13 = .ok (.land, 1) := by decide +kernel
theorem d22_14 : decode jdk_17_method_132_code 14 = .ok (.lconst 0, 1) := by decide +kernel
theorem d22_15 : decode jdk_17_method_132_code 15 = .ok (.lcmp, 1) := by decide +kernel
theorem d22_16 : decode jdk_17_method_132_code 16 = .ok (.ifCond .lt 6, 3) := by decide +kernel
theorem d22_19 : decode jdk_17_method_132_code 19 = .ok (.lload 4, 2) := by decide +kernel
theorem d22_21 : decode jdk_17_method_132_code 21 = .ok (.lreturn, 1) := by decide +kernel
def Q_rmAjj (Z : State) (x : Int64) (y : Int64) (h0 : Heap) (n0 : Nat) (v : Option Value) (h : Heap) (L : List Loc) : Prop := v = some (.long (x + y)) ∧ Fr n0 L ∧ h = h0
set_option maxRecDepth 65536 in
set_option maxHeartbeats 40000000 in
theorem rmAjj (l : Launch) (Z : State) (a0 : Array Value) (hw : ∀ d ∈ tables_1, d.before a0 Z = true) (ws : List Jvm.Cond) (x : Int64) (y : Int64) (h0 : Heap) (n0 : Nat) (Z0 : n0 ≤ h0.size) (hx1 : (own_bd x)) (hy1 : (own_bd y)) :
    MetFree l (⟨"java/math/BigDecimal", "add", "(JJ)J"⟩ : MethodName) (head1 (Jvm.Cond.code (⟨"java/math/BigDecimal", "add", "(JJ)J"⟩ : MethodName) jdk_17_method_132_code 6 (some .long) :: ws) ({ frames := 0, cells := 0, slots := 0, locals := 0 } : Room)) (fun as' U => as' = #[(.long x), (.long y)] ∧ Z.Warmed39 U.vm ∧ U.heap = h0) (fun _ _ _ _ _ => True) (fun _ U o U' => ∃ v L, o = .returned v ∧ Q_rmAjj Z x y h0 n0 v U'.heap L ∧ FrameEnd U o U' L ({ frames := 0, cells := 0, slots := 0, locals := 0 } : Room).cells ({ frames := 0, cells := 0, slots := 0, locals := 0 } : Room).slots) := by
  refine MetFree.of_bodySF (plainFor_of_name pn_7) hisR ?_
  intro p e s m args below meth c s₁ Bd hml0 hP hK
  obtain ⟨rfl, hZ, hh⟩ := hP
  have hx := Bd.exec
  have hby := Bd.bytes
  have hml : c.maxLocals = 6 := hml0
  have hown : s.vm.findClass "java/math/BigDecimal" = some m.cls := findClass_of_methodNamed Bd.named
  have hnm := (name_of_methodNamed Bd.named Bd.method).1
  have X0 : Stand p l e ({ frames := 0, cells := 0, slots := 0, locals := 0 } : Room) s m #[(.long x), (.long y)] below meth c s₁ [] 0 0 := Stand.of_body Bd
  have e0 : s₁.heap = h0 := by rw [← hh, Bd.state]; rfl
  have N0 := Fr.nil n0
  refine Go.enter (F := EndN s (Q_rmAjj Z x y h0 n0) ({ frames := 0, cells := 0, slots := 0, locals := 0 } : Room).cells ({ frames := 0, cells := 0, slots := 0, locals := 0 } : Room).slots) (ef_109 m x y) ?_
  show Go _ _ _ _ s₁ (mkF m 0 #[.val (.long x), .second, .val (.long y), .second, un, un] [])
  refine Go.lload1 1 X0 hx (hb hby d22_0) rfl rfl ?_
  refine Go.lload1 2 X0 hx (hb hby d22_1) rfl rfl ?_
  refine Go.ladd 3 X0 hx (hb hby d22_2) rfl ?_
  refine Go.lstore2 5 X0 hx (L' := #[.val (.long x), .second, .val (.long y), .second, .val (.long (x + y)), .second]) (hb hby d22_3) rfl rfl ?_
  refine Go.lload2 7 X0 hx (hb hby d22_5) rfl rfl ?_
  refine Go.lload1 8 X0 hx (hb hby d22_7) rfl rfl ?_
  refine Go.lxor 9 X0 hx (hb hby d22_8) rfl ?_
  refine Go.lload2 11 X0 hx (hb hby d22_9) rfl rfl ?_
  refine Go.lload1 12 X0 hx (hb hby d22_11) rfl rfl ?_
  refine Go.lxor 13 X0 hx (hb hby d22_12) rfl ?_
  refine Go.land 14 X0 hx (hb hby d22_13) rfl ?_
  refine Go.lconst 15 X0 hx (0 : Int64) (hb hby d22_14) (by decide) rfl ?_
  refine Go.lcmp 16 X0 hx (hb hby d22_15) rfl ?_
  refine Go.ifN 19 X0 hx (hb hby d22_16) (XT.ll_lt_f (own_nov hx1 hy1)) rfl ?_
  refine Go.lload2 21 X0 hx (hb hby d22_19) rfl rfl ?_
  exact Go.retJ X0 hx Bd.notSynchronized Bd.returns (hb hby d22_21) (by rw [e0]; exact ⟨rfl, N0, rfl⟩) (by decide) (by decide)
theorem ef_126 (m : MethodId) (x0 : Int64) (x1 : Int64) (x2 : Int32) : entryFrame m #[(.long x0), (.long x1), (.int x2)] 7 = mkF m 0 #[.val (.long x0), .second, .val (.long x1), .second, iv x2, un, un] [] := by (first | (simp [entryFrame, mkF, argsToLocals, Value.category]; done) | rfl)
theorem d21_0 : decode jdk_17_method_133_code 0 = .ok (.lload_n 0, 1) := by decide +kernel
theorem d21_1 : decode jdk_17_method_133_code 1 = .ok (.lload_n 2, 1) := by decide +kernel
theorem pd_129 : parseMethodDescriptor "(JJ)J" = some ⟨[.long, .long], some .long⟩ := by decide +kernel
theorem d21_2 : decode jdk_17_method_133_code 2 = .ok (.invokestatic 996, 3) := by decide +kernel
theorem d21_5 : decode jdk_17_method_133_code 5 = .ok (.lstore 5, 2) := by decide +kernel
theorem d21_7 : decode jdk_17_method_133_code 7 = .ok (.lload 5, 2) := by decide +kernel
theorem d21_9 : decode jdk_17_method_133_code 9 = .ok (.ldc2_w 125, 3) := by decide +kernel
theorem d21_12 : decode jdk_17_method_133_code 12 = .ok (.lcmp, 1) := by decide +kernel
theorem d21_13 : decode jdk_17_method_133_code 13 = .ok (.ifCond .eq 11, 3) := by decide +kernel
theorem d21_16 : decode jdk_17_method_133_code 16 = .ok (.lload 5, 2) := by decide +kernel
theorem d21_18 : decode jdk_17_method_133_code 18 = .ok (.iload 4, 2) := by decide +kernel
theorem pd_138 : parseMethodDescriptor "(JI)Ljava/math/BigDecimal;" = some ⟨[.long, .int], some (.object "java/math/BigDecimal")⟩ := by decide +kernel
theorem d21_20 : decode jdk_17_method_133_code 20 = .ok (.invokestatic 328, 3) := by decide +kernel
theorem d21_23 : decode jdk_17_method_133_code 23 = .ok (.areturn, 1) := by decide +kernel
def Q_rmAjji (Z : State) (x : Int64) (y : Int64) (ze0 : Addr) (ze1 : Addr) (ze2 : Addr) (ze3 : Addr) (ze4 : Addr) (ze5 : Addr) (ze6 : Addr) (ze7 : Addr) (ze8 : Addr) (ze9 : Addr) (ze10 : Addr) (ze11 : Addr) (ze12 : Addr) (ze13 : Addr) (ze14 : Addr) (ze15 : Addr) (za : Addr) (kz : ClassId) (h0 : Heap) (n0 : Nat) (v : Option Value) (h : Heap) (L : List Loc) : Prop := ∃ b : Addr, v = some (.ref b) ∧ Fr n0 L ∧ Keep h0 h [] ∧ Exa Z h b "java/math/BigDecimal" ∧ Fld Z h b "java/math/BigDecimal" "scale" "I" (.int 2) ∧ Fld Z h b "java/math/BigDecimal" "intCompact" "J" (.long (x + y))
set_option maxRecDepth 65536 in
set_option maxHeartbeats 40000000 in
theorem rmAjji (l : Launch) (Z : State) (a0 : Array Value) (hw : ∀ d ∈ tables_1, d.before a0 Z = true) (ws : List Jvm.Cond) (x : Int64) (y : Int64) (ze0 : Addr) (ze1 : Addr) (ze2 : Addr) (ze3 : Addr) (ze4 : Addr) (ze5 : Addr) (ze6 : Addr) (ze7 : Addr) (ze8 : Addr) (ze9 : Addr) (ze10 : Addr) (ze11 : Addr) (ze12 : Addr) (ze13 : Addr) (ze14 : Addr) (ze15 : Addr) (za : Addr) (kz : ClassId) (h0 : Heap) (n0 : Nat) (Z0 : n0 ≤ h0.size) (O0 : Old Z n0 h0) (hx1 : (own_bd x)) (hy1 : (own_bd y)) (D0 : Sta Z Z.heap "java/math/BigDecimal" "ZERO_SCALED_BY" "[Ljava/math/BigDecimal;" (.ref za)) (D1 : Sta Z Z.heap "java/math/BigDecimal" "ZERO" "Ljava/math/BigDecimal;" (.ref ze0)) (D2 : Arv Z Z.heap za kz (.object "java/math/BigDecimal") (16 : Int32) ([(.ref ze0), (.ref ze1), (.ref ze2), (.ref ze3), (.ref ze4), (.ref ze5), (.ref ze6), (.ref ze7), (.ref ze8), (.ref ze9), (.ref ze10), (.ref ze11), (.ref ze12), (.ref ze13), (.ref ze14), (.ref ze15)]) .null) (D3 : Exa Z Z.heap ze0 "java/math/BigDecimal") (D4 : Fld Z Z.heap ze0 "java/math/BigDecimal" "scale" "I" (.int 0)) (D5 : Fld Z Z.heap ze0 "java/math/BigDecimal" "intCompact" "J" (.long (0 : Int64))) (D6 : Exa Z Z.heap ze2 "java/math/BigDecimal") (D7 : Fld Z Z.heap ze2 "java/math/BigDecimal" "scale" "I" (.int 2)) (D8 : Fld Z Z.heap ze2 "java/math/BigDecimal" "intCompact" "J" (.long (0 : Int64))) :
    MetFree l (⟨"java/math/BigDecimal", "add", "(JJI)Ljava/math/BigDecimal;"⟩ : MethodName) (head1 (Jvm.Cond.code (⟨"java/math/BigDecimal", "add", "(JJI)Ljava/math/BigDecimal;"⟩ : MethodName) jdk_17_method_133_code 7 (some (.object "java/math/BigDecimal")) :: ws) ({ frames := 4, cells := 1, slots := 5, locals := 56 } : Room)) (fun as' U => as' = #[(.long x), (.long y), (.int 2)] ∧ Z.Warmed39 U.vm ∧ U.heap = h0) (fun _ _ _ _ _ => True) (fun _ U o U' => ∃ v L, o = .returned v ∧ Q_rmAjji Z x y ze0 ze1 ze2 ze3 ze4 ze5 ze6 ze7 ze8 ze9 ze10 ze11 ze12 ze13 ze14 ze15 za kz h0 n0 v U'.heap L ∧ FrameEnd U o U' L ({ frames := 4, cells := 1, slots := 5, locals := 56 } : Room).cells ({ frames := 4, cells := 1, slots := 5, locals := 56 } : Room).slots) := by
  refine MetFree.of_bodySF (plainFor_of_name pn_7) hisR ?_
  intro p e s m args below meth c s₁ Bd hml0 hP hK
  obtain ⟨rfl, hZ, hh⟩ := hP
  have hx := Bd.exec
  have hby := Bd.bytes
  have hml : c.maxLocals = 7 := hml0
  have hown : s.vm.findClass "java/math/BigDecimal" = some m.cls := findClass_of_methodNamed Bd.named
  have hnm := (name_of_methodNamed Bd.named Bd.method).1
  have X0 : Stand p l e ({ frames := 4, cells := 1, slots := 5, locals := 56 } : Room) s m #[(.long x), (.long y), (.int 2)] below meth c s₁ [] 0 0 := Stand.of_body Bd
  have e0 : s₁.heap = h0 := by rw [← hh, Bd.state]; rfl
  have N0 := Fr.nil n0
  refine Go.enter (F := EndN s (Q_rmAjji Z x y ze0 ze1 ze2 ze3 ze4 ze5 ze6 ze7 ze8 ze9 ze10 ze11 ze12 ze13 ze14 ze15 za kz h0 n0) ({ frames := 4, cells := 1, slots := 5, locals := 56 } : Room).cells ({ frames := 4, cells := 1, slots := 5, locals := 56 } : Room).slots) (ef_126 m x y (2 : Int32)) ?_
  show Go _ _ _ _ s₁ (mkF m 0 #[.val (.long x), .second, .val (.long y), .second, iv 2, un, un] [])
  refine Go.lload1 1 X0 hx (hb hby d21_0) rfl rfl ?_
  refine Go.lload1 2 X0 hx (hb hby d21_1) rfl rfl ?_
  obtain ⟨_, _, ⟨T1, L1, k1, n1⟩, -, X1, ⟨Lc1, hQ1, l1, y1, z1⟩, st1⟩ := Jvm.LawKit.callS X0 hx (y := (⟨"java/math/BigDecimal", "add", "(JJ)J"⟩ : MethodName)) hown (mvT hZ (ow hw 123 rfl)) (mvT hZ (ow hw 124 rfl)) (mvT hZ (ow hw 3 rfl)) (mvT hZ (ow hw 125 rfl)) (by decide) (backOf (W := 0) (rmAjj l Z a0 hw [] x y h0 n0 Z0 hx1 hy1) hZ (ow hw 125 rfl) (ow hw 3 rfl) (by decide) (by decide)) (g := (mkF m 2 #[.val (.long x), .second, .val (.long y), .second, iv 2, un, un] [(.long y), (.long x)])) rfl (by rw [hml]; rfl) (argsL := [(.long x), (.long y)]) (rest := []) (lenOf pd_129 rfl) rfl (by show 2 * 0 + _ ≤ _; exact Nat.le_of_eq rfl) (hb hby d21_2) (fun _ _ => ⟨rfl, e0, (by decide : 0 + 0 ≤ _), (by decide : 0 + 0 ≤ _)⟩)
  dsimp only [Pt.U, Pt.locs, Pt.cells, Pt.slots] at X1 l1 y1 z1 st1 hQ1
  subst l1 y1 z1
  obtain ⟨rfl, N1q, e1⟩ := hQ1
  have N1 := Fr.app N0 N1q
  refine Go.by st1 ?_
  show Go _ _ _ _ T1 (mkF m 5 #[.val (.long x), .second, .val (.long y), .second, iv 2, un, un] [(.long (x + y))])
  refine Go.lstore2 7 X1 hx (L' := #[.val (.long x), .second, .val (.long y), .second, iv 2, .val (.long (x + y)), .second]) (hb hby d21_5) rfl rfl ?_
  refine Go.lload2 9 X1 hx (hb hby d21_7) rfl rfl ?_
  refine Go.by (fun _ gk => X1.ldc2J hx hown (mvT hZ (ow hw 11 rfl)) (g := (mkF m 9 #[.val (.long x), .second, .val (.long y), .second, iv 2, .val (.long (x + y)), .second] [(.long (x + y))])) rfl (hb hby d21_9) gk) ?_
  show Go _ _ _ _ T1 (mkF m 12 #[.val (.long x), .second, .val (.long y), .second, iv 2, .val (.long (x + y)), .second] [(.long (-9223372036854775808 : Int64)), (.long (x + y))])
  refine Go.lcmp 13 X1 hx (hb hby d21_12) rfl ?_
  refine Go.ifN 16 X1 hx (hb hby d21_13) (XT.ll_eq_f (own_minS hx1 hy1)) rfl ?_
  refine Go.lload2 18 X1 hx (hb hby d21_16) rfl rfl ?_
  refine Go.iload2 20 X1 hx (hb hby d21_18) rfl rfl ?_
  obtain ⟨_, _, ⟨T2, L2, k2, n2⟩, -, X2, ⟨Lc2, hQ2, l2, y2, z2⟩, st2⟩ := Jvm.LawKit.callS X1 hx (y := (⟨"java/math/BigDecimal", "valueOf", "(JI)Ljava/math/BigDecimal;"⟩ : MethodName)) hown (mvT hZ (ow hw 126 rfl)) (mvT hZ (ow hw 2 rfl)) (mvT hZ (ow hw 3 rfl)) (mvT hZ (ow hw 4 rfl)) (by decide) (backOf (W := 0) (rmVal l Z a0 hw [] (x + y) ze0 ze1 ze2 ze3 ze4 ze5 ze6 ze7 ze8 ze9 ze10 ze11 ze12 ze13 ze14 ze15 za kz h0 n0 Z0 O0 (own_minS hx1 hy1) D0 D1 D2 D3 D4 D5 D6 D7 D8) hZ (ow hw 4 rfl) (ow hw 3 rfl) (by decide) (by decide)) (g := (mkF m 20 #[.val (.long x), .second, .val (.long y), .second, iv 2, .val (.long (x + y)), .second] [(.int 2), (.long (x + y))])) rfl (by rw [hml]; rfl) (argsL := [(.long (x + y)), (.int 2)]) (rest := []) (lenOf pd_138 rfl) rfl (by show 2 * 0 + _ ≤ _; exact Nat.le_of_eq rfl) (hb hby d21_20) (fun _ _ => ⟨rfl, e1, (by decide : 0 + 1 ≤ _), (by decide : 0 + 5 ≤ _)⟩)
  dsimp only [Pt.U, Pt.locs, Pt.cells, Pt.slots] at X2 l2 y2 z2 st2 hQ2
  subst l2 y2 z2
  obtain ⟨b, rfl, N2q, K2, Q2_0, Q2_1, Q2_2⟩ := hQ2
  have N2 := Fr.app N1 N2q
  refine Go.by st2 ?_
  show Go _ _ _ _ T2 (mkF m 23 #[.val (.long x), .second, .val (.long y), .second, iv 2, .val (.long (x + y)), .second] [(.ref b)])
  have F3 : Keep h0 T2.heap [] := (Keep.refl h0 []).trans K2 all0
  exact Go.retA X2 hx Bd.notSynchronized Bd.returns rfl rfl (hb hby d21_23) ⟨b, rfl, N2, F3, Q2_0, Q2_1, Q2_2⟩ (by decide) (by decide)
theorem ef_141 (m : MethodId) (x0 : Int64) (x1 : Int32) (x2 : Int64) (x3 : Int32) : entryFrame m #[(.long x0), (.int x1), (.long x2), (.int x3)] 12 = mkF m 0 #[.val (.long x0), .second, iv x1, .val (.long x2), .second, iv x3, un, un, un, un, un, un] [] := by (first | (simp [entryFrame, mkF, argsToLocals, Value.category]; done) | rfl)
theorem d20_0 : decode jdk_17_method_134_code 0 = .ok (.iload_n 2, 1) := by decide +kernel
theorem d20_1 : decode jdk_17_method_134_code 1 = .ok (.i2l, 1) := by decide +kernel
theorem d20_2 : decode jdk_17_method_134_code 2 = .ok (.iload 5, 2) := by decide +kernel
theorem d20_4 : decode jdk_17_method_134_code 4 = .ok (.i2l, 1) := by decide +kernel
theorem d20_5 : decode jdk_17_method_134_code 5 = .ok (.lsub, 1) := by decide +kernel
theorem d20_6 : decode jdk_17_method_134_code 6 = .ok (.lstore 6, 2) := by decide +kernel
theorem d20_8 : decode jdk_17_method_134_code 8 = .ok (.lload 6, 2) := by decide +kernel
theorem d20_10 : decode jdk_17_method_134_code 10 = .ok (.lconst 0, 1) := by decide +kernel
theorem d20_11 : decode jdk_17_method_134_code 11 = .ok (.lcmp, 1) := by decide +kernel
theorem d20_12 : decode jdk_17_method_134_code 12 = .ok (.ifCond .ne 10, 3) := by decide +kernel
theorem d20_15 : decode jdk_17_method_134_code 15 = .ok (.lload_n 0, 1) := by decide +kernel
theorem d20_16 : decode jdk_17_method_134_code 16 = .ok (.lload_n 3, 1) := by decide +kernel
theorem d20_17 : decode jdk_17_method_134_code 17 = .ok (.iload_n 2, 1) := by decide +kernel
theorem pd_155 : parseMethodDescriptor "(JJI)Ljava/math/BigDecimal;" = some ⟨[.long, .long, .int], some (.object "java/math/BigDecimal")⟩ := by decide +kernel
theorem d20_18 : decode jdk_17_method_134_code 18 = .ok (.invokestatic 1000, 3) := by decide +kernel
theorem d20_21 : decode jdk_17_method_134_code 21 = .ok (.areturn, 1) := by decide +kernel
def Q_rmAjiji (Z : State) (x : Int64) (y : Int64) (ze0 : Addr) (ze1 : Addr) (ze2 : Addr) (ze3 : Addr) (ze4 : Addr) (ze5 : Addr) (ze6 : Addr) (ze7 : Addr) (ze8 : Addr) (ze9 : Addr) (ze10 : Addr) (ze11 : Addr) (ze12 : Addr) (ze13 : Addr) (ze14 : Addr) (ze15 : Addr) (za : Addr) (kz : ClassId) (h0 : Heap) (n0 : Nat) (v : Option Value) (h : Heap) (L : List Loc) : Prop := ∃ b : Addr, v = some (.ref b) ∧ Fr n0 L ∧ Keep h0 h [] ∧ Exa Z h b "java/math/BigDecimal" ∧ Fld Z h b "java/math/BigDecimal" "scale" "I" (.int 2) ∧ Fld Z h b "java/math/BigDecimal" "intCompact" "J" (.long (x + y))
set_option maxRecDepth 65536 in
set_option maxHeartbeats 40000000 in
theorem rmAjiji (l : Launch) (Z : State) (a0 : Array Value) (hw : ∀ d ∈ tables_1, d.before a0 Z = true) (ws : List Jvm.Cond) (x : Int64) (y : Int64) (ze0 : Addr) (ze1 : Addr) (ze2 : Addr) (ze3 : Addr) (ze4 : Addr) (ze5 : Addr) (ze6 : Addr) (ze7 : Addr) (ze8 : Addr) (ze9 : Addr) (ze10 : Addr) (ze11 : Addr) (ze12 : Addr) (ze13 : Addr) (ze14 : Addr) (ze15 : Addr) (za : Addr) (kz : ClassId) (h0 : Heap) (n0 : Nat) (Z0 : n0 ≤ h0.size) (O0 : Old Z n0 h0) (hx1 : (own_bd x)) (hy1 : (own_bd y)) (D0 : Sta Z Z.heap "java/math/BigDecimal" "ZERO_SCALED_BY" "[Ljava/math/BigDecimal;" (.ref za)) (D1 : Sta Z Z.heap "java/math/BigDecimal" "ZERO" "Ljava/math/BigDecimal;" (.ref ze0)) (D2 : Arv Z Z.heap za kz (.object "java/math/BigDecimal") (16 : Int32) ([(.ref ze0), (.ref ze1), (.ref ze2), (.ref ze3), (.ref ze4), (.ref ze5), (.ref ze6), (.ref ze7), (.ref ze8), (.ref ze9), (.ref ze10), (.ref ze11), (.ref ze12), (.ref ze13), (.ref ze14), (.ref ze15)]) .null) (D3 : Exa Z Z.heap ze0 "java/math/BigDecimal") (D4 : Fld Z Z.heap ze0 "java/math/BigDecimal" "scale" "I" (.int 0)) (D5 : Fld Z Z.heap ze0 "java/math/BigDecimal" "intCompact" "J" (.long (0 : Int64))) (D6 : Exa Z Z.heap ze2 "java/math/BigDecimal") (D7 : Fld Z Z.heap ze2 "java/math/BigDecimal" "scale" "I" (.int 2)) (D8 : Fld Z Z.heap ze2 "java/math/BigDecimal" "intCompact" "J" (.long (0 : Int64))) :
    MetFree l (⟨"java/math/BigDecimal", "add", "(JIJI)Ljava/math/BigDecimal;"⟩ : MethodName) (head1 (Jvm.Cond.code (⟨"java/math/BigDecimal", "add", "(JIJI)Ljava/math/BigDecimal;"⟩ : MethodName) jdk_17_method_134_code 12 (some (.object "java/math/BigDecimal")) :: ws) ({ frames := 5, cells := 1, slots := 5, locals := 74 } : Room)) (fun as' U => as' = #[(.long x), (.int 2), (.long y), (.int 2)] ∧ Z.Warmed39 U.vm ∧ U.heap = h0) (fun _ _ _ _ _ => True) (fun _ U o U' => ∃ v L, o = .returned v ∧ Q_rmAjiji Z x y ze0 ze1 ze2 ze3 ze4 ze5 ze6 ze7 ze8 ze9 ze10 ze11 ze12 ze13 ze14 ze15 za kz h0 n0 v U'.heap L ∧ FrameEnd U o U' L ({ frames := 5, cells := 1, slots := 5, locals := 74 } : Room).cells ({ frames := 5, cells := 1, slots := 5, locals := 74 } : Room).slots) := by
  refine MetFree.of_bodySF (plainFor_of_name pn_7) hisR ?_
  intro p e s m args below meth c s₁ Bd hml0 hP hK
  obtain ⟨rfl, hZ, hh⟩ := hP
  have hx := Bd.exec
  have hby := Bd.bytes
  have hml : c.maxLocals = 12 := hml0
  have hown : s.vm.findClass "java/math/BigDecimal" = some m.cls := findClass_of_methodNamed Bd.named
  have hnm := (name_of_methodNamed Bd.named Bd.method).1
  have X0 : Stand p l e ({ frames := 5, cells := 1, slots := 5, locals := 74 } : Room) s m #[(.long x), (.int 2), (.long y), (.int 2)] below meth c s₁ [] 0 0 := Stand.of_body Bd
  have e0 : s₁.heap = h0 := by rw [← hh, Bd.state]; rfl
  have N0 := Fr.nil n0
  refine Go.enter (F := EndN s (Q_rmAjiji Z x y ze0 ze1 ze2 ze3 ze4 ze5 ze6 ze7 ze8 ze9 ze10 ze11 ze12 ze13 ze14 ze15 za kz h0 n0) ({ frames := 5, cells := 1, slots := 5, locals := 74 } : Room).cells ({ frames := 5, cells := 1, slots := 5, locals := 74 } : Room).slots) (ef_141 m x (2 : Int32) y (2 : Int32)) ?_
  show Go _ _ _ _ s₁ (mkF m 0 #[.val (.long x), .second, iv 2, .val (.long y), .second, iv 2, un, un, un, un, un, un] [])
  refine Go.iload1 1 X0 hx (hb hby d20_0) rfl rfl ?_
  refine Go.i2l 2 X0 hx (hb hby d20_1) rfl ?_
  refine Go.iload2 4 X0 hx (hb hby d20_2) rfl rfl ?_
  refine Go.i2l 5 X0 hx (hb hby d20_4) rfl ?_
  refine Go.lsub 6 X0 hx (hb hby d20_5) rfl ?_
  refine Go.lstore2 8 X0 hx (L' := #[.val (.long x), .second, iv 2, .val (.long y), .second, iv 2, .val (.long (((2 : Int32).toInt64) - ((2 : Int32).toInt64))), .second, un, un, un, un]) (hb hby d20_6) rfl rfl ?_
  refine Go.lload2 10 X0 hx (hb hby d20_8) rfl rfl ?_
  refine Go.lconst 11 X0 hx (0 : Int64) (hb hby d20_10) (by decide) rfl ?_
  refine Go.lcmp 12 X0 hx (hb hby d20_11) rfl ?_
  refine Go.ifN 15 X0 hx (hb hby d20_12) (XT.ll_ne_f (by decide)) rfl ?_
  refine Go.lload1 16 X0 hx (hb hby d20_15) rfl rfl ?_
  refine Go.lload1 17 X0 hx (hb hby d20_16) rfl rfl ?_
  refine Go.iload1 18 X0 hx (hb hby d20_17) rfl rfl ?_
  obtain ⟨_, _, ⟨T1, L1, k1, n1⟩, -, X1, ⟨Lc1, hQ1, l1, y1, z1⟩, st1⟩ := Jvm.LawKit.callS X0 hx (y := (⟨"java/math/BigDecimal", "add", "(JJI)Ljava/math/BigDecimal;"⟩ : MethodName)) hown (mvT hZ (ow hw 120 rfl)) (mvT hZ (ow hw 121 rfl)) (mvT hZ (ow hw 3 rfl)) (mvT hZ (ow hw 122 rfl)) (by decide) (backOf (W := 0) (rmAjji l Z a0 hw [] x y ze0 ze1 ze2 ze3 ze4 ze5 ze6 ze7 ze8 ze9 ze10 ze11 ze12 ze13 ze14 ze15 za kz h0 n0 Z0 O0 hx1 hy1 D0 D1 D2 D3 D4 D5 D6 D7 D8) hZ (ow hw 122 rfl) (ow hw 3 rfl) (by decide) (by decide)) (g := (mkF m 18 #[.val (.long x), .second, iv 2, .val (.long y), .second, iv 2, .val (.long (((2 : Int32).toInt64) - ((2 : Int32).toInt64))), .second, un, un, un, un] [(.int 2), (.long y), (.long x)])) rfl (by rw [hml]; rfl) (argsL := [(.long x), (.long y), (.int 2)]) (rest := []) (lenOf pd_155 rfl) rfl (by show 2 * 0 + _ ≤ _; exact Nat.le_of_eq rfl) (hb hby d20_18) (fun _ _ => ⟨rfl, e0, (by decide : 0 + 1 ≤ _), (by decide : 0 + 5 ≤ _)⟩)
  dsimp only [Pt.U, Pt.locs, Pt.cells, Pt.slots] at X1 l1 y1 z1 st1 hQ1
  subst l1 y1 z1
  obtain ⟨b, rfl, N1q, K1, Q1_0, Q1_1, Q1_2⟩ := hQ1
  have N1 := Fr.app N0 N1q
  refine Go.by st1 ?_
  show Go _ _ _ _ T1 (mkF m 21 #[.val (.long x), .second, iv 2, .val (.long y), .second, iv 2, .val (.long (((2 : Int32).toInt64) - ((2 : Int32).toInt64))), .second, un, un, un, un] [(.ref b)])
  have F2 : Keep h0 T1.heap [] := (Keep.refl h0 []).trans K1 all0
  exact Go.retA X1 hx Bd.notSynchronized Bd.returns rfl rfl (hb hby d20_21) ⟨b, rfl, N1, F2, Q1_0, Q1_1, Q1_2⟩ (by decide) (by decide)
theorem ef_158 (m : MethodId) (x0 : Addr) (x1 : Addr) : entryFrame m #[(.ref x0), (.ref x1)] 2 = mkF m 0 #[rv x0, rv x1] [] := by (first | (simp [entryFrame, mkF, argsToLocals, Value.category]; done) | rfl)
theorem d23_0 : decode jdk_17_method_26_code 0 = .ok (.aload_n 0, 1) := by decide +kernel
theorem d23_1 : decode jdk_17_method_26_code 1 = .ok (.getfield 24, 3) := by decide +kernel
theorem d23_4 : decode jdk_17_method_26_code 4 = .ok (.ldc2_w 125, 3) := by decide +kernel
theorem d23_7 : decode jdk_17_method_26_code 7 = .ok (.lcmp, 1) := by decide +kernel
theorem d23_8 : decode jdk_17_method_26_code 8 = .ok (.ifCond .eq 54, 3) := by decide +kernel
theorem d23_11 : decode jdk_17_method_26_code 11 = .ok (.aload_n 1, 1) := by decide +kernel
theorem d23_12 : decode jdk_17_method_26_code 12 = .ok (.getfield 24, 3) := by decide +kernel
theorem d23_15 : decode jdk_17_method_26_code 15 = .ok (.ldc2_w 125, 3) := by decide +kernel
theorem d23_18 : decode jdk_17_method_26_code 18 = .ok (.lcmp, 1) := by decide +kernel
theorem d23_19 : decode jdk_17_method_26_code 19 = .ok (.ifCond .eq 23, 3) := by decide +kernel
theorem d23_22 : decode jdk_17_method_26_code 22 = .ok (.aload_n 0, 1) := by decide +kernel
theorem d23_23 : decode jdk_17_method_26_code 23 = .ok (.getfield 24, 3) := by decide +kernel
theorem d23_26 : decode jdk_17_method_26_code 26 = .ok (.aload_n 0, 1) := by decide +kernel
theorem d23_27 : decode jdk_17_method_26_code 27 = .ok (.getfield 17, 3) := by decide +kernel
theorem d23_30 : decode jdk_17_method_26_code 30 = .ok (.aload_n 1, 1) := by decide +kernel
theorem d23_31 : decode jdk_17_method_26_code 31 = .ok (.getfield 24, 3) := by decide +kernel
theorem d23_34 : decode jdk_17_method_26_code 34 = .ok (.aload_n 1, 1) := by decide +kernel
theorem d23_35 : decode jdk_17_method_26_code 35 = .ok (.getfield 17, 3) := by decide +kernel
theorem pd_177 : parseMethodDescriptor "(JIJI)Ljava/math/BigDecimal;" = some ⟨[.long, .int, .long, .int], some (.object "java/math/BigDecimal")⟩ := by decide +kernel
theorem d23_38 : decode jdk_17_method_26_code 38 = .ok (.invokestatic 257, 3) := by decide +kernel
theorem d23_41 : decode jdk_17_method_26_code 41 = .ok (.areturn, 1) := by decide +kernel
def Q_rmAdd (Z : State) (a : Addr) (a2 : Addr) (x : Int64) (y : Int64) (ze0 : Addr) (ze1 : Addr) (ze2 : Addr) (ze3 : Addr) (ze4 : Addr) (ze5 : Addr) (ze6 : Addr) (ze7 : Addr) (ze8 : Addr) (ze9 : Addr) (ze10 : Addr) (ze11 : Addr) (ze12 : Addr) (ze13 : Addr) (ze14 : Addr) (ze15 : Addr) (za : Addr) (kz : ClassId) (h0 : Heap) (n0 : Nat) (v : Option Value) (h : Heap) (L : List Loc) : Prop := ∃ b : Addr, v = some (.ref b) ∧ Fr n0 L ∧ Keep h0 h [] ∧ Exa Z h b "java/math/BigDecimal" ∧ Fld Z h b "java/math/BigDecimal" "scale" "I" (.int 2) ∧ Fld Z h b "java/math/BigDecimal" "intCompact" "J" (.long (x + y))
set_option maxRecDepth 65536 in
set_option maxHeartbeats 40000000 in
theorem rmAdd (l : Launch) (Z : State) (a0 : Array Value) (hw : ∀ d ∈ tables_1, d.before a0 Z = true) (ws : List Jvm.Cond) (a : Addr) (a2 : Addr) (x : Int64) (y : Int64) (ze0 : Addr) (ze1 : Addr) (ze2 : Addr) (ze3 : Addr) (ze4 : Addr) (ze5 : Addr) (ze6 : Addr) (ze7 : Addr) (ze8 : Addr) (ze9 : Addr) (ze10 : Addr) (ze11 : Addr) (ze12 : Addr) (ze13 : Addr) (ze14 : Addr) (ze15 : Addr) (za : Addr) (kz : ClassId) (h0 : Heap) (n0 : Nat) (Z0 : n0 ≤ h0.size) (O0 : Old Z n0 h0) (F_a_scale : Fld Z h0 a "java/math/BigDecimal" "scale" "I" (.int 2)) (F_a_intCompact : Fld Z h0 a "java/math/BigDecimal" "intCompact" "J" (.long x)) (F_a2_scale : Fld Z h0 a2 "java/math/BigDecimal" "scale" "I" (.int 2)) (F_a2_intCompact : Fld Z h0 a2 "java/math/BigDecimal" "intCompact" "J" (.long y)) (hx1 : (own_bd x)) (hy1 : (own_bd y)) (D0 : Sta Z Z.heap "java/math/BigDecimal" "ZERO_SCALED_BY" "[Ljava/math/BigDecimal;" (.ref za)) (D1 : Sta Z Z.heap "java/math/BigDecimal" "ZERO" "Ljava/math/BigDecimal;" (.ref ze0)) (D2 : Arv Z Z.heap za kz (.object "java/math/BigDecimal") (16 : Int32) ([(.ref ze0), (.ref ze1), (.ref ze2), (.ref ze3), (.ref ze4), (.ref ze5), (.ref ze6), (.ref ze7), (.ref ze8), (.ref ze9), (.ref ze10), (.ref ze11), (.ref ze12), (.ref ze13), (.ref ze14), (.ref ze15)]) .null) (D3 : Exa Z Z.heap ze0 "java/math/BigDecimal") (D4 : Fld Z Z.heap ze0 "java/math/BigDecimal" "scale" "I" (.int 0)) (D5 : Fld Z Z.heap ze0 "java/math/BigDecimal" "intCompact" "J" (.long (0 : Int64))) (D6 : Exa Z Z.heap ze2 "java/math/BigDecimal") (D7 : Fld Z Z.heap ze2 "java/math/BigDecimal" "scale" "I" (.int 2)) (D8 : Fld Z Z.heap ze2 "java/math/BigDecimal" "intCompact" "J" (.long (0 : Int64))) :
    MetFree l (⟨"java/math/BigDecimal", "add", "(Ljava/math/BigDecimal;)Ljava/math/BigDecimal;"⟩ : MethodName) (head1 (Jvm.Cond.code (⟨"java/math/BigDecimal", "add", "(Ljava/math/BigDecimal;)Ljava/math/BigDecimal;"⟩ : MethodName) jdk_17_method_26_code 2 (some (.object "java/math/BigDecimal")) :: ws) ({ frames := 6, cells := 1, slots := 5, locals := 97 } : Room)) (fun as' U => as' = #[(.ref a), (.ref a2)] ∧ Z.Warmed39 U.vm ∧ U.heap = h0) (fun _ _ _ _ _ => True) (fun _ U o U' => ∃ v L, o = .returned v ∧ Q_rmAdd Z a a2 x y ze0 ze1 ze2 ze3 ze4 ze5 ze6 ze7 ze8 ze9 ze10 ze11 ze12 ze13 ze14 ze15 za kz h0 n0 v U'.heap L ∧ FrameEnd U o U' L ({ frames := 6, cells := 1, slots := 5, locals := 97 } : Room).cells ({ frames := 6, cells := 1, slots := 5, locals := 97 } : Room).slots) := by
  refine MetFree.of_bodySF (plainFor_of_name pn_7) hisR ?_
  intro p e s m args below meth c s₁ Bd hml0 hP hK
  obtain ⟨rfl, hZ, hh⟩ := hP
  have hx := Bd.exec
  have hby := Bd.bytes
  have hml : c.maxLocals = 2 := hml0
  have hown : s.vm.findClass "java/math/BigDecimal" = some m.cls := findClass_of_methodNamed Bd.named
  have hnm := (name_of_methodNamed Bd.named Bd.method).1
  have X0 : Stand p l e ({ frames := 6, cells := 1, slots := 5, locals := 97 } : Room) s m #[(.ref a), (.ref a2)] below meth c s₁ [] 0 0 := Stand.of_body Bd
  have e0 : s₁.heap = h0 := by rw [← hh, Bd.state]; rfl
  have N0 := Fr.nil n0
  refine Go.enter (F := EndN s (Q_rmAdd Z a a2 x y ze0 ze1 ze2 ze3 ze4 ze5 ze6 ze7 ze8 ze9 ze10 ze11 ze12 ze13 ze14 ze15 za kz h0 n0) ({ frames := 6, cells := 1, slots := 5, locals := 97 } : Room).cells ({ frames := 6, cells := 1, slots := 5, locals := 97 } : Room).slots) (ef_158 m a a2) ?_
  show Go _ _ _ _ s₁ (mkF m 0 #[rv a, rv a2] [])
  refine Go.aload1 1 X0 hx (hb hby d23_0) rfl rfl rfl ?_
  obtain ⟨T1, X1, e1, st1⟩ := getF X0 hx hZ hown (host := "") (Or.inl (ow hw 29 rfl)) Via.refl e0 F_a_intCompact (g := (mkF m 1 #[rv a, rv a2] [(.ref a)])) rfl rfl (hb hby d23_1)
  refine Go.by st1 ?_
  show Go _ _ _ _ T1 (mkF m 4 #[rv a, rv a2] [(.long x)])
  refine Go.by (fun _ gk => X1.ldc2J hx hown (mvT hZ (ow hw 11 rfl)) (g := (mkF m 4 #[rv a, rv a2] [(.long x)])) rfl (hb hby d23_4) gk) ?_
  show Go _ _ _ _ T1 (mkF m 7 #[rv a, rv a2] [(.long (-9223372036854775808 : Int64)), (.long x)])
  refine Go.lcmp 8 X1 hx (hb hby d23_7) rfl ?_
  refine Go.ifN 11 X1 hx (hb hby d23_8) (XT.ll_eq_f (own_min hx1)) rfl ?_
  refine Go.aload1 12 X1 hx (hb hby d23_11) rfl rfl rfl ?_
  obtain ⟨T2, X2, e2, st2⟩ := getF X1 hx hZ hown (host := "") (Or.inl (ow hw 29 rfl)) Via.refl e1 F_a2_intCompact (g := (mkF m 12 #[rv a, rv a2] [(.ref a2)])) rfl rfl (hb hby d23_12)
  refine Go.by st2 ?_
  show Go _ _ _ _ T2 (mkF m 15 #[rv a, rv a2] [(.long y)])
  refine Go.by (fun _ gk => X2.ldc2J hx hown (mvT hZ (ow hw 11 rfl)) (g := (mkF m 15 #[rv a, rv a2] [(.long y)])) rfl (hb hby d23_15) gk) ?_
  show Go _ _ _ _ T2 (mkF m 18 #[rv a, rv a2] [(.long (-9223372036854775808 : Int64)), (.long y)])
  refine Go.lcmp 19 X2 hx (hb hby d23_18) rfl ?_
  refine Go.ifN 22 X2 hx (hb hby d23_19) (XT.ll_eq_f (own_min hy1)) rfl ?_
  refine Go.aload1 23 X2 hx (hb hby d23_22) rfl rfl rfl ?_
  obtain ⟨T3, X3, e3, st3⟩ := getF X2 hx hZ hown (host := "") (Or.inl (ow hw 29 rfl)) Via.refl e2 F_a_intCompact (g := (mkF m 23 #[rv a, rv a2] [(.ref a)])) rfl rfl (hb hby d23_23)
  refine Go.by st3 ?_
  show Go _ _ _ _ T3 (mkF m 26 #[rv a, rv a2] [(.long x)])
  refine Go.aload1 27 X3 hx (hb hby d23_26) rfl rfl rfl ?_
  obtain ⟨T4, X4, e4, st4⟩ := getF X3 hx hZ hown (host := "") (Or.inl (ow hw 25 rfl)) Via.refl e3 F_a_scale (g := (mkF m 27 #[rv a, rv a2] [(.ref a), (.long x)])) rfl rfl (hb hby d23_27)
  refine Go.by st4 ?_
  show Go _ _ _ _ T4 (mkF m 30 #[rv a, rv a2] [(.int 2), (.long x)])
  refine Go.aload1 31 X4 hx (hb hby d23_30) rfl rfl rfl ?_
  obtain ⟨T5, X5, e5, st5⟩ := getF X4 hx hZ hown (host := "") (Or.inl (ow hw 29 rfl)) Via.refl e4 F_a2_intCompact (g := (mkF m 31 #[rv a, rv a2] [(.ref a2), (.int 2), (.long x)])) rfl rfl (hb hby d23_31)
  refine Go.by st5 ?_
  show Go _ _ _ _ T5 (mkF m 34 #[rv a, rv a2] [(.long y), (.int 2), (.long x)])
  refine Go.aload1 35 X5 hx (hb hby d23_34) rfl rfl rfl ?_
  obtain ⟨T6, X6, e6, st6⟩ := getF X5 hx hZ hown (host := "") (Or.inl (ow hw 25 rfl)) Via.refl e5 F_a2_scale (g := (mkF m 35 #[rv a, rv a2] [(.ref a2), (.long y), (.int 2), (.long x)])) rfl rfl (hb hby d23_35)
  refine Go.by st6 ?_
  show Go _ _ _ _ T6 (mkF m 38 #[rv a, rv a2] [(.int 2), (.long y), (.int 2), (.long x)])
  obtain ⟨_, _, ⟨T7, L7, k7, n7⟩, -, X7, ⟨Lc7, hQ7, l7, y7, z7⟩, st7⟩ := Jvm.LawKit.callS X6 hx (y := (⟨"java/math/BigDecimal", "add", "(JIJI)Ljava/math/BigDecimal;"⟩ : MethodName)) hown (mvT hZ (ow hw 117 rfl)) (mvT hZ (ow hw 118 rfl)) (mvT hZ (ow hw 3 rfl)) (mvT hZ (ow hw 119 rfl)) (by decide) (backOf (W := 0) (rmAjiji l Z a0 hw [] x y ze0 ze1 ze2 ze3 ze4 ze5 ze6 ze7 ze8 ze9 ze10 ze11 ze12 ze13 ze14 ze15 za kz h0 n0 Z0 O0 hx1 hy1 D0 D1 D2 D3 D4 D5 D6 D7 D8) hZ (ow hw 119 rfl) (ow hw 3 rfl) (by decide) (by decide)) (g := (mkF m 38 #[rv a, rv a2] [(.int 2), (.long y), (.int 2), (.long x)])) rfl (by rw [hml]; rfl) (argsL := [(.long x), (.int 2), (.long y), (.int 2)]) (rest := []) (lenOf pd_177 rfl) rfl (by show 2 * 0 + _ ≤ _; exact Nat.le_of_eq rfl) (hb hby d23_38) (fun _ _ => ⟨rfl, e6, (by decide : 0 + 1 ≤ _), (by decide : 0 + 5 ≤ _)⟩)
  dsimp only [Pt.U, Pt.locs, Pt.cells, Pt.slots] at X7 l7 y7 z7 st7 hQ7
  subst l7 y7 z7
  obtain ⟨b, rfl, N7q, K7, Q7_0, Q7_1, Q7_2⟩ := hQ7
  have N7 := Fr.app N0 N7q
  refine Go.by st7 ?_
  show Go _ _ _ _ T7 (mkF m 41 #[rv a, rv a2] [(.ref b)])
  have F8 : Keep h0 T7.heap [] := (Keep.refl h0 []).trans K7 all0
  exact Go.retA X7 hx Bd.notSynchronized Bd.returns rfl rfl (hb hby d23_41) ⟨b, rfl, N7, F8, Q7_0, Q7_1, Q7_2⟩ (by decide) (by decide)
theorem d19_0 : decode jdk_17_method_29_code 0 = .ok (.aload_n 0, 1) := by decide +kernel
theorem d19_1 : decode jdk_17_method_29_code 1 = .ok (.getfield 24, 3) := by decide +kernel
theorem d19_4 : decode jdk_17_method_29_code 4 = .ok (.ldc2_w 125, 3) := by decide +kernel
theorem d19_7 : decode jdk_17_method_29_code 7 = .ok (.lcmp, 1) := by decide +kernel
theorem d19_8 : decode jdk_17_method_29_code 8 = .ok (.ifCond .eq 58, 3) := by decide +kernel
theorem d19_11 : decode jdk_17_method_29_code 11 = .ok (.aload_n 1, 1) := by decide +kernel
theorem d19_12 : decode jdk_17_method_29_code 12 = .ok (.getfield 24, 3) := by decide +kernel
theorem d19_15 : decode jdk_17_method_29_code 15 = .ok (.ldc2_w 125, 3) := by decide +kernel
theorem d19_18 : decode jdk_17_method_29_code 18 = .ok (.lcmp, 1) := by decide +kernel
theorem d19_19 : decode jdk_17_method_29_code 19 = .ok (.ifCond .eq 24, 3) := by decide +kernel
theorem d19_22 : decode jdk_17_method_29_code 22 = .ok (.aload_n 0, 1) := by decide +kernel
theorem d19_23 : decode jdk_17_method_29_code 23 = .ok (.getfield 24, 3) := by decide +kernel
theorem d19_26 : decode jdk_17_method_29_code 26 = .ok (.aload_n 0, 1) := by decide +kernel
theorem d19_27 : decode jdk_17_method_29_code 27 = .ok (.getfield 17, 3) := by decide +kernel
theorem d19_30 : decode jdk_17_method_29_code 30 = .ok (.aload_n 1, 1) := by decide +kernel
theorem d19_31 : decode jdk_17_method_29_code 31 = .ok (.getfield 24, 3) := by decide +kernel
theorem d19_34 : decode jdk_17_method_29_code 34 = .ok (.lneg, 1) := by decide +kernel
theorem d19_35 : decode jdk_17_method_29_code 35 = .ok (.aload_n 1, 1) := by decide +kernel
theorem d19_36 : decode jdk_17_method_29_code 36 = .ok (.getfield 17, 3) := by decide +kernel
theorem d19_39 : decode jdk_17_method_29_code 39 = .ok (.invokestatic 257, 3) := by decide +kernel
theorem d19_42 : decode jdk_17_method_29_code 42 = .ok (.areturn, 1) := by decide +kernel
def Q_rmSub (Z : State) (a : Addr) (a2 : Addr) (x : Int64) (y : Int64) (ze0 : Addr) (ze1 : Addr) (ze2 : Addr) (ze3 : Addr) (ze4 : Addr) (ze5 : Addr) (ze6 : Addr) (ze7 : Addr) (ze8 : Addr) (ze9 : Addr) (ze10 : Addr) (ze11 : Addr) (ze12 : Addr) (ze13 : Addr) (ze14 : Addr) (ze15 : Addr) (za : Addr) (kz : ClassId) (h0 : Heap) (n0 : Nat) (v : Option Value) (h : Heap) (L : List Loc) : Prop := ∃ b : Addr, v = some (.ref b) ∧ Fr n0 L ∧ Keep h0 h [] ∧ Exa Z h b "java/math/BigDecimal" ∧ Fld Z h b "java/math/BigDecimal" "scale" "I" (.int 2) ∧ Fld Z h b "java/math/BigDecimal" "intCompact" "J" (.long (x + (-y)))
set_option maxRecDepth 65536 in
set_option maxHeartbeats 40000000 in
theorem rmSub (l : Launch) (Z : State) (a0 : Array Value) (hw : ∀ d ∈ tables_1, d.before a0 Z = true) (ws : List Jvm.Cond) (a : Addr) (a2 : Addr) (x : Int64) (y : Int64) (ze0 : Addr) (ze1 : Addr) (ze2 : Addr) (ze3 : Addr) (ze4 : Addr) (ze5 : Addr) (ze6 : Addr) (ze7 : Addr) (ze8 : Addr) (ze9 : Addr) (ze10 : Addr) (ze11 : Addr) (ze12 : Addr) (ze13 : Addr) (ze14 : Addr) (ze15 : Addr) (za : Addr) (kz : ClassId) (h0 : Heap) (n0 : Nat) (Z0 : n0 ≤ h0.size) (O0 : Old Z n0 h0) (F_a_scale : Fld Z h0 a "java/math/BigDecimal" "scale" "I" (.int 2)) (F_a_intCompact : Fld Z h0 a "java/math/BigDecimal" "intCompact" "J" (.long x)) (F_a2_scale : Fld Z h0 a2 "java/math/BigDecimal" "scale" "I" (.int 2)) (F_a2_intCompact : Fld Z h0 a2 "java/math/BigDecimal" "intCompact" "J" (.long y)) (hx1 : (own_bd x)) (hy1 : (own_bd y)) (D0 : Sta Z Z.heap "java/math/BigDecimal" "ZERO_SCALED_BY" "[Ljava/math/BigDecimal;" (.ref za)) (D1 : Sta Z Z.heap "java/math/BigDecimal" "ZERO" "Ljava/math/BigDecimal;" (.ref ze0)) (D2 : Arv Z Z.heap za kz (.object "java/math/BigDecimal") (16 : Int32) ([(.ref ze0), (.ref ze1), (.ref ze2), (.ref ze3), (.ref ze4), (.ref ze5), (.ref ze6), (.ref ze7), (.ref ze8), (.ref ze9), (.ref ze10), (.ref ze11), (.ref ze12), (.ref ze13), (.ref ze14), (.ref ze15)]) .null) (D3 : Exa Z Z.heap ze0 "java/math/BigDecimal") (D4 : Fld Z Z.heap ze0 "java/math/BigDecimal" "scale" "I" (.int 0)) (D5 : Fld Z Z.heap ze0 "java/math/BigDecimal" "intCompact" "J" (.long (0 : Int64))) (D6 : Exa Z Z.heap ze2 "java/math/BigDecimal") (D7 : Fld Z Z.heap ze2 "java/math/BigDecimal" "scale" "I" (.int 2)) (D8 : Fld Z Z.heap ze2 "java/math/BigDecimal" "intCompact" "J" (.long (0 : Int64))) :
    MetFree l (⟨"java/math/BigDecimal", "subtract", "(Ljava/math/BigDecimal;)Ljava/math/BigDecimal;"⟩ : MethodName) (head1 (Jvm.Cond.code (⟨"java/math/BigDecimal", "subtract", "(Ljava/math/BigDecimal;)Ljava/math/BigDecimal;"⟩ : MethodName) jdk_17_method_29_code 2 (some (.object "java/math/BigDecimal")) :: ws) ({ frames := 6, cells := 1, slots := 5, locals := 97 } : Room)) (fun as' U => as' = #[(.ref a), (.ref a2)] ∧ Z.Warmed39 U.vm ∧ U.heap = h0) (fun _ _ _ _ _ => True) (fun _ U o U' => ∃ v L, o = .returned v ∧ Q_rmSub Z a a2 x y ze0 ze1 ze2 ze3 ze4 ze5 ze6 ze7 ze8 ze9 ze10 ze11 ze12 ze13 ze14 ze15 za kz h0 n0 v U'.heap L ∧ FrameEnd U o U' L ({ frames := 6, cells := 1, slots := 5, locals := 97 } : Room).cells ({ frames := 6, cells := 1, slots := 5, locals := 97 } : Room).slots) := by
  refine MetFree.of_bodySF (plainFor_of_name pn_7) hisR ?_
  intro p e s m args below meth c s₁ Bd hml0 hP hK
  obtain ⟨rfl, hZ, hh⟩ := hP
  have hx := Bd.exec
  have hby := Bd.bytes
  have hml : c.maxLocals = 2 := hml0
  have hown : s.vm.findClass "java/math/BigDecimal" = some m.cls := findClass_of_methodNamed Bd.named
  have hnm := (name_of_methodNamed Bd.named Bd.method).1
  have X0 : Stand p l e ({ frames := 6, cells := 1, slots := 5, locals := 97 } : Room) s m #[(.ref a), (.ref a2)] below meth c s₁ [] 0 0 := Stand.of_body Bd
  have e0 : s₁.heap = h0 := by rw [← hh, Bd.state]; rfl
  have N0 := Fr.nil n0
  refine Go.enter (F := EndN s (Q_rmSub Z a a2 x y ze0 ze1 ze2 ze3 ze4 ze5 ze6 ze7 ze8 ze9 ze10 ze11 ze12 ze13 ze14 ze15 za kz h0 n0) ({ frames := 6, cells := 1, slots := 5, locals := 97 } : Room).cells ({ frames := 6, cells := 1, slots := 5, locals := 97 } : Room).slots) (ef_158 m a a2) ?_
  show Go _ _ _ _ s₁ (mkF m 0 #[rv a, rv a2] [])
  refine Go.aload1 1 X0 hx (hb hby d19_0) rfl rfl rfl ?_
  obtain ⟨T1, X1, e1, st1⟩ := getF X0 hx hZ hown (host := "") (Or.inl (ow hw 29 rfl)) Via.refl e0 F_a_intCompact (g := (mkF m 1 #[rv a, rv a2] [(.ref a)])) rfl rfl (hb hby d19_1)
  refine Go.by st1 ?_
  show Go _ _ _ _ T1 (mkF m 4 #[rv a, rv a2] [(.long x)])
  refine Go.by (fun _ gk => X1.ldc2J hx hown (mvT hZ (ow hw 11 rfl)) (g := (mkF m 4 #[rv a, rv a2] [(.long x)])) rfl (hb hby d19_4) gk) ?_
  show Go _ _ _ _ T1 (mkF m 7 #[rv a, rv a2] [(.long (-9223372036854775808 : Int64)), (.long x)])
  refine Go.lcmp 8 X1 hx (hb hby d19_7) rfl ?_
  refine Go.ifN 11 X1 hx (hb hby d19_8) (XT.ll_eq_f (own_min hx1)) rfl ?_
  refine Go.aload1 12 X1 hx (hb hby d19_11) rfl rfl rfl ?_
  obtain ⟨T2, X2, e2, st2⟩ := getF X1 hx hZ hown (host := "") (Or.inl (ow hw 29 rfl)) Via.refl e1 F_a2_intCompact (g := (mkF m 12 #[rv a, rv a2] [(.ref a2)])) rfl rfl (hb hby d19_12)
  refine Go.by st2 ?_
  show Go _ _ _ _ T2 (mkF m 15 #[rv a, rv a2] [(.long y)])
  refine Go.by (fun _ gk => X2.ldc2J hx hown (mvT hZ (ow hw 11 rfl)) (g := (mkF m 15 #[rv a, rv a2] [(.long y)])) rfl (hb hby d19_15) gk) ?_
  show Go _ _ _ _ T2 (mkF m 18 #[rv a, rv a2] [(.long (-9223372036854775808 : Int64)), (.long y)])
  refine Go.lcmp 19 X2 hx (hb hby d19_18) rfl ?_
  refine Go.ifN 22 X2 hx (hb hby d19_19) (XT.ll_eq_f (own_min hy1)) rfl ?_
  refine Go.aload1 23 X2 hx (hb hby d19_22) rfl rfl rfl ?_
  obtain ⟨T3, X3, e3, st3⟩ := getF X2 hx hZ hown (host := "") (Or.inl (ow hw 29 rfl)) Via.refl e2 F_a_intCompact (g := (mkF m 23 #[rv a, rv a2] [(.ref a)])) rfl rfl (hb hby d19_23)
  refine Go.by st3 ?_
  show Go _ _ _ _ T3 (mkF m 26 #[rv a, rv a2] [(.long x)])
  refine Go.aload1 27 X3 hx (hb hby d19_26) rfl rfl rfl ?_
  obtain ⟨T4, X4, e4, st4⟩ := getF X3 hx hZ hown (host := "") (Or.inl (ow hw 25 rfl)) Via.refl e3 F_a_scale (g := (mkF m 27 #[rv a, rv a2] [(.ref a), (.long x)])) rfl rfl (hb hby d19_27)
  refine Go.by st4 ?_
  show Go _ _ _ _ T4 (mkF m 30 #[rv a, rv a2] [(.int 2), (.long x)])
  refine Go.aload1 31 X4 hx (hb hby d19_30) rfl rfl rfl ?_
  obtain ⟨T5, X5, e5, st5⟩ := getF X4 hx hZ hown (host := "") (Or.inl (ow hw 29 rfl)) Via.refl e4 F_a2_intCompact (g := (mkF m 31 #[rv a, rv a2] [(.ref a2), (.int 2), (.long x)])) rfl rfl (hb hby d19_31)
  refine Go.by st5 ?_
  show Go _ _ _ _ T5 (mkF m 34 #[rv a, rv a2] [(.long y), (.int 2), (.long x)])
  refine Go.lneg 35 X5 hx (hb hby d19_34) rfl ?_
  refine Go.aload1 36 X5 hx (hb hby d19_35) rfl rfl rfl ?_
  obtain ⟨T6, X6, e6, st6⟩ := getF X5 hx hZ hown (host := "") (Or.inl (ow hw 25 rfl)) Via.refl e5 F_a2_scale (g := (mkF m 36 #[rv a, rv a2] [(.ref a2), (.long (-y)), (.int 2), (.long x)])) rfl rfl (hb hby d19_36)
  refine Go.by st6 ?_
  show Go _ _ _ _ T6 (mkF m 39 #[rv a, rv a2] [(.int 2), (.long (-y)), (.int 2), (.long x)])
  obtain ⟨_, _, ⟨T7, L7, k7, n7⟩, -, X7, ⟨Lc7, hQ7, l7, y7, z7⟩, st7⟩ := Jvm.LawKit.callS X6 hx (y := (⟨"java/math/BigDecimal", "add", "(JIJI)Ljava/math/BigDecimal;"⟩ : MethodName)) hown (mvT hZ (ow hw 117 rfl)) (mvT hZ (ow hw 118 rfl)) (mvT hZ (ow hw 3 rfl)) (mvT hZ (ow hw 119 rfl)) (by decide) (backOf (W := 0) (rmAjiji l Z a0 hw [] x (-y) ze0 ze1 ze2 ze3 ze4 ze5 ze6 ze7 ze8 ze9 ze10 ze11 ze12 ze13 ze14 ze15 za kz h0 n0 Z0 O0 hx1 (own_bdN hy1) D0 D1 D2 D3 D4 D5 D6 D7 D8) hZ (ow hw 119 rfl) (ow hw 3 rfl) (by decide) (by decide)) (g := (mkF m 39 #[rv a, rv a2] [(.int 2), (.long (-y)), (.int 2), (.long x)])) rfl (by rw [hml]; rfl) (argsL := [(.long x), (.int 2), (.long (-y)), (.int 2)]) (rest := []) (lenOf pd_177 rfl) rfl (by show 2 * 0 + _ ≤ _; exact Nat.le_of_eq rfl) (hb hby d19_39) (fun _ _ => ⟨rfl, e6, (by decide : 0 + 1 ≤ _), (by decide : 0 + 5 ≤ _)⟩)
  dsimp only [Pt.U, Pt.locs, Pt.cells, Pt.slots] at X7 l7 y7 z7 st7 hQ7
  subst l7 y7 z7
  obtain ⟨b, rfl, N7q, K7, Q7_0, Q7_1, Q7_2⟩ := hQ7
  have N7 := Fr.app N0 N7q
  refine Go.by st7 ?_
  show Go _ _ _ _ T7 (mkF m 42 #[rv a, rv a2] [(.ref b)])
  have F8 : Keep h0 T7.heap [] := (Keep.refl h0 []).trans K7 all0
  exact Go.retA X7 hx Bd.notSynchronized Bd.returns rfl rfl (hb hby d19_42) ⟨b, rfl, N7, F8, Q7_0, Q7_1, Q7_2⟩ (by decide) (by decide)
theorem ef_201 (m : MethodId) (x0 : Addr) (x1 : Addr) : entryFrame m #[(.ref x0), (.ref x1)] 7 = mkF m 0 #[rv x0, rv x1, un, un, un, un, un] [] := by (first | (simp [entryFrame, mkF, argsToLocals, Value.category]; done) | rfl)
theorem d15_0 : decode jdk_17_method_72_code 0 = .ok (.aload_n 1, 1) := by decide +kernel
theorem d15_1 : decode jdk_17_method_72_code 1 = .ok (.instanceof 3, 3) := by decide +kernel
theorem d15_4 : decode jdk_17_method_72_code 4 = .ok (.ifCond .eq 11, 3) := by decide +kernel
theorem d15_7 : decode jdk_17_method_72_code 7 = .ok (.aload_n 1, 1) := by decide +kernel
theorem d15_8 : decode jdk_17_method_72_code 8 = .ok (.checkcast 3, 3) := by decide +kernel
theorem d15_11 : decode jdk_17_method_72_code 11 = .ok (.astore_n 2, 1) := by decide +kernel
theorem d15_12 : decode jdk_17_method_72_code 12 = .ok (.goto 5, 3) := by decide +kernel
theorem d15_17 : decode jdk_17_method_72_code 17 = .ok (.aload_n 1, 1) := by decide +kernel
theorem d15_18 : decode jdk_17_method_72_code 18 = .ok (.aload_n 0, 1) := by decide +kernel
theorem d15_19 : decode jdk_17_method_72_code 19 = .ok (.if_acmp .ne 5, 3) := by decide +kernel
theorem d15_22 : decode jdk_17_method_72_code 22 = .ok (.iconst 1, 1) := by decide +kernel
theorem d15_23 : decode jdk_17_method_72_code 23 = .ok (.ireturn, 1) := by decide +kernel
theorem d15_24 : decode jdk_17_method_72_code 24 = .ok (.aload_n 0, 1) := by decide +kernel
theorem d15_25 : decode jdk_17_method_72_code 25 = .ok (.getfield 17, 3) := by decide +kernel
theorem d15_28 : decode jdk_17_method_72_code 28 = .ok (.aload_n 2, 1) := by decide +kernel
theorem d15_29 : decode jdk_17_method_72_code 29 = .ok (.getfield 17, 3) := by decide +kernel
theorem d15_32 : decode jdk_17_method_72_code 32 = .ok (.if_icmp .eq 5, 3) := by decide +kernel
theorem d15_37 : decode jdk_17_method_72_code 37 = .ok (.aload_n 0, 1) := by decide +kernel
theorem d15_38 : decode jdk_17_method_72_code 38 = .ok (.getfield 24, 3) := by decide +kernel
theorem d15_41 : decode jdk_17_method_72_code 41 = .ok (.lstore_n 3, 1) := by decide +kernel
theorem d15_42 : decode jdk_17_method_72_code 42 = .ok (.aload_n 2, 1) := by decide +kernel
theorem d15_43 : decode jdk_17_method_72_code 43 = .ok (.getfield 24, 3) := by decide +kernel
theorem d15_46 : decode jdk_17_method_72_code 46 = .ok (.lstore 5, 2) := by decide +kernel
theorem d15_48 : decode jdk_17_method_72_code 48 = .ok (.lload_n 3, 1) := by decide +kernel
theorem d15_49 : decode jdk_17_method_72_code 49 = .ok (.ldc2_w 125, 3) := by decide +kernel
theorem d15_52 : decode jdk_17_method_72_code 52 = .ok (.lcmp, 1) := by decide +kernel
theorem d15_53 : decode jdk_17_method_72_code 53 = .ok (.ifCond .eq 34, 3) := by decide +kernel
theorem d15_56 : decode jdk_17_method_72_code 56 = .ok (.lload 5, 2) := by decide +kernel
theorem d15_58 : decode jdk_17_method_72_code 58 = .ok (.ldc2_w 125, 3) := by decide +kernel
theorem d15_61 : decode jdk_17_method_72_code 61 = .ok (.lcmp, 1) := by decide +kernel
theorem d15_62 : decode jdk_17_method_72_code 62 = .ok (.ifCond .ne 12, 3) := by decide +kernel
theorem d15_74 : decode jdk_17_method_72_code 74 = .ok (.lload 5, 2) := by decide +kernel
theorem d15_76 : decode jdk_17_method_72_code 76 = .ok (.lload_n 3, 1) := by decide +kernel
theorem d15_77 : decode jdk_17_method_72_code 77 = .ok (.lcmp, 1) := by decide +kernel
theorem d15_78 : decode jdk_17_method_72_code 78 = .ok (.ifCond .ne 7, 3) := by decide +kernel
theorem d15_81 : decode jdk_17_method_72_code 81 = .ok (.iconst 1, 1) := by decide +kernel
theorem d15_82 : decode jdk_17_method_72_code 82 = .ok (.goto 4, 3) := by decide +kernel
theorem d15_86 : decode jdk_17_method_72_code 86 = .ok (.ireturn, 1) := by decide +kernel
def Q_rmEq (Z : State) (a : Addr) (a2 : Addr) (x : Int64) (h0 : Heap) (n0 : Nat) (v : Option Value) (h : Heap) (L : List Loc) : Prop := v = some (.int 1) ∧ Fr n0 L ∧ h = h0
set_option maxRecDepth 65536 in
set_option maxHeartbeats 40000000 in
theorem rmEq (l : Launch) (Z : State) (a0 : Array Value) (hw : ∀ d ∈ tables_1, d.before a0 Z = true) (ws : List Jvm.Cond) (a : Addr) (a2 : Addr) (x : Int64) (h0 : Heap) (n0 : Nat) (Z0 : n0 ≤ h0.size) (E_a : Exa Z h0 a "java/math/BigDecimal") (F_a_scale : Fld Z h0 a "java/math/BigDecimal" "scale" "I" (.int 2)) (F_a_intCompact : Fld Z h0 a "java/math/BigDecimal" "intCompact" "J" (.long x)) (E_a2 : Exa Z h0 a2 "java/math/BigDecimal") (F_a2_scale : Fld Z h0 a2 "java/math/BigDecimal" "scale" "I" (.int 2)) (F_a2_intCompact : Fld Z h0 a2 "java/math/BigDecimal" "intCompact" "J" (.long x)) (hm : (¬ x = (-9223372036854775808 : Int64))) :
    MetFree l (⟨"java/math/BigDecimal", "equals", "(Ljava/lang/Object;)Z"⟩ : MethodName) (head1 (Jvm.Cond.code (⟨"java/math/BigDecimal", "equals", "(Ljava/lang/Object;)Z"⟩ : MethodName) jdk_17_method_72_code 7 (some .boolean) :: ws) ({ frames := 0, cells := 0, slots := 0, locals := 0 } : Room)) (fun as' U => as' = #[(.ref a), (.ref a2)] ∧ Z.Warmed39 U.vm ∧ U.heap = h0) (fun _ _ _ _ _ => True) (fun _ U o U' => ∃ v L, o = .returned v ∧ Q_rmEq Z a a2 x h0 n0 v U'.heap L ∧ FrameEnd U o U' L ({ frames := 0, cells := 0, slots := 0, locals := 0 } : Room).cells ({ frames := 0, cells := 0, slots := 0, locals := 0 } : Room).slots) := by
  refine MetFree.of_bodySF (plainFor_of_name pn_7) hisR ?_
  intro p e s m args below meth c s₁ Bd hml0 hP hK
  obtain ⟨rfl, hZ, hh⟩ := hP
  have hx := Bd.exec
  have hby := Bd.bytes
  have hml : c.maxLocals = 7 := hml0
  have hown : s.vm.findClass "java/math/BigDecimal" = some m.cls := findClass_of_methodNamed Bd.named
  have hnm := (name_of_methodNamed Bd.named Bd.method).1
  have X0 : Stand p l e ({ frames := 0, cells := 0, slots := 0, locals := 0 } : Room) s m #[(.ref a), (.ref a2)] below meth c s₁ [] 0 0 := Stand.of_body Bd
  have e0 : s₁.heap = h0 := by rw [← hh, Bd.state]; rfl
  have N0 := Fr.nil n0
  refine Go.enter (F := EndN s (Q_rmEq Z a a2 x h0 n0) ({ frames := 0, cells := 0, slots := 0, locals := 0 } : Room).cells ({ frames := 0, cells := 0, slots := 0, locals := 0 } : Room).slots) (ef_201 m a a2) ?_
  show Go _ _ _ _ s₁ (mkF m 0 #[rv a, rv a2, un, un, un, un, un] [])
  refine Go.aload1 1 X0 hx (hb hby d15_0) rfl rfl rfl ?_
  obtain ⟨T1, X1, e1, st1⟩ := instY X0 hx hZ hown (ow hw 9 rfl) e0 (Ins.self E_a2) (g := (mkF m 1 #[rv a, rv a2, un, un, un, un, un] [(.ref a2)])) rfl rfl (hb hby d15_1)
  refine Go.by st1 ?_
  show Go _ _ _ _ T1 (mkF m 4 #[rv a, rv a2, un, un, un, un, un] [(.int 1)])
  refine Go.ifN 7 X1 hx (hb hby d15_4) (XT.i0_eq_f (by decide)) rfl ?_
  refine Go.aload1 8 X1 hx (hb hby d15_7) rfl rfl rfl ?_
  obtain ⟨T2, X2, e2, st2⟩ := castY X1 hx hZ hown (ow hw 9 rfl) e1 (Ins.self E_a2) (g := (mkF m 8 #[rv a, rv a2, un, un, un, un, un] [(.ref a2)])) rfl rfl (hb hby d15_8)
  refine Go.by st2 ?_
  show Go _ _ _ _ T2 (mkF m 11 #[rv a, rv a2, un, un, un, un, un] [(.ref a2)])
  refine Go.astore1 12 X2 hx (L' := #[rv a, rv a2, rv a2, un, un, un, un]) (hb hby d15_11) rfl rfl rfl ?_
  refine Go.goto 17 X2 hx (hb hby d15_12) (by decide) (by decide) ?_
  refine Go.aload1 18 X2 hx (hb hby d15_17) rfl rfl rfl ?_
  refine Go.aload1 19 X2 hx (hb hby d15_18) rfl rfl rfl ?_
  by_cases hb3 : ((.ref a2) : Value) = (.ref a)
  · refine Go.by (fun _ gk => XT.acmpNo X2.here hx rfl (hb hby d15_19) rfl rfl rfl (XT.aa_ne_f hb3) gk) ?_
    show Go _ _ _ _ T2 (mkF m 22 #[rv a, rv a2, rv a2, un, un, un, un] [])
    refine Go.iconst 23 X2 hx (1 : Int32) (hb hby d15_22) (by decide) rfl ?_
    exact Go.retI X2 hx Bd.notSynchronized Bd.returns rfl (by simp) (hb hby d15_23) (by rw [e2]; exact ⟨rfl, N0, rfl⟩) (by decide) (by decide)
  · refine Go.by (fun _ gk => XT.acmpYes X2.here hx rfl (pc0 := 19) (pc' := 24) rfl (hb hby d15_19) rfl rfl rfl (XT.aa_ne_t hb3) (by decide) (by decide) gk) ?_
    show Go _ _ _ _ T2 (mkF m 24 #[rv a, rv a2, rv a2, un, un, un, un] [])
    refine Go.aload1 25 X2 hx (hb hby d15_24) rfl rfl rfl ?_
    obtain ⟨T4, X4, e4, st4⟩ := getF X2 hx hZ hown (host := "") (Or.inl (ow hw 25 rfl)) Via.refl e2 F_a_scale (g := (mkF m 25 #[rv a, rv a2, rv a2, un, un, un, un] [(.ref a)])) rfl rfl (hb hby d15_25)
    refine Go.by st4 ?_
    show Go _ _ _ _ T4 (mkF m 28 #[rv a, rv a2, rv a2, un, un, un, un] [(.int 2)])
    refine Go.aload1 29 X4 hx (hb hby d15_28) rfl rfl rfl ?_
    obtain ⟨T5, X5, e5, st5⟩ := getF X4 hx hZ hown (host := "") (Or.inl (ow hw 25 rfl)) Via.refl e4 F_a2_scale (g := (mkF m 29 #[rv a, rv a2, rv a2, un, un, un, un] [(.ref a2), (.int 2)])) rfl rfl (hb hby d15_29)
    refine Go.by st5 ?_
    show Go _ _ _ _ T5 (mkF m 32 #[rv a, rv a2, rv a2, un, un, un, un] [(.int 2), (.int 2)])
    refine Go.icmpY 37 X5 hx (hb hby d15_32) (XT.ii_eq_t rfl) (by decide) (by decide) ?_
    refine Go.aload1 38 X5 hx (hb hby d15_37) rfl rfl rfl ?_
    obtain ⟨T6, X6, e6, st6⟩ := getF X5 hx hZ hown (host := "") (Or.inl (ow hw 29 rfl)) Via.refl e5 F_a_intCompact (g := (mkF m 38 #[rv a, rv a2, rv a2, un, un, un, un] [(.ref a)])) rfl rfl (hb hby d15_38)
    refine Go.by st6 ?_
    show Go _ _ _ _ T6 (mkF m 41 #[rv a, rv a2, rv a2, un, un, un, un] [(.long x)])
    refine Go.lstore1 42 X6 hx (L' := #[rv a, rv a2, rv a2, .val (.long x), .second, un, un]) (hb hby d15_41) rfl rfl ?_
    refine Go.aload1 43 X6 hx (hb hby d15_42) rfl rfl rfl ?_
    obtain ⟨T7, X7, e7, st7⟩ := getF X6 hx hZ hown (host := "") (Or.inl (ow hw 29 rfl)) Via.refl e6 F_a2_intCompact (g := (mkF m 43 #[rv a, rv a2, rv a2, .val (.long x), .second, un, un] [(.ref a2)])) rfl rfl (hb hby d15_43)
    refine Go.by st7 ?_
    show Go _ _ _ _ T7 (mkF m 46 #[rv a, rv a2, rv a2, .val (.long x), .second, un, un] [(.long x)])
    refine Go.lstore2 48 X7 hx (L' := #[rv a, rv a2, rv a2, .val (.long x), .second, .val (.long x), .second]) (hb hby d15_46) rfl rfl ?_
    refine Go.lload1 49 X7 hx (hb hby d15_48) rfl rfl ?_
    refine Go.by (fun _ gk => X7.ldc2J hx hown (mvT hZ (ow hw 11 rfl)) (g := (mkF m 49 #[rv a, rv a2, rv a2, .val (.long x), .second, .val (.long x), .second] [(.long x)])) rfl (hb hby d15_49) gk) ?_
    show Go _ _ _ _ T7 (mkF m 52 #[rv a, rv a2, rv a2, .val (.long x), .second, .val (.long x), .second] [(.long (-9223372036854775808 : Int64)), (.long x)])
    refine Go.lcmp 53 X7 hx (hb hby d15_52) rfl ?_
    refine Go.ifN 56 X7 hx (hb hby d15_53) (XT.ll_eq_f hm) rfl ?_
    refine Go.lload2 58 X7 hx (hb hby d15_56) rfl rfl ?_
    refine Go.by (fun _ gk => X7.ldc2J hx hown (mvT hZ (ow hw 11 rfl)) (g := (mkF m 58 #[rv a, rv a2, rv a2, .val (.long x), .second, .val (.long x), .second] [(.long x)])) rfl (hb hby d15_58) gk) ?_
    show Go _ _ _ _ T7 (mkF m 61 #[rv a, rv a2, rv a2, .val (.long x), .second, .val (.long x), .second] [(.long (-9223372036854775808 : Int64)), (.long x)])
    refine Go.lcmp 62 X7 hx (hb hby d15_61) rfl ?_
    refine Go.ifY 74 X7 hx (hb hby d15_62) (XT.ll_ne_t hm) (by decide) (by decide) ?_
    refine Go.lload2 76 X7 hx (hb hby d15_74) rfl rfl ?_
    refine Go.lload1 77 X7 hx (hb hby d15_76) rfl rfl ?_
    refine Go.lcmp 78 X7 hx (hb hby d15_77) rfl ?_
    refine Go.ifN 81 X7 hx (hb hby d15_78) (XT.ll_ne_f rfl) rfl ?_
    refine Go.iconst 82 X7 hx (1 : Int32) (hb hby d15_81) (by decide) rfl ?_
    refine Go.goto 86 X7 hx (hb hby d15_82) (by decide) (by decide) ?_
    exact Go.retI X7 hx Bd.notSynchronized Bd.returns rfl (by simp) (hb hby d15_86) (by rw [e7]; exact ⟨rfl, N0, rfl⟩) (by decide) (by decide)
theorem pn_240 : plainName "java/util/Objects" = true := by first | (simp [plainName, overriddenIn]; done) | decide +kernel
theorem d13_0 : decode jdk_31_method_10_code 0 = .ok (.aload_n 0, 1) := by decide +kernel
theorem d13_1 : decode jdk_31_method_10_code 1 = .ok (.ifnonnull 11, 3) := by decide +kernel
theorem d13_12 : decode jdk_31_method_10_code 12 = .ok (.aload_n 0, 1) := by decide +kernel
theorem d13_13 : decode jdk_31_method_10_code 13 = .ok (.areturn, 1) := by decide +kernel
def Q_rmRnn (Z : State) (a : Addr) (h0 : Heap) (n0 : Nat) (v : Option Value) (h : Heap) (L : List Loc) : Prop := v = some (.ref a) ∧ Fr n0 L ∧ h = h0
set_option maxRecDepth 65536 in
set_option maxHeartbeats 40000000 in
theorem rmRnn (l : Launch) (Z : State) (a0 : Array Value) (hw : ∀ d ∈ tables_1, d.before a0 Z = true) (ws : List Jvm.Cond) (a : Addr) (h0 : Heap) (n0 : Nat) (Z0 : n0 ≤ h0.size)  :
    MetFree l (⟨"java/util/Objects", "requireNonNull", "(Ljava/lang/Object;)Ljava/lang/Object;"⟩ : MethodName) (head1 (Jvm.Cond.code (⟨"java/util/Objects", "requireNonNull", "(Ljava/lang/Object;)Ljava/lang/Object;"⟩ : MethodName) jdk_31_method_10_code 1 (some (.object "java/lang/Object")) :: ws) ({ frames := 0, cells := 0, slots := 0, locals := 0 } : Room)) (fun as' U => as' = #[(.ref a)] ∧ Z.Warmed39 U.vm ∧ U.heap = h0) (fun _ _ _ _ _ => True) (fun _ U o U' => ∃ v L, o = .returned v ∧ Q_rmRnn Z a h0 n0 v U'.heap L ∧ FrameEnd U o U' L ({ frames := 0, cells := 0, slots := 0, locals := 0 } : Room).cells ({ frames := 0, cells := 0, slots := 0, locals := 0 } : Room).slots) := by
  refine MetFree.of_bodySF (plainFor_of_name pn_240) hisR ?_
  intro p e s m args below meth c s₁ Bd hml0 hP hK
  obtain ⟨rfl, hZ, hh⟩ := hP
  have hx := Bd.exec
  have hby := Bd.bytes
  have hml : c.maxLocals = 1 := hml0
  have hown : s.vm.findClass "java/util/Objects" = some m.cls := findClass_of_methodNamed Bd.named
  have hnm := (name_of_methodNamed Bd.named Bd.method).1
  have X0 : Stand p l e ({ frames := 0, cells := 0, slots := 0, locals := 0 } : Room) s m #[(.ref a)] below meth c s₁ [] 0 0 := Stand.of_body Bd
  have e0 : s₁.heap = h0 := by rw [← hh, Bd.state]; rfl
  have N0 := Fr.nil n0
  refine Go.enter (F := EndN s (Q_rmRnn Z a h0 n0) ({ frames := 0, cells := 0, slots := 0, locals := 0 } : Room).cells ({ frames := 0, cells := 0, slots := 0, locals := 0 } : Room).slots) (ef_3 m a) ?_
  show Go _ _ _ _ s₁ (mkF m 0 #[rv a] [])
  refine Go.aload1 1 X0 hx (hb hby d13_0) rfl rfl rfl ?_
  refine Go.by (fun _ gk => XT.nonnullYes X0.here hx rfl (pc0 := 1) (pc' := 12) rfl (hb hby d13_1) rfl rfl nofun (by decide) (by decide) gk) ?_
  show Go _ _ _ _ s₁ (mkF m 12 #[rv a] [])
  refine Go.aload1 13 X0 hx (hb hby d13_12) rfl rfl rfl ?_
  exact Go.retA X0 hx Bd.notSynchronized Bd.returns rfl rfl (hb hby d13_13) (by rw [e0]; exact ⟨rfl, N0, rfl⟩) (by decide) (by decide)
theorem pn_245 : plainName "com/example/diligent_tariff/diligenttariff/billing/Comparison" = true := by first | (simp [plainName, overriddenIn]; done) | decide +kernel
theorem ef_246 (m : MethodId) (x0 : Addr) (x1 : Addr) (x2 : Addr) : entryFrame m #[(.ref x0), (.ref x1), (.ref x2)] 3 = mkF m 0 #[rv x0, rv x1, rv x2] [] := by (first | (simp [entryFrame, mkF, argsToLocals, Value.category]; done) | rfl)
theorem d12_0 : decode prog_6_method_1_code 0 = .ok (.aload_n 0, 1) := by decide +kernel
theorem d12_1 : decode prog_6_method_1_code 1 = .ok (.invokespecial 1, 3) := by decide +kernel
theorem d12_4 : decode prog_6_method_1_code 4 = .ok (.aload_n 0, 1) := by decide +kernel
theorem d12_5 : decode prog_6_method_1_code 5 = .ok (.aload_n 1, 1) := by decide +kernel
theorem pd_251 : parseMethodDescriptor "(Ljava/lang/Object;)Ljava/lang/Object;" = some ⟨[(.object "java/lang/Object")], some (.object "java/lang/Object")⟩ := by decide +kernel
theorem d12_6 : decode prog_6_method_1_code 6 = .ok (.invokestatic 7, 3) := by decide +kernel
theorem d12_9 : decode prog_6_method_1_code 9 = .ok (.checkcast 13, 3) := by decide +kernel
theorem d12_12 : decode prog_6_method_1_code 12 = .ok (.putfield 15, 3) := by decide +kernel
theorem d12_15 : decode prog_6_method_1_code 15 = .ok (.aload_n 0, 1) := by decide +kernel
theorem d12_16 : decode prog_6_method_1_code 16 = .ok (.aload_n 2, 1) := by decide +kernel
theorem d12_17 : decode prog_6_method_1_code 17 = .ok (.invokestatic 7, 3) := by decide +kernel
theorem d12_20 : decode prog_6_method_1_code 20 = .ok (.checkcast 13, 3) := by decide +kernel
theorem d12_23 : decode prog_6_method_1_code 23 = .ok (.putfield 21, 3) := by decide +kernel
theorem d12_26 : decode prog_6_method_1_code 26 = .ok (.return_, 1) := by decide +kernel
def Q_rmCo (Z : State) (c0 : Addr) (a : Addr) (a2 : Addr) (h0 : Heap) (n0 : Nat) (v : Option Value) (h : Heap) (L : List Loc) : Prop := v = none ∧ Fr n0 L ∧ Keep h0 h [c0] ∧ Exa Z h c0 "com/example/diligent_tariff/diligenttariff/billing/Comparison" ∧ Fld Z h c0 "com/example/diligent_tariff/diligenttariff/billing/Comparison" "current" "Ljava/math/BigDecimal;" (.ref a) ∧ Fld Z h c0 "com/example/diligent_tariff/diligenttariff/billing/Comparison" "proposed" "Ljava/math/BigDecimal;" (.ref a2)
set_option maxRecDepth 65536 in
set_option maxHeartbeats 40000000 in
theorem rmCo (l : Launch) (Z : State) (a0 : Array Value) (hw : ∀ d ∈ tables_1, d.before a0 Z = true) (ws : List Jvm.Cond) (c0 : Addr) (a : Addr) (a2 : Addr) (h0 : Heap) (n0 : Nat) (Z0 : n0 ≤ h0.size) (E_c0 : Exa Z h0 c0 "com/example/diligent_tariff/diligenttariff/billing/Comparison") (F_c0_current : Fld Z h0 c0 "com/example/diligent_tariff/diligenttariff/billing/Comparison" "current" "Ljava/math/BigDecimal;" .null) (F_c0_proposed : Fld Z h0 c0 "com/example/diligent_tariff/diligenttariff/billing/Comparison" "proposed" "Ljava/math/BigDecimal;" .null) (g_c0 : n0 ≤ c0) (E_a : Exa Z h0 a "java/math/BigDecimal") (E_a2 : Exa Z h0 a2 "java/math/BigDecimal") :
    MetFree l (⟨"com/example/diligent_tariff/diligenttariff/billing/Comparison", "<init>", "(Ljava/math/BigDecimal;Ljava/math/BigDecimal;)V"⟩ : MethodName) (head1 (Jvm.Cond.code (⟨"com/example/diligent_tariff/diligenttariff/billing/Comparison", "<init>", "(Ljava/math/BigDecimal;Ljava/math/BigDecimal;)V"⟩ : MethodName) prog_6_method_1_code 3 none :: ws) ({ frames := 1, cells := 0, slots := 0, locals := 13 } : Room)) (fun as' U => as' = #[(.ref c0), (.ref a), (.ref a2)] ∧ Z.Warmed39 U.vm ∧ U.heap = h0) (fun _ _ _ _ _ => True) (fun _ U o U' => ∃ v L, o = .returned v ∧ Q_rmCo Z c0 a a2 h0 n0 v U'.heap L ∧ FrameEnd U o U' L ({ frames := 1, cells := 0, slots := 0, locals := 13 } : Room).cells ({ frames := 1, cells := 0, slots := 0, locals := 13 } : Room).slots) := by
  refine MetFree.of_bodySF (plainFor_of_name pn_245) hisR ?_
  intro p e s m args below meth c s₁ Bd hml0 hP hK
  obtain ⟨rfl, hZ, hh⟩ := hP
  have hx := Bd.exec
  have hby := Bd.bytes
  have hml : c.maxLocals = 3 := hml0
  have hown : s.vm.findClass "com/example/diligent_tariff/diligenttariff/billing/Comparison" = some m.cls := findClass_of_methodNamed Bd.named
  have hnm := (name_of_methodNamed Bd.named Bd.method).1
  have X0 : Stand p l e ({ frames := 1, cells := 0, slots := 0, locals := 13 } : Room) s m #[(.ref c0), (.ref a), (.ref a2)] below meth c s₁ [] 0 0 := Stand.of_body Bd
  have e0 : s₁.heap = h0 := by rw [← hh, Bd.state]; rfl
  have N0 := Fr.nil n0
  refine Go.enter (F := EndN s (Q_rmCo Z c0 a a2 h0 n0) ({ frames := 1, cells := 0, slots := 0, locals := 13 } : Room).cells ({ frames := 1, cells := 0, slots := 0, locals := 13 } : Room).slots) (ef_246 m c0 a a2) ?_
  show Go _ _ _ _ s₁ (mkF m 0 #[rv c0, rv a, rv a2] [])
  refine Go.aload1 1 X0 hx (hb hby d12_0) rfl rfl rfl ?_
  obtain ⟨T1, X1, e1, st1⟩ := initO X0 hx hZ hown (ow hw 75 rfl) (ow hw 23 rfl) (ow hw 24 rfl) e0 (g := (mkF m 1 #[rv c0, rv a, rv a2] [(.ref c0)])) rfl (by rw [hml]; rfl) rfl (hb hby d12_1) (by decide) (W := 0) (by show 2 * 0 + _ ≤ _; exact Nat.le_of_eq rfl) (by decide)
  refine Go.by st1 ?_
  show Go _ _ _ _ T1 (mkF m 4 #[rv c0, rv a, rv a2] [])
  refine Go.aload1 5 X1 hx (hb hby d12_4) rfl rfl rfl ?_
  refine Go.aload1 6 X1 hx (hb hby d12_5) rfl rfl rfl ?_
  obtain ⟨_, _, ⟨T2, L2, k2, n2⟩, -, X2, ⟨Lc2, hQ2, l2, y2, z2⟩, st2⟩ := Jvm.LawKit.callS X1 hx (y := (⟨"java/util/Objects", "requireNonNull", "(Ljava/lang/Object;)Ljava/lang/Object;"⟩ : MethodName)) hown (mvT hZ (ow hw 76 rfl)) (mvT hZ (ow hw 77 rfl)) (mvT hZ (ow hw 78 rfl)) (mvT hZ (ow hw 79 rfl)) (by decide) (backOf (W := 1) (rmRnn l Z a0 hw [] a h0 n0 Z0 ) hZ (ow hw 79 rfl) (ow hw 78 rfl) (by decide) (by decide)) (g := (mkF m 6 #[rv c0, rv a, rv a2] [(.ref a), (.ref c0)])) rfl (by rw [hml]; rfl) (argsL := [(.ref a)]) (rest := [(.ref c0)]) (lenOf pd_251 rfl) rfl (by show 2 * 0 + _ ≤ _; exact Nat.le_of_eq rfl) (hb hby d12_6) (fun _ _ => ⟨rfl, e1, (by decide : 0 + 0 ≤ _), (by decide : 0 + 0 ≤ _)⟩)
  dsimp only [Pt.U, Pt.locs, Pt.cells, Pt.slots] at X2 l2 y2 z2 st2 hQ2
  subst l2 y2 z2
  obtain ⟨rfl, N2q, e2⟩ := hQ2
  have N2 := Fr.app N0 N2q
  refine Go.by st2 ?_
  show Go _ _ _ _ T2 (mkF m 9 #[rv c0, rv a, rv a2] [(.ref a), (.ref c0)])
  obtain ⟨T3, X3, e3, st3⟩ := castY X2 hx hZ hown (ow hw 80 rfl) e2 (Ins.self E_a) (g := (mkF m 9 #[rv c0, rv a, rv a2] [(.ref a), (.ref c0)])) rfl rfl (hb hby d12_9)
  refine Go.by st3 ?_
  show Go _ _ _ _ T3 (mkF m 12 #[rv c0, rv a, rv a2] [(.ref a), (.ref c0)])
  obtain ⟨T4, h4, X4, e4, W4, st4⟩ := putF X3 hx hZ hown (host := "") (Or.inl (ow hw 81 rfl)) Via.refl e3 F_c0_current E_c0 (Or.inr ⟨(ow hw 82 rfl), rfl, hnm⟩) (ow hw 70 rfl) (ty := (.object "java/math/BigDecimal")) (by decide) rfl rfl (g := (mkF m 12 #[rv c0, rv a, rv a2] [(.ref a), (.ref c0)])) rfl rfl (hb hby d12_12)
  have N4 := Fr.snoc X4 N2 g_c0
  have Fw4 : Fld Z h4 c0 "com/example/diligent_tariff/diligenttariff/billing/Comparison" "current" "Ljava/math/BigDecimal;" (.ref a) := F_c0_current.same W4
  refine Go.by st4 ?_
  show Go _ _ _ _ T4 (mkF m 15 #[rv c0, rv a, rv a2] [])
  refine Go.aload1 16 X4 hx (hb hby d12_15) rfl rfl rfl ?_
  refine Go.aload1 17 X4 hx (hb hby d12_16) rfl rfl rfl ?_
  have F5 : n0 ≤ h4.size := Nat.le_trans Z0 (Nat.le_of_eq (Wr.size W4).symm)
  obtain ⟨_, _, ⟨T6, L6, k6, n6⟩, -, X6, ⟨Lc6, hQ6, l6, y6, z6⟩, st6⟩ := Jvm.LawKit.callS X4 hx (y := (⟨"java/util/Objects", "requireNonNull", "(Ljava/lang/Object;)Ljava/lang/Object;"⟩ : MethodName)) hown (mvT hZ (ow hw 76 rfl)) (mvT hZ (ow hw 77 rfl)) (mvT hZ (ow hw 78 rfl)) (mvT hZ (ow hw 79 rfl)) (by decide) (backOf (W := 1) (rmRnn l Z a0 hw [] a2 h4 n0 F5 ) hZ (ow hw 79 rfl) (ow hw 78 rfl) (by decide) (by decide)) (g := (mkF m 17 #[rv c0, rv a, rv a2] [(.ref a2), (.ref c0)])) rfl (by rw [hml]; rfl) (argsL := [(.ref a2)]) (rest := [(.ref c0)]) (lenOf pd_251 rfl) rfl (by show 2 * 0 + _ ≤ _; exact Nat.le_of_eq rfl) (hb hby d12_17) (fun _ _ => ⟨rfl, e4, (by decide : 0 + 0 ≤ _), (by decide : 0 + 0 ≤ _)⟩)
  dsimp only [Pt.U, Pt.locs, Pt.cells, Pt.slots] at X6 l6 y6 z6 st6 hQ6
  subst l6 y6 z6
  obtain ⟨rfl, N6q, e6⟩ := hQ6
  have N6 := Fr.app N4 N6q
  refine Go.by st6 ?_
  show Go _ _ _ _ T6 (mkF m 20 #[rv c0, rv a, rv a2] [(.ref a2), (.ref c0)])
  have F8 : Exa Z h4 a2 "java/math/BigDecimal" := E_a2.wr W4
  obtain ⟨T7, X7, e7, st7⟩ := castY X6 hx hZ hown (ow hw 80 rfl) e6 (Ins.self F8) (g := (mkF m 20 #[rv c0, rv a, rv a2] [(.ref a2), (.ref c0)])) rfl rfl (hb hby d12_20)
  refine Go.by st7 ?_
  show Go _ _ _ _ T7 (mkF m 23 #[rv c0, rv a, rv a2] [(.ref a2), (.ref c0)])
  have F9 : Fld Z h4 c0 "com/example/diligent_tariff/diligenttariff/billing/Comparison" "proposed" "Ljava/math/BigDecimal;" .null := F_c0_proposed.other W4 (Or.inr (slot_ne (Or.inr (ow hw 84 rfl)) (Or.inr (ow hw 82 rfl)) (by decide) (t := (.object "java/math/BigDecimal")) (t' := (.object "java/math/BigDecimal")) (by decide) (by decide)))
  have F10 : Exa Z h4 c0 "com/example/diligent_tariff/diligenttariff/billing/Comparison" := E_c0.wr W4
  obtain ⟨T11, h11, X11, e11, W11, st11⟩ := putF X7 hx hZ hown (host := "") (Or.inl (ow hw 83 rfl)) Via.refl e7 F9 F10 (Or.inr ⟨(ow hw 84 rfl), rfl, hnm⟩) (ow hw 70 rfl) (ty := (.object "java/math/BigDecimal")) (by decide) rfl rfl (g := (mkF m 23 #[rv c0, rv a, rv a2] [(.ref a2), (.ref c0)])) rfl rfl (hb hby d12_23)
  have N11 := Fr.snoc X11 N6 g_c0
  have Fw11 : Fld Z h11 c0 "com/example/diligent_tariff/diligenttariff/billing/Comparison" "proposed" "Ljava/math/BigDecimal;" (.ref a2) := F9.same W11
  refine Go.by st11 ?_
  show Go _ _ _ _ T11 (mkF m 26 #[rv c0, rv a, rv a2] [])
  have F12 : Keep h0 h4 [c0] := (Keep.refl h0 [c0]).wr W4 (Or.inl (List.mem_of_getElem? (i := 0) rfl))
  have F13 : Keep h0 h11 [c0] := F12.wr W11 (Or.inl (List.mem_of_getElem? (i := 0) rfl))
  have F14 : Exa Z h11 c0 "com/example/diligent_tariff/diligenttariff/billing/Comparison" := F10.wr W11
  have F15 : Fld Z h11 c0 "com/example/diligent_tariff/diligenttariff/billing/Comparison" "current" "Ljava/math/BigDecimal;" (.ref a) := Fw4.other W11 (Or.inr (slot_ne (Or.inr (ow hw 82 rfl)) (Or.inr (ow hw 84 rfl)) (by decide) (t := (.object "java/math/BigDecimal")) (t' := (.object "java/math/BigDecimal")) (by decide) (by decide)))
  exact Go.retV X11 hx Bd.notSynchronized Bd.returns (hb hby d12_26) (by rw [e11]; exact ⟨rfl, N11, F13, F14, F15, Fw11⟩) (by decide) (by decide)
theorem d14_0 : decode prog_6_method_2_code 0 = .ok (.aload_n 0, 1) := by decide +kernel
theorem d14_1 : decode prog_6_method_2_code 1 = .ok (.getfield 15, 3) := by decide +kernel
theorem d14_4 : decode prog_6_method_2_code 4 = .ok (.areturn, 1) := by decide +kernel
def Q_rmGc (Z : State) (c0 : Addr) (a : Addr) (h0 : Heap) (n0 : Nat) (v : Option Value) (h : Heap) (L : List Loc) : Prop := v = some (.ref a) ∧ Fr n0 L ∧ h = h0
set_option maxRecDepth 65536 in
set_option maxHeartbeats 40000000 in
theorem rmGc (l : Launch) (Z : State) (a0 : Array Value) (hw : ∀ d ∈ tables_1, d.before a0 Z = true) (ws : List Jvm.Cond) (c0 : Addr) (a : Addr) (h0 : Heap) (n0 : Nat) (Z0 : n0 ≤ h0.size) (F_c0_current : Fld Z h0 c0 "com/example/diligent_tariff/diligenttariff/billing/Comparison" "current" "Ljava/math/BigDecimal;" (.ref a)) :
    MetFree l (⟨"com/example/diligent_tariff/diligenttariff/billing/Comparison", "getCurrent", "()Ljava/math/BigDecimal;"⟩ : MethodName) (head1 (Jvm.Cond.code (⟨"com/example/diligent_tariff/diligenttariff/billing/Comparison", "getCurrent", "()Ljava/math/BigDecimal;"⟩ : MethodName) prog_6_method_2_code 1 (some (.object "java/math/BigDecimal")) :: ws) ({ frames := 0, cells := 0, slots := 0, locals := 0 } : Room)) (fun as' U => as' = #[(.ref c0)] ∧ Z.Warmed39 U.vm ∧ U.heap = h0) (fun _ _ _ _ _ => True) (fun _ U o U' => ∃ v L, o = .returned v ∧ Q_rmGc Z c0 a h0 n0 v U'.heap L ∧ FrameEnd U o U' L ({ frames := 0, cells := 0, slots := 0, locals := 0 } : Room).cells ({ frames := 0, cells := 0, slots := 0, locals := 0 } : Room).slots) := by
  refine MetFree.of_bodySF (plainFor_of_name pn_245) hisR ?_
  intro p e s m args below meth c s₁ Bd hml0 hP hK
  obtain ⟨rfl, hZ, hh⟩ := hP
  have hx := Bd.exec
  have hby := Bd.bytes
  have hml : c.maxLocals = 1 := hml0
  have hown : s.vm.findClass "com/example/diligent_tariff/diligenttariff/billing/Comparison" = some m.cls := findClass_of_methodNamed Bd.named
  have hnm := (name_of_methodNamed Bd.named Bd.method).1
  have X0 : Stand p l e ({ frames := 0, cells := 0, slots := 0, locals := 0 } : Room) s m #[(.ref c0)] below meth c s₁ [] 0 0 := Stand.of_body Bd
  have e0 : s₁.heap = h0 := by rw [← hh, Bd.state]; rfl
  have N0 := Fr.nil n0
  refine Go.enter (F := EndN s (Q_rmGc Z c0 a h0 n0) ({ frames := 0, cells := 0, slots := 0, locals := 0 } : Room).cells ({ frames := 0, cells := 0, slots := 0, locals := 0 } : Room).slots) (ef_3 m c0) ?_
  show Go _ _ _ _ s₁ (mkF m 0 #[rv c0] [])
  refine Go.aload1 1 X0 hx (hb hby d14_0) rfl rfl rfl ?_
  obtain ⟨T1, X1, e1, st1⟩ := getF X0 hx hZ hown (host := "") (Or.inl (ow hw 81 rfl)) Via.refl e0 F_c0_current (g := (mkF m 1 #[rv c0] [(.ref c0)])) rfl rfl (hb hby d14_1)
  refine Go.by st1 ?_
  show Go _ _ _ _ T1 (mkF m 4 #[rv c0] [(.ref a)])
  exact Go.retA X1 hx Bd.notSynchronized Bd.returns rfl rfl (hb hby d14_4) (by rw [e1]; exact ⟨rfl, N0, rfl⟩) (by decide) (by decide)
theorem d16_0 : decode prog_6_method_3_code 0 = .ok (.aload_n 0, 1) := by decide +kernel
theorem d16_1 : decode prog_6_method_3_code 1 = .ok (.getfield 21, 3) := by decide +kernel
theorem d16_4 : decode prog_6_method_3_code 4 = .ok (.areturn, 1) := by decide +kernel
def Q_rmGp (Z : State) (c0 : Addr) (a : Addr) (h0 : Heap) (n0 : Nat) (v : Option Value) (h : Heap) (L : List Loc) : Prop := v = some (.ref a) ∧ Fr n0 L ∧ h = h0
set_option maxRecDepth 65536 in
set_option maxHeartbeats 40000000 in
theorem rmGp (l : Launch) (Z : State) (a0 : Array Value) (hw : ∀ d ∈ tables_1, d.before a0 Z = true) (ws : List Jvm.Cond) (c0 : Addr) (a : Addr) (h0 : Heap) (n0 : Nat) (Z0 : n0 ≤ h0.size) (F_c0_proposed : Fld Z h0 c0 "com/example/diligent_tariff/diligenttariff/billing/Comparison" "proposed" "Ljava/math/BigDecimal;" (.ref a)) :
    MetFree l (⟨"com/example/diligent_tariff/diligenttariff/billing/Comparison", "getProposed", "()Ljava/math/BigDecimal;"⟩ : MethodName) (head1 (Jvm.Cond.code (⟨"com/example/diligent_tariff/diligenttariff/billing/Comparison", "getProposed", "()Ljava/math/BigDecimal;"⟩ : MethodName) prog_6_method_3_code 1 (some (.object "java/math/BigDecimal")) :: ws) ({ frames := 0, cells := 0, slots := 0, locals := 0 } : Room)) (fun as' U => as' = #[(.ref c0)] ∧ Z.Warmed39 U.vm ∧ U.heap = h0) (fun _ _ _ _ _ => True) (fun _ U o U' => ∃ v L, o = .returned v ∧ Q_rmGp Z c0 a h0 n0 v U'.heap L ∧ FrameEnd U o U' L ({ frames := 0, cells := 0, slots := 0, locals := 0 } : Room).cells ({ frames := 0, cells := 0, slots := 0, locals := 0 } : Room).slots) := by
  refine MetFree.of_bodySF (plainFor_of_name pn_245) hisR ?_
  intro p e s m args below meth c s₁ Bd hml0 hP hK
  obtain ⟨rfl, hZ, hh⟩ := hP
  have hx := Bd.exec
  have hby := Bd.bytes
  have hml : c.maxLocals = 1 := hml0
  have hown : s.vm.findClass "com/example/diligent_tariff/diligenttariff/billing/Comparison" = some m.cls := findClass_of_methodNamed Bd.named
  have hnm := (name_of_methodNamed Bd.named Bd.method).1
  have X0 : Stand p l e ({ frames := 0, cells := 0, slots := 0, locals := 0 } : Room) s m #[(.ref c0)] below meth c s₁ [] 0 0 := Stand.of_body Bd
  have e0 : s₁.heap = h0 := by rw [← hh, Bd.state]; rfl
  have N0 := Fr.nil n0
  refine Go.enter (F := EndN s (Q_rmGp Z c0 a h0 n0) ({ frames := 0, cells := 0, slots := 0, locals := 0 } : Room).cells ({ frames := 0, cells := 0, slots := 0, locals := 0 } : Room).slots) (ef_3 m c0) ?_
  show Go _ _ _ _ s₁ (mkF m 0 #[rv c0] [])
  refine Go.aload1 1 X0 hx (hb hby d16_0) rfl rfl rfl ?_
  obtain ⟨T1, X1, e1, st1⟩ := getF X0 hx hZ hown (host := "") (Or.inl (ow hw 83 rfl)) Via.refl e0 F_c0_proposed (g := (mkF m 1 #[rv c0] [(.ref c0)])) rfl rfl (hb hby d16_1)
  refine Go.by st1 ?_
  show Go _ _ _ _ T1 (mkF m 4 #[rv c0] [(.ref a)])
  exact Go.retA X1 hx Bd.notSynchronized Bd.returns rfl rfl (hb hby d16_4) (by rw [e1]; exact ⟨rfl, N0, rfl⟩) (by decide) (by decide)
theorem d18_0 : decode prog_6_method_4_code 0 = .ok (.aload_n 0, 1) := by decide +kernel
theorem d18_1 : decode prog_6_method_4_code 1 = .ok (.getfield 21, 3) := by decide +kernel
theorem d18_4 : decode prog_6_method_4_code 4 = .ok (.aload_n 0, 1) := by decide +kernel
theorem d18_5 : decode prog_6_method_4_code 5 = .ok (.getfield 15, 3) := by decide +kernel
theorem pd_271 : parseMethodDescriptor "(Ljava/math/BigDecimal;)Ljava/math/BigDecimal;" = some ⟨[(.object "java/math/BigDecimal")], some (.object "java/math/BigDecimal")⟩ := by decide +kernel
theorem d18_8 : decode prog_6_method_4_code 8 = .ok (.invokevirtual 24, 3) := by decide +kernel
theorem d18_11 : decode prog_6_method_4_code 11 = .ok (.areturn, 1) := by decide +kernel
def Q_rmGd (Z : State) (c0 : Addr) (a : Addr) (a2 : Addr) (x : Int64) (y : Int64) (ze0 : Addr) (ze1 : Addr) (ze2 : Addr) (ze3 : Addr) (ze4 : Addr) (ze5 : Addr) (ze6 : Addr) (ze7 : Addr) (ze8 : Addr) (ze9 : Addr) (ze10 : Addr) (ze11 : Addr) (ze12 : Addr) (ze13 : Addr) (ze14 : Addr) (ze15 : Addr) (za : Addr) (kz : ClassId) (h0 : Heap) (n0 : Nat) (v : Option Value) (h : Heap) (L : List Loc) : Prop := ∃ b : Addr, v = some (.ref b) ∧ Fr n0 L ∧ Keep h0 h [] ∧ Exa Z h b "java/math/BigDecimal" ∧ Fld Z h b "java/math/BigDecimal" "scale" "I" (.int 2) ∧ Fld Z h b "java/math/BigDecimal" "intCompact" "J" (.long (y + (-x)))
set_option maxRecDepth 65536 in
set_option maxHeartbeats 40000000 in
theorem rmGd (l : Launch) (Z : State) (a0 : Array Value) (hw : ∀ d ∈ tables_1, d.before a0 Z = true) (ws : List Jvm.Cond) (c0 : Addr) (a : Addr) (a2 : Addr) (x : Int64) (y : Int64) (ze0 : Addr) (ze1 : Addr) (ze2 : Addr) (ze3 : Addr) (ze4 : Addr) (ze5 : Addr) (ze6 : Addr) (ze7 : Addr) (ze8 : Addr) (ze9 : Addr) (ze10 : Addr) (ze11 : Addr) (ze12 : Addr) (ze13 : Addr) (ze14 : Addr) (ze15 : Addr) (za : Addr) (kz : ClassId) (h0 : Heap) (n0 : Nat) (Z0 : n0 ≤ h0.size) (O0 : Old Z n0 h0) (F_c0_current : Fld Z h0 c0 "com/example/diligent_tariff/diligenttariff/billing/Comparison" "current" "Ljava/math/BigDecimal;" (.ref a)) (F_c0_proposed : Fld Z h0 c0 "com/example/diligent_tariff/diligenttariff/billing/Comparison" "proposed" "Ljava/math/BigDecimal;" (.ref a2)) (E_a : Exa Z h0 a "java/math/BigDecimal") (F_a_scale : Fld Z h0 a "java/math/BigDecimal" "scale" "I" (.int 2)) (F_a_intCompact : Fld Z h0 a "java/math/BigDecimal" "intCompact" "J" (.long x)) (E_a2 : Exa Z h0 a2 "java/math/BigDecimal") (F_a2_scale : Fld Z h0 a2 "java/math/BigDecimal" "scale" "I" (.int 2)) (F_a2_intCompact : Fld Z h0 a2 "java/math/BigDecimal" "intCompact" "J" (.long y)) (hx1 : (own_bd x)) (hy1 : (own_bd y)) (D0 : Sta Z Z.heap "java/math/BigDecimal" "ZERO_SCALED_BY" "[Ljava/math/BigDecimal;" (.ref za)) (D1 : Sta Z Z.heap "java/math/BigDecimal" "ZERO" "Ljava/math/BigDecimal;" (.ref ze0)) (D2 : Arv Z Z.heap za kz (.object "java/math/BigDecimal") (16 : Int32) ([(.ref ze0), (.ref ze1), (.ref ze2), (.ref ze3), (.ref ze4), (.ref ze5), (.ref ze6), (.ref ze7), (.ref ze8), (.ref ze9), (.ref ze10), (.ref ze11), (.ref ze12), (.ref ze13), (.ref ze14), (.ref ze15)]) .null) (D3 : Exa Z Z.heap ze0 "java/math/BigDecimal") (D4 : Fld Z Z.heap ze0 "java/math/BigDecimal" "scale" "I" (.int 0)) (D5 : Fld Z Z.heap ze0 "java/math/BigDecimal" "intCompact" "J" (.long (0 : Int64))) (D6 : Exa Z Z.heap ze2 "java/math/BigDecimal") (D7 : Fld Z Z.heap ze2 "java/math/BigDecimal" "scale" "I" (.int 2)) (D8 : Fld Z Z.heap ze2 "java/math/BigDecimal" "intCompact" "J" (.long (0 : Int64))) :
    MetFree l (⟨"com/example/diligent_tariff/diligenttariff/billing/Comparison", "getDifference", "()Ljava/math/BigDecimal;"⟩ : MethodName) (head1 (Jvm.Cond.code (⟨"com/example/diligent_tariff/diligenttariff/billing/Comparison", "getDifference", "()Ljava/math/BigDecimal;"⟩ : MethodName) prog_6_method_4_code 1 (some (.object "java/math/BigDecimal")) :: ws) ({ frames := 7, cells := 1, slots := 5, locals := 110 } : Room)) (fun as' U => as' = #[(.ref c0)] ∧ Z.Warmed39 U.vm ∧ U.heap = h0) (fun _ _ _ _ _ => True) (fun _ U o U' => ∃ v L, o = .returned v ∧ Q_rmGd Z c0 a a2 x y ze0 ze1 ze2 ze3 ze4 ze5 ze6 ze7 ze8 ze9 ze10 ze11 ze12 ze13 ze14 ze15 za kz h0 n0 v U'.heap L ∧ FrameEnd U o U' L ({ frames := 7, cells := 1, slots := 5, locals := 110 } : Room).cells ({ frames := 7, cells := 1, slots := 5, locals := 110 } : Room).slots) := by
  refine MetFree.of_bodySF (plainFor_of_name pn_245) hisR ?_
  intro p e s m args below meth c s₁ Bd hml0 hP hK
  obtain ⟨rfl, hZ, hh⟩ := hP
  have hx := Bd.exec
  have hby := Bd.bytes
  have hml : c.maxLocals = 1 := hml0
  have hown : s.vm.findClass "com/example/diligent_tariff/diligenttariff/billing/Comparison" = some m.cls := findClass_of_methodNamed Bd.named
  have hnm := (name_of_methodNamed Bd.named Bd.method).1
  have X0 : Stand p l e ({ frames := 7, cells := 1, slots := 5, locals := 110 } : Room) s m #[(.ref c0)] below meth c s₁ [] 0 0 := Stand.of_body Bd
  have e0 : s₁.heap = h0 := by rw [← hh, Bd.state]; rfl
  have N0 := Fr.nil n0
  refine Go.enter (F := EndN s (Q_rmGd Z c0 a a2 x y ze0 ze1 ze2 ze3 ze4 ze5 ze6 ze7 ze8 ze9 ze10 ze11 ze12 ze13 ze14 ze15 za kz h0 n0) ({ frames := 7, cells := 1, slots := 5, locals := 110 } : Room).cells ({ frames := 7, cells := 1, slots := 5, locals := 110 } : Room).slots) (ef_3 m c0) ?_
  show Go _ _ _ _ s₁ (mkF m 0 #[rv c0] [])
  refine Go.aload1 1 X0 hx (hb hby d18_0) rfl rfl rfl ?_
  obtain ⟨T1, X1, e1, st1⟩ := getF X0 hx hZ hown (host := "") (Or.inl (ow hw 83 rfl)) Via.refl e0 F_c0_proposed (g := (mkF m 1 #[rv c0] [(.ref c0)])) rfl rfl (hb hby d18_1)
  refine Go.by st1 ?_
  show Go _ _ _ _ T1 (mkF m 4 #[rv c0] [(.ref a2)])
  refine Go.aload1 5 X1 hx (hb hby d18_4) rfl rfl rfl ?_
  obtain ⟨T2, X2, e2, st2⟩ := getF X1 hx hZ hown (host := "") (Or.inl (ow hw 81 rfl)) Via.refl e1 F_c0_current (g := (mkF m 5 #[rv c0] [(.ref c0), (.ref a2)])) rfl rfl (hb hby d18_5)
  refine Go.by st2 ?_
  show Go _ _ _ _ T2 (mkF m 8 #[rv c0] [(.ref a), (.ref a2)])
  obtain ⟨cq3, kq3, q3a, q3b, q3c⟩ := isOf hZ e2 E_a2
  obtain ⟨_, _, ⟨T3, L3, k3, n3⟩, -, X3, ⟨Lc3, hQ3, l3, y3, z3⟩, st3⟩ := X2.virtualBack hx (y := (⟨"java/math/BigDecimal", "subtract", "(Ljava/math/BigDecimal;)Ljava/math/BigDecimal;"⟩ : MethodName)) (z := (⟨"java/math/BigDecimal", "subtract", "(Ljava/math/BigDecimal;)Ljava/math/BigDecimal;"⟩ : MethodName)) hown (mvT hZ (ow hw 112 rfl)) (mvT hZ (ow hw 113 rfl)) (notFace_of_selects (args := #[]) (mvT hZ (ow hw 115 rfl))) (mvT hZ (ow hw 115 rfl)) (mvT hZ (ow hw 114 rfl)) (by decide) (backOf (W := 0) (rmSub l Z a0 hw [] a2 a y x ze0 ze1 ze2 ze3 ze4 ze5 ze6 ze7 ze8 ze9 ze10 ze11 ze12 ze13 ze14 ze15 za kz h0 n0 Z0 O0 F_a2_scale F_a2_intCompact F_a_scale F_a_intCompact hy1 hx1 D0 D1 D2 D3 D4 D5 D6 D7 D8) hZ (ow hw 116 rfl) (ow hw 3 rfl) (by decide) (by decide)) q3a q3c (g := (mkF m 8 #[rv c0] [(.ref a), (.ref a2)])) rfl (by rw [hml]; rfl) (Steps.refl _) (argsL := [(.ref a)]) (rest := []) (lenOf pd_271 rfl) rfl (by show 2 * 0 + _ ≤ _; exact Nat.le_of_eq rfl) (hb hby d18_8) (fun _ _ => ⟨rfl, e2, (by decide : 0 + 1 ≤ _), (by decide : 0 + 5 ≤ _)⟩)
  dsimp only [Pt.U, Pt.locs, Pt.cells, Pt.slots] at X3 l3 y3 z3 st3 hQ3
  subst l3 y3 z3
  obtain ⟨b, rfl, N3q, K3, Q3_0, Q3_1, Q3_2⟩ := hQ3
  have N3 := Fr.app N0 N3q
  refine Go.to st3 ?_
  show Go _ _ _ _ T3 (mkF m 11 #[rv c0] [(.ref b)])
  have F4 : Keep h0 T3.heap [] := (Keep.refl h0 []).trans K3 all0
  exact Go.retA X3 hx Bd.notSynchronized Bd.returns rfl rfl (hb hby d18_11) ⟨b, rfl, N3, F4, Q3_0, Q3_1, Q3_2⟩ (by decide) (by decide)
theorem pn_274 : plainName "com/example/diligent_tariff/diligenttariff/billing/ClassImpact" = true := by first | (simp [plainName, overriddenIn]; done) | decide +kernel
theorem d6_0 : decode prog_4_method_1_code 0 = .ok (.aload_n 0, 1) := by decide +kernel
theorem d6_1 : decode prog_4_method_1_code 1 = .ok (.invokespecial 1, 3) := by decide +kernel
theorem d6_4 : decode prog_4_method_1_code 4 = .ok (.aload_n 0, 1) := by decide +kernel
theorem d6_5 : decode prog_4_method_1_code 5 = .ok (.getstatic 7, 3) := by decide +kernel
theorem d6_8 : decode prog_4_method_1_code 8 = .ok (.iconst 2, 1) := by decide +kernel
theorem d6_9 : decode prog_4_method_1_code 9 = .ok (.invokevirtual 13, 3) := by decide +kernel
theorem d6_12 : decode prog_4_method_1_code 12 = .ok (.putfield 17, 3) := by decide +kernel
theorem d6_15 : decode prog_4_method_1_code 15 = .ok (.aload_n 0, 1) := by decide +kernel
theorem d6_16 : decode prog_4_method_1_code 16 = .ok (.getstatic 7, 3) := by decide +kernel
theorem d6_19 : decode prog_4_method_1_code 19 = .ok (.iconst 2, 1) := by decide +kernel
theorem d6_20 : decode prog_4_method_1_code 20 = .ok (.invokevirtual 13, 3) := by decide +kernel
theorem d6_23 : decode prog_4_method_1_code 23 = .ok (.putfield 22, 3) := by decide +kernel
theorem d6_26 : decode prog_4_method_1_code 26 = .ok (.return_, 1) := by decide +kernel
def Q_rmCi (Z : State) (ci : Addr) (ze0 : Addr) (ze1 : Addr) (ze2 : Addr) (ze3 : Addr) (ze4 : Addr) (ze5 : Addr) (ze6 : Addr) (ze7 : Addr) (ze8 : Addr) (ze9 : Addr) (ze10 : Addr) (ze11 : Addr) (ze12 : Addr) (ze13 : Addr) (ze14 : Addr) (ze15 : Addr) (za : Addr) (kz : ClassId) (h0 : Heap) (n0 : Nat) (v : Option Value) (h : Heap) (L : List Loc) : Prop := v = none ∧ Fr n0 L ∧ Keep h0 h [ci] ∧ Exa Z h ci "com/example/diligent_tariff/diligenttariff/billing/ClassImpact" ∧ Fld Z h ci "com/example/diligent_tariff/diligenttariff/billing/ClassImpact" "current" "Ljava/math/BigDecimal;" (.ref ze2) ∧ Fld Z h ci "com/example/diligent_tariff/diligenttariff/billing/ClassImpact" "proposed" "Ljava/math/BigDecimal;" (.ref ze2) ∧ Fld Z h ci "com/example/diligent_tariff/diligenttariff/billing/ClassImpact" "accounts" "I" (.int 0) ∧ Fld Z h ci "com/example/diligent_tariff/diligenttariff/billing/ClassImpact" "bills" "J" (.long (0 : Int64)) ∧ Fld Z h ci "com/example/diligent_tariff/diligenttariff/billing/ClassImpact" "higher" "I" (.int 0) ∧ Fld Z h ci "com/example/diligent_tariff/diligenttariff/billing/ClassImpact" "unchanged" "I" (.int 0) ∧ Fld Z h ci "com/example/diligent_tariff/diligenttariff/billing/ClassImpact" "lower" "I" (.int 0)
set_option maxRecDepth 65536 in
set_option maxHeartbeats 40000000 in
theorem rmCi (l : Launch) (Z : State) (a0 : Array Value) (hw : ∀ d ∈ tables_1, d.before a0 Z = true) (ws : List Jvm.Cond) (ci : Addr) (ze0 : Addr) (ze1 : Addr) (ze2 : Addr) (ze3 : Addr) (ze4 : Addr) (ze5 : Addr) (ze6 : Addr) (ze7 : Addr) (ze8 : Addr) (ze9 : Addr) (ze10 : Addr) (ze11 : Addr) (ze12 : Addr) (ze13 : Addr) (ze14 : Addr) (ze15 : Addr) (za : Addr) (kz : ClassId) (h0 : Heap) (n0 : Nat) (Z0 : n0 ≤ h0.size) (O0 : Old Z n0 h0) (E_ci : Exa Z h0 ci "com/example/diligent_tariff/diligenttariff/billing/ClassImpact") (F_ci_current : Fld Z h0 ci "com/example/diligent_tariff/diligenttariff/billing/ClassImpact" "current" "Ljava/math/BigDecimal;" .null) (F_ci_proposed : Fld Z h0 ci "com/example/diligent_tariff/diligenttariff/billing/ClassImpact" "proposed" "Ljava/math/BigDecimal;" .null) (g_ci : n0 ≤ ci) (F_ci_accounts : Fld Z h0 ci "com/example/diligent_tariff/diligenttariff/billing/ClassImpact" "accounts" "I" (.int 0)) (F_ci_bills : Fld Z h0 ci "com/example/diligent_tariff/diligenttariff/billing/ClassImpact" "bills" "J" (.long (0 : Int64))) (F_ci_higher : Fld Z h0 ci "com/example/diligent_tariff/diligenttariff/billing/ClassImpact" "higher" "I" (.int 0)) (F_ci_unchanged : Fld Z h0 ci "com/example/diligent_tariff/diligenttariff/billing/ClassImpact" "unchanged" "I" (.int 0)) (F_ci_lower : Fld Z h0 ci "com/example/diligent_tariff/diligenttariff/billing/ClassImpact" "lower" "I" (.int 0)) (D0 : Sta Z Z.heap "java/math/BigDecimal" "ZERO_SCALED_BY" "[Ljava/math/BigDecimal;" (.ref za)) (D1 : Sta Z Z.heap "java/math/BigDecimal" "ZERO" "Ljava/math/BigDecimal;" (.ref ze0)) (D2 : Arv Z Z.heap za kz (.object "java/math/BigDecimal") (16 : Int32) ([(.ref ze0), (.ref ze1), (.ref ze2), (.ref ze3), (.ref ze4), (.ref ze5), (.ref ze6), (.ref ze7), (.ref ze8), (.ref ze9), (.ref ze10), (.ref ze11), (.ref ze12), (.ref ze13), (.ref ze14), (.ref ze15)]) .null) (D3 : Exa Z Z.heap ze0 "java/math/BigDecimal") (D4 : Fld Z Z.heap ze0 "java/math/BigDecimal" "scale" "I" (.int 0)) (D5 : Fld Z Z.heap ze0 "java/math/BigDecimal" "intCompact" "J" (.long (0 : Int64))) (D6 : Exa Z Z.heap ze2 "java/math/BigDecimal") (D7 : Fld Z Z.heap ze2 "java/math/BigDecimal" "scale" "I" (.int 2)) (D8 : Fld Z Z.heap ze2 "java/math/BigDecimal" "intCompact" "J" (.long (0 : Int64))) :
    MetFree l (⟨"com/example/diligent_tariff/diligenttariff/billing/ClassImpact", "<init>", "()V"⟩ : MethodName) (head1 (Jvm.Cond.code (⟨"com/example/diligent_tariff/diligenttariff/billing/ClassImpact", "<init>", "()V"⟩ : MethodName) prog_4_method_1_code 1 none :: ws) ({ frames := 4, cells := 0, slots := 0, locals := 58 } : Room)) (fun as' U => as' = #[(.ref ci)] ∧ Z.Warmed39 U.vm ∧ U.heap = h0) (fun _ _ _ _ _ => True) (fun _ U o U' => ∃ v L, o = .returned v ∧ Q_rmCi Z ci ze0 ze1 ze2 ze3 ze4 ze5 ze6 ze7 ze8 ze9 ze10 ze11 ze12 ze13 ze14 ze15 za kz h0 n0 v U'.heap L ∧ FrameEnd U o U' L ({ frames := 4, cells := 0, slots := 0, locals := 58 } : Room).cells ({ frames := 4, cells := 0, slots := 0, locals := 58 } : Room).slots) := by
  refine MetFree.of_bodySF (plainFor_of_name pn_274) hisR ?_
  intro p e s m args below meth c s₁ Bd hml0 hP hK
  obtain ⟨rfl, hZ, hh⟩ := hP
  have hx := Bd.exec
  have hby := Bd.bytes
  have hml : c.maxLocals = 1 := hml0
  have hown : s.vm.findClass "com/example/diligent_tariff/diligenttariff/billing/ClassImpact" = some m.cls := findClass_of_methodNamed Bd.named
  have hnm := (name_of_methodNamed Bd.named Bd.method).1
  have X0 : Stand p l e ({ frames := 4, cells := 0, slots := 0, locals := 58 } : Room) s m #[(.ref ci)] below meth c s₁ [] 0 0 := Stand.of_body Bd
  have e0 : s₁.heap = h0 := by rw [← hh, Bd.state]; rfl
  have N0 := Fr.nil n0
  refine Go.enter (F := EndN s (Q_rmCi Z ci ze0 ze1 ze2 ze3 ze4 ze5 ze6 ze7 ze8 ze9 ze10 ze11 ze12 ze13 ze14 ze15 za kz h0 n0) ({ frames := 4, cells := 0, slots := 0, locals := 58 } : Room).cells ({ frames := 4, cells := 0, slots := 0, locals := 58 } : Room).slots) (ef_3 m ci) ?_
  show Go _ _ _ _ s₁ (mkF m 0 #[rv ci] [])
  refine Go.aload1 1 X0 hx (hb hby d6_0) rfl rfl rfl ?_
  obtain ⟨T1, X1, e1, st1⟩ := initO X0 hx hZ hown (ow hw 39 rfl) (ow hw 23 rfl) (ow hw 24 rfl) e0 (g := (mkF m 1 #[rv ci] [(.ref ci)])) rfl (by rw [hml]; rfl) rfl (hb hby d6_1) (by decide) (W := 0) (by show 2 * 0 + _ ≤ _; exact Nat.le_of_eq rfl) (by decide)
  refine Go.by st1 ?_
  show Go _ _ _ _ T1 (mkF m 4 #[rv ci] [])
  refine Go.aload1 5 X1 hx (hb hby d6_4) rfl rfl rfl ?_
  have F2 : Sta Z h0 "java/math/BigDecimal" "ZERO" "Ljava/math/BigDecimal;" (.ref ze0) := D1.ext O0.2
  obtain ⟨T3, X3, e3, st3⟩ := getS2 X1 hx hZ hown (host := "") (Or.inl (ow hw 40 rfl)) Via.refl e1 F2 (g := (mkF m 5 #[rv ci] [(.ref ci)])) rfl (hb hby d6_5)
  refine Go.by st3 ?_
  show Go _ _ _ _ T3 (mkF m 8 #[rv ci] [(.ref ze0), (.ref ci)])
  refine Go.iconst 9 X3 hx (2 : Int32) (hb hby d6_8) (by decide) rfl ?_
  have F5 : Exa Z h0 ze0 "java/math/BigDecimal" := D3.ext O0.2
  obtain ⟨cq4, kq4, q4a, q4b, q4c⟩ := isOf hZ e3 F5
  obtain ⟨_, _, ⟨T4, L4, k4, n4⟩, -, X4, ⟨Lc4, hQ4, l4, y4, z4⟩, st4⟩ := X3.virtualBack hx (y := (⟨"java/math/BigDecimal", "setScale", "(I)Ljava/math/BigDecimal;"⟩ : MethodName)) (z := (⟨"java/math/BigDecimal", "setScale", "(I)Ljava/math/BigDecimal;"⟩ : MethodName)) hown (mvT hZ (ow hw 41 rfl)) (mvT hZ (ow hw 42 rfl)) (notFace_of_selects (args := #[]) (mvT hZ (ow hw 44 rfl))) (mvT hZ (ow hw 44 rfl)) (mvT hZ (ow hw 43 rfl)) (by decide) (backOf (W := 1) (rmSs1 l Z a0 hw [] ze0 ze1 ze2 ze3 ze4 ze5 ze6 ze7 ze8 ze9 ze10 ze11 ze12 ze13 ze14 ze15 za kz h0 n0 Z0 O0 D0 D1 D2 D3 D4 D5 D6 D7 D8) hZ (ow hw 45 rfl) (ow hw 3 rfl) (by decide) (by decide)) q4a q4c (g := (mkF m 9 #[rv ci] [(.int 2), (.ref ze0), (.ref ci)])) rfl (by rw [hml]; rfl) (Steps.refl _) (argsL := [(.int 2)]) (rest := [(.ref ci)]) (lenOf pd_44 rfl) rfl (by show 2 * 0 + _ ≤ _; exact Nat.le_of_eq rfl) (hb hby d6_9) (fun _ _ => ⟨rfl, e3, (by decide : 0 + 0 ≤ _), (by decide : 0 + 0 ≤ _)⟩)
  dsimp only [Pt.U, Pt.locs, Pt.cells, Pt.slots] at X4 l4 y4 z4 st4 hQ4
  subst l4 y4 z4
  obtain ⟨rfl, N4q, e4⟩ := hQ4
  have N4 := Fr.app N0 N4q
  refine Go.to st4 ?_
  show Go _ _ _ _ T4 (mkF m 12 #[rv ci] [(.ref ze2), (.ref ci)])
  obtain ⟨T6, h6, X6, e6, W6, st6⟩ := putF X4 hx hZ hown (host := "") (Or.inl (ow hw 60 rfl)) Via.refl e4 F_ci_current E_ci (Or.inl (ow hw 61 rfl)) (ow hw 34 rfl) (ty := (.object "java/math/BigDecimal")) (by decide) rfl rfl (g := (mkF m 12 #[rv ci] [(.ref ze2), (.ref ci)])) rfl rfl (hb hby d6_12)
  have N6 := Fr.snoc X6 N4 g_ci
  have Fw6 : Fld Z h6 ci "com/example/diligent_tariff/diligenttariff/billing/ClassImpact" "current" "Ljava/math/BigDecimal;" (.ref ze2) := F_ci_current.same W6
  refine Go.by st6 ?_
  show Go _ _ _ _ T6 (mkF m 15 #[rv ci] [])
  refine Go.aload1 16 X6 hx (hb hby d6_15) rfl rfl rfl ?_
  have F7 : Old Z n0 h6 := O0.wr W6 g_ci
  have F8 : Sta Z h6 "java/math/BigDecimal" "ZERO" "Ljava/math/BigDecimal;" (.ref ze0) := D1.ext F7.2
  obtain ⟨T9, X9, e9, st9⟩ := getS2 X6 hx hZ hown (host := "") (Or.inl (ow hw 40 rfl)) Via.refl e6 F8 (g := (mkF m 16 #[rv ci] [(.ref ci)])) rfl (hb hby d6_16)
  refine Go.by st9 ?_
  show Go _ _ _ _ T9 (mkF m 19 #[rv ci] [(.ref ze0), (.ref ci)])
  refine Go.iconst 20 X9 hx (2 : Int32) (hb hby d6_19) (by decide) rfl ?_
  have F10 : n0 ≤ h6.size := Nat.le_trans Z0 (Nat.le_of_eq (Wr.size W6).symm)
  have F12 : Exa Z h6 ze0 "java/math/BigDecimal" := D3.ext F7.2
  obtain ⟨cq11, kq11, q11a, q11b, q11c⟩ := isOf hZ e9 F12
  obtain ⟨_, _, ⟨T11, L11, k11, n11⟩, -, X11, ⟨Lc11, hQ11, l11, y11, z11⟩, st11⟩ := X9.virtualBack hx (y := (⟨"java/math/BigDecimal", "setScale", "(I)Ljava/math/BigDecimal;"⟩ : MethodName)) (z := (⟨"java/math/BigDecimal", "setScale", "(I)Ljava/math/BigDecimal;"⟩ : MethodName)) hown (mvT hZ (ow hw 41 rfl)) (mvT hZ (ow hw 42 rfl)) (notFace_of_selects (args := #[]) (mvT hZ (ow hw 44 rfl))) (mvT hZ (ow hw 44 rfl)) (mvT hZ (ow hw 43 rfl)) (by decide) (backOf (W := 1) (rmSs1 l Z a0 hw [] ze0 ze1 ze2 ze3 ze4 ze5 ze6 ze7 ze8 ze9 ze10 ze11 ze12 ze13 ze14 ze15 za kz h6 n0 F10 F7 D0 D1 D2 D3 D4 D5 D6 D7 D8) hZ (ow hw 45 rfl) (ow hw 3 rfl) (by decide) (by decide)) q11a q11c (g := (mkF m 20 #[rv ci] [(.int 2), (.ref ze0), (.ref ci)])) rfl (by rw [hml]; rfl) (Steps.refl _) (argsL := [(.int 2)]) (rest := [(.ref ci)]) (lenOf pd_44 rfl) rfl (by show 2 * 0 + _ ≤ _; exact Nat.le_of_eq rfl) (hb hby d6_20) (fun _ _ => ⟨rfl, e9, (by decide : 0 + 0 ≤ _), (by decide : 0 + 0 ≤ _)⟩)
  dsimp only [Pt.U, Pt.locs, Pt.cells, Pt.slots] at X11 l11 y11 z11 st11 hQ11
  subst l11 y11 z11
  obtain ⟨rfl, N11q, e11⟩ := hQ11
  have N11 := Fr.app N6 N11q
  refine Go.to st11 ?_
  show Go _ _ _ _ T11 (mkF m 23 #[rv ci] [(.ref ze2), (.ref ci)])
  have F13 : Fld Z h6 ci "com/example/diligent_tariff/diligenttariff/billing/ClassImpact" "proposed" "Ljava/math/BigDecimal;" .null := F_ci_proposed.other W6 (Or.inr (slot_ne (Or.inl (ow hw 63 rfl)) (Or.inl (ow hw 61 rfl)) (by decide) (t := (.object "java/math/BigDecimal")) (t' := (.object "java/math/BigDecimal")) (by decide) (by decide)))
  have F14 : Exa Z h6 ci "com/example/diligent_tariff/diligenttariff/billing/ClassImpact" := E_ci.wr W6
  obtain ⟨T15, h15, X15, e15, W15, st15⟩ := putF X11 hx hZ hown (host := "") (Or.inl (ow hw 62 rfl)) Via.refl e11 F13 F14 (Or.inl (ow hw 63 rfl)) (ow hw 34 rfl) (ty := (.object "java/math/BigDecimal")) (by decide) rfl rfl (g := (mkF m 23 #[rv ci] [(.ref ze2), (.ref ci)])) rfl rfl (hb hby d6_23)
  have N15 := Fr.snoc X15 N11 g_ci
  have Fw15 : Fld Z h15 ci "com/example/diligent_tariff/diligenttariff/billing/ClassImpact" "proposed" "Ljava/math/BigDecimal;" (.ref ze2) := F13.same W15
  refine Go.by st15 ?_
  show Go _ _ _ _ T15 (mkF m 26 #[rv ci] [])
  have F16 : Keep h0 h6 [ci] := (Keep.refl h0 [ci]).wr W6 (Or.inl (List.mem_of_getElem? (i := 0) rfl))
  have F17 : Keep h0 h15 [ci] := F16.wr W15 (Or.inl (List.mem_of_getElem? (i := 0) rfl))
  have F18 : Exa Z h15 ci "com/example/diligent_tariff/diligenttariff/billing/ClassImpact" := F14.wr W15
  have F19 : Fld Z h15 ci "com/example/diligent_tariff/diligenttariff/billing/ClassImpact" "current" "Ljava/math/BigDecimal;" (.ref ze2) := Fw6.other W15 (Or.inr (slot_ne (Or.inl (ow hw 61 rfl)) (Or.inl (ow hw 63 rfl)) (by decide) (t := (.object "java/math/BigDecimal")) (t' := (.object "java/math/BigDecimal")) (by decide) (by decide)))
  have F20 : Fld Z h6 ci "com/example/diligent_tariff/diligenttariff/billing/ClassImpact" "accounts" "I" (.int 0) := F_ci_accounts.other W6 (Or.inr (slot_ne (Or.inl (ow hw 129 rfl)) (Or.inl (ow hw 61 rfl)) (by decide) (t := .int) (t' := (.object "java/math/BigDecimal")) (by decide) (by decide)))
  have F21 : Fld Z h15 ci "com/example/diligent_tariff/diligenttariff/billing/ClassImpact" "accounts" "I" (.int 0) := F20.other W15 (Or.inr (slot_ne (Or.inl (ow hw 129 rfl)) (Or.inl (ow hw 63 rfl)) (by decide) (t := .int) (t' := (.object "java/math/BigDecimal")) (by decide) (by decide)))
  have F22 : Fld Z h6 ci "com/example/diligent_tariff/diligenttariff/billing/ClassImpact" "bills" "J" (.long (0 : Int64)) := F_ci_bills.other W6 (Or.inr (slot_ne (Or.inl (ow hw 131 rfl)) (Or.inl (ow hw 61 rfl)) (by decide) (t := .long) (t' := (.object "java/math/BigDecimal")) (by decide) (by decide)))
  have F23 : Fld Z h15 ci "com/example/diligent_tariff/diligenttariff/billing/ClassImpact" "bills" "J" (.long (0 : Int64)) := F22.other W15 (Or.inr (slot_ne (Or.inl (ow hw 131 rfl)) (Or.inl (ow hw 63 rfl)) (by decide) (t := .long) (t' := (.object "java/math/BigDecimal")) (by decide) (by decide)))
  have F24 : Fld Z h6 ci "com/example/diligent_tariff/diligenttariff/billing/ClassImpact" "higher" "I" (.int 0) := F_ci_higher.other W6 (Or.inr (slot_ne (Or.inl (ow hw 140 rfl)) (Or.inl (ow hw 61 rfl)) (by decide) (t := .int) (t' := (.object "java/math/BigDecimal")) (by decide) (by decide)))
  have F25 : Fld Z h15 ci "com/example/diligent_tariff/diligenttariff/billing/ClassImpact" "higher" "I" (.int 0) := F24.other W15 (Or.inr (slot_ne (Or.inl (ow hw 140 rfl)) (Or.inl (ow hw 63 rfl)) (by decide) (t := .int) (t' := (.object "java/math/BigDecimal")) (by decide) (by decide)))
  have F26 : Fld Z h6 ci "com/example/diligent_tariff/diligenttariff/billing/ClassImpact" "unchanged" "I" (.int 0) := F_ci_unchanged.other W6 (Or.inr (slot_ne (Or.inl (ow hw 144 rfl)) (Or.inl (ow hw 61 rfl)) (by decide) (t := .int) (t' := (.object "java/math/BigDecimal")) (by decide) (by decide)))
  have F27 : Fld Z h15 ci "com/example/diligent_tariff/diligenttariff/billing/ClassImpact" "unchanged" "I" (.int 0) := F26.other W15 (Or.inr (slot_ne (Or.inl (ow hw 144 rfl)) (Or.inl (ow hw 63 rfl)) (by decide) (t := .int) (t' := (.object "java/math/BigDecimal")) (by decide) (by decide)))
  have F28 : Fld Z h6 ci "com/example/diligent_tariff/diligenttariff/billing/ClassImpact" "lower" "I" (.int 0) := F_ci_lower.other W6 (Or.inr (slot_ne (Or.inl (ow hw 142 rfl)) (Or.inl (ow hw 61 rfl)) (by decide) (t := .int) (t' := (.object "java/math/BigDecimal")) (by decide) (by decide)))
  have F29 : Fld Z h15 ci "com/example/diligent_tariff/diligenttariff/billing/ClassImpact" "lower" "I" (.int 0) := F28.other W15 (Or.inr (slot_ne (Or.inl (ow hw 142 rfl)) (Or.inl (ow hw 63 rfl)) (by decide) (t := .int) (t' := (.object "java/math/BigDecimal")) (by decide) (by decide)))
  exact Go.retV X15 hx Bd.notSynchronized Bd.returns (hb hby d6_26) (by rw [e15]; exact ⟨rfl, N15, F17, F18, F19, Fw15, F21, F23, F25, F27, F29⟩) (by decide) (by decide)
theorem ef_288 (m : MethodId) (x0 : Addr) (x1 : Int32) (x2 : Addr) : entryFrame m #[(.ref x0), (.int x1), (.ref x2)] 4 = mkF m 0 #[rv x0, iv x1, rv x2, un] [] := by (first | (simp [entryFrame, mkF, argsToLocals, Value.category]; done) | rfl)
theorem d17_0 : decode prog_4_method_2_code 0 = .ok (.aload_n 2, 1) := by decide +kernel
theorem pd_290 : parseMethodDescriptor "()Ljava/math/BigDecimal;" = some ⟨[], some (.object "java/math/BigDecimal")⟩ := by decide +kernel
theorem d17_1 : decode prog_4_method_2_code 1 = .ok (.invokevirtual 25, 3) := by decide +kernel
theorem d17_4 : decode prog_4_method_2_code 4 = .ok (.invokevirtual 31, 3) := by decide +kernel
theorem d17_7 : decode prog_4_method_2_code 7 = .ok (.istore_n 3, 1) := by decide +kernel
theorem d17_8 : decode prog_4_method_2_code 8 = .ok (.aload_n 0, 1) := by decide +kernel
theorem d17_9 : decode prog_4_method_2_code 9 = .ok (.dup, 1) := by decide +kernel
theorem d17_10 : decode prog_4_method_2_code 10 = .ok (.getfield 35, 3) := by decide +kernel
theorem d17_13 : decode prog_4_method_2_code 13 = .ok (.iconst 1, 1) := by decide +kernel
theorem d17_14 : decode prog_4_method_2_code 14 = .ok (.iadd, 1) := by decide +kernel
theorem d17_15 : decode prog_4_method_2_code 15 = .ok (.putfield 35, 3) := by decide +kernel
theorem d17_18 : decode prog_4_method_2_code 18 = .ok (.aload_n 0, 1) := by decide +kernel
theorem d17_19 : decode prog_4_method_2_code 19 = .ok (.dup, 1) := by decide +kernel
theorem d17_20 : decode prog_4_method_2_code 20 = .ok (.getfield 39, 3) := by decide +kernel
theorem d17_23 : decode prog_4_method_2_code 23 = .ok (.iload_n 1, 1) := by decide +kernel
theorem d17_24 : decode prog_4_method_2_code 24 = .ok (.i2l, 1) := by decide +kernel
theorem d17_25 : decode prog_4_method_2_code 25 = .ok (.ladd, 1) := by decide +kernel
theorem d17_26 : decode prog_4_method_2_code 26 = .ok (.putfield 39, 3) := by decide +kernel
theorem d17_29 : decode prog_4_method_2_code 29 = .ok (.aload_n 0, 1) := by decide +kernel
theorem d17_30 : decode prog_4_method_2_code 30 = .ok (.aload_n 0, 1) := by decide +kernel
theorem d17_31 : decode prog_4_method_2_code 31 = .ok (.getfield 17, 3) := by decide +kernel
theorem d17_34 : decode prog_4_method_2_code 34 = .ok (.aload_n 2, 1) := by decide +kernel
theorem d17_35 : decode prog_4_method_2_code 35 = .ok (.invokevirtual 43, 3) := by decide +kernel
theorem d17_38 : decode prog_4_method_2_code 38 = .ok (.invokevirtual 46, 3) := by decide +kernel
theorem d17_41 : decode prog_4_method_2_code 41 = .ok (.putfield 17, 3) := by decide +kernel
theorem d17_44 : decode prog_4_method_2_code 44 = .ok (.aload_n 0, 1) := by decide +kernel
theorem d17_45 : decode prog_4_method_2_code 45 = .ok (.aload_n 0, 1) := by decide +kernel
theorem d17_46 : decode prog_4_method_2_code 46 = .ok (.getfield 22, 3) := by decide +kernel
theorem d17_49 : decode prog_4_method_2_code 49 = .ok (.aload_n 2, 1) := by decide +kernel
theorem d17_50 : decode prog_4_method_2_code 50 = .ok (.invokevirtual 50, 3) := by decide +kernel
theorem d17_53 : decode prog_4_method_2_code 53 = .ok (.invokevirtual 46, 3) := by decide +kernel
theorem d17_56 : decode prog_4_method_2_code 56 = .ok (.putfield 22, 3) := by decide +kernel
theorem d17_59 : decode prog_4_method_2_code 59 = .ok (.iload_n 3, 1) := by decide +kernel
theorem d17_60 : decode prog_4_method_2_code 60 = .ok (.ifCond .le 16, 3) := by decide +kernel
theorem d17_63 : decode prog_4_method_2_code 63 = .ok (.aload_n 0, 1) := by decide +kernel
theorem d17_64 : decode prog_4_method_2_code 64 = .ok (.dup, 1) := by decide +kernel
theorem d17_65 : decode prog_4_method_2_code 65 = .ok (.getfield 53, 3) := by decide +kernel
theorem d17_68 : decode prog_4_method_2_code 68 = .ok (.iconst 1, 1) := by decide +kernel
theorem d17_69 : decode prog_4_method_2_code 69 = .ok (.iadd, 1) := by decide +kernel
theorem d17_70 : decode prog_4_method_2_code 70 = .ok (.putfield 53, 3) := by decide +kernel
theorem d17_73 : decode prog_4_method_2_code 73 = .ok (.goto 30, 3) := by decide +kernel
theorem d17_103 : decode prog_4_method_2_code 103 = .ok (.return_, 1) := by decide +kernel
theorem d17_76 : decode prog_4_method_2_code 76 = .ok (.iload_n 3, 1) := by decide +kernel
theorem d17_77 : decode prog_4_method_2_code 77 = .ok (.ifCond .ne 16, 3) := by decide +kernel
theorem d17_80 : decode prog_4_method_2_code 80 = .ok (.aload_n 0, 1) := by decide +kernel
theorem d17_81 : decode prog_4_method_2_code 81 = .ok (.dup, 1) := by decide +kernel
theorem d17_82 : decode prog_4_method_2_code 82 = .ok (.getfield 56, 3) := by decide +kernel
theorem d17_85 : decode prog_4_method_2_code 85 = .ok (.iconst 1, 1) := by decide +kernel
theorem d17_86 : decode prog_4_method_2_code 86 = .ok (.iadd, 1) := by decide +kernel
theorem d17_87 : decode prog_4_method_2_code 87 = .ok (.putfield 56, 3) := by decide +kernel
theorem d17_90 : decode prog_4_method_2_code 90 = .ok (.goto 13, 3) := by decide +kernel
theorem d17_93 : decode prog_4_method_2_code 93 = .ok (.aload_n 0, 1) := by decide +kernel
theorem d17_94 : decode prog_4_method_2_code 94 = .ok (.dup, 1) := by decide +kernel
theorem d17_95 : decode prog_4_method_2_code 95 = .ok (.getfield 59, 3) := by decide +kernel
theorem d17_98 : decode prog_4_method_2_code 98 = .ok (.iconst 1, 1) := by decide +kernel
theorem d17_99 : decode prog_4_method_2_code 99 = .ok (.iadd, 1) := by decide +kernel
theorem d17_100 : decode prog_4_method_2_code 100 = .ok (.putfield 59, 3) := by decide +kernel
def Q_rmCiAdd (Z : State) (ci : Addr) (iv0 : Int32) (c0 : Addr) (a : Addr) (a2 : Addr) (g1 : Addr) (g2 : Addr) (x : Int64) (y : Int64) (x2 : Int64) (y2 : Int64) (na : Int32) (nb : Int64) (nh : Int32) (nu : Int32) (nl : Int32) (ze0 : Addr) (ze1 : Addr) (ze2 : Addr) (ze3 : Addr) (ze4 : Addr) (ze5 : Addr) (ze6 : Addr) (ze7 : Addr) (ze8 : Addr) (ze9 : Addr) (ze10 : Addr) (ze11 : Addr) (ze12 : Addr) (ze13 : Addr) (ze14 : Addr) (ze15 : Addr) (za : Addr) (kz : ClassId) (h0 : Heap) (n0 : Nat) (v : Option Value) (h : Heap) (L : List Loc) : Prop := ∃ d1 : Addr, ∃ d2 : Addr, ∃ mna : Int32, ∃ mnb : Int64, ∃ mnh : Int32, ∃ mnu : Int32, ∃ mnl : Int32, v = none ∧ Fr n0 L ∧ Keep h0 h [ci] ∧ Exa Z h ci "com/example/diligent_tariff/diligenttariff/billing/ClassImpact" ∧ Fld Z h ci "com/example/diligent_tariff/diligenttariff/billing/ClassImpact" "current" "Ljava/math/BigDecimal;" (.ref d1) ∧ Fld Z h ci "com/example/diligent_tariff/diligenttariff/billing/ClassImpact" "proposed" "Ljava/math/BigDecimal;" (.ref d2) ∧ Fld Z h ci "com/example/diligent_tariff/diligenttariff/billing/ClassImpact" "accounts" "I" (.int mna) ∧ Fld Z h ci "com/example/diligent_tariff/diligenttariff/billing/ClassImpact" "bills" "J" (.long mnb) ∧ Fld Z h ci "com/example/diligent_tariff/diligenttariff/billing/ClassImpact" "higher" "I" (.int mnh) ∧ Fld Z h ci "com/example/diligent_tariff/diligenttariff/billing/ClassImpact" "unchanged" "I" (.int mnu) ∧ Fld Z h ci "com/example/diligent_tariff/diligenttariff/billing/ClassImpact" "lower" "I" (.int mnl) ∧ Exa Z h d1 "java/math/BigDecimal" ∧ Fld Z h d1 "java/math/BigDecimal" "scale" "I" (.int 2) ∧ Fld Z h d1 "java/math/BigDecimal" "intCompact" "J" (.long (x2 + x)) ∧ Exa Z h d2 "java/math/BigDecimal" ∧ Fld Z h d2 "java/math/BigDecimal" "scale" "I" (.int 2) ∧ Fld Z h d2 "java/math/BigDecimal" "intCompact" "J" (.long (y2 + y))
set_option maxRecDepth 65536 in
set_option maxHeartbeats 40000000 in
theorem rmCiAdd (l : Launch) (Z : State) (a0 : Array Value) (hw : ∀ d ∈ tables_1, d.before a0 Z = true) (ws : List Jvm.Cond) (ci : Addr) (iv0 : Int32) (c0 : Addr) (a : Addr) (a2 : Addr) (g1 : Addr) (g2 : Addr) (x : Int64) (y : Int64) (x2 : Int64) (y2 : Int64) (na : Int32) (nb : Int64) (nh : Int32) (nu : Int32) (nl : Int32) (ze0 : Addr) (ze1 : Addr) (ze2 : Addr) (ze3 : Addr) (ze4 : Addr) (ze5 : Addr) (ze6 : Addr) (ze7 : Addr) (ze8 : Addr) (ze9 : Addr) (ze10 : Addr) (ze11 : Addr) (ze12 : Addr) (ze13 : Addr) (ze14 : Addr) (ze15 : Addr) (za : Addr) (kz : ClassId) (h0 : Heap) (n0 : Nat) (Z0 : n0 ≤ h0.size) (O0 : Old Z n0 h0) (E_ci : Exa Z h0 ci "com/example/diligent_tariff/diligenttariff/billing/ClassImpact") (F_ci_current : Fld Z h0 ci "com/example/diligent_tariff/diligenttariff/billing/ClassImpact" "current" "Ljava/math/BigDecimal;" (.ref g1)) (F_ci_proposed : Fld Z h0 ci "com/example/diligent_tariff/diligenttariff/billing/ClassImpact" "proposed" "Ljava/math/BigDecimal;" (.ref g2)) (g_ci : n0 ≤ ci) (E_c0 : Exa Z h0 c0 "com/example/diligent_tariff/diligenttariff/billing/Comparison") (F_ci_accounts : Fld Z h0 ci "com/example/diligent_tariff/diligenttariff/billing/ClassImpact" "accounts" "I" (.int na)) (F_ci_bills : Fld Z h0 ci "com/example/diligent_tariff/diligenttariff/billing/ClassImpact" "bills" "J" (.long nb)) (F_ci_higher : Fld Z h0 ci "com/example/diligent_tariff/diligenttariff/billing/ClassImpact" "higher" "I" (.int nh)) (F_ci_unchanged : Fld Z h0 ci "com/example/diligent_tariff/diligenttariff/billing/ClassImpact" "unchanged" "I" (.int nu)) (F_ci_lower : Fld Z h0 ci "com/example/diligent_tariff/diligenttariff/billing/ClassImpact" "lower" "I" (.int nl)) (F_c0_current : Fld Z h0 c0 "com/example/diligent_tariff/diligenttariff/billing/Comparison" "current" "Ljava/math/BigDecimal;" (.ref a)) (F_c0_proposed : Fld Z h0 c0 "com/example/diligent_tariff/diligenttariff/billing/Comparison" "proposed" "Ljava/math/BigDecimal;" (.ref a2)) (E_a : Exa Z h0 a "java/math/BigDecimal") (F_a_scale : Fld Z h0 a "java/math/BigDecimal" "scale" "I" (.int 2)) (F_a_intCompact : Fld Z h0 a "java/math/BigDecimal" "intCompact" "J" (.long x)) (E_a2 : Exa Z h0 a2 "java/math/BigDecimal") (F_a2_scale : Fld Z h0 a2 "java/math/BigDecimal" "scale" "I" (.int 2)) (F_a2_intCompact : Fld Z h0 a2 "java/math/BigDecimal" "intCompact" "J" (.long y)) (E_g1 : Exa Z h0 g1 "java/math/BigDecimal") (F_g1_scale : Fld Z h0 g1 "java/math/BigDecimal" "scale" "I" (.int 2)) (F_g1_intCompact : Fld Z h0 g1 "java/math/BigDecimal" "intCompact" "J" (.long x2)) (E_g2 : Exa Z h0 g2 "java/math/BigDecimal") (F_g2_scale : Fld Z h0 g2 "java/math/BigDecimal" "scale" "I" (.int 2)) (F_g2_intCompact : Fld Z h0 g2 "java/math/BigDecimal" "intCompact" "J" (.long y2)) (hx1 : (own_bd x)) (hy1 : (own_bd y)) (hx2 : (own_bd x2)) (hy2 : (own_bd y2)) (D0 : Sta Z Z.heap "java/math/BigDecimal" "ZERO_SCALED_BY" "[Ljava/math/BigDecimal;" (.ref za)) (D1 : Sta Z Z.heap "java/math/BigDecimal" "ZERO" "Ljava/math/BigDecimal;" (.ref ze0)) (D2 : Arv Z Z.heap za kz (.object "java/math/BigDecimal") (16 : Int32) ([(.ref ze0), (.ref ze1), (.ref ze2), (.ref ze3), (.ref ze4), (.ref ze5), (.ref ze6), (.ref ze7), (.ref ze8), (.ref ze9), (.ref ze10), (.ref ze11), (.ref ze12), (.ref ze13), (.ref ze14), (.ref ze15)]) .null) (D3 : Exa Z Z.heap ze0 "java/math/BigDecimal") (D4 : Fld Z Z.heap ze0 "java/math/BigDecimal" "scale" "I" (.int 0)) (D5 : Fld Z Z.heap ze0 "java/math/BigDecimal" "intCompact" "J" (.long (0 : Int64))) (D6 : Exa Z Z.heap ze2 "java/math/BigDecimal") (D7 : Fld Z Z.heap ze2 "java/math/BigDecimal" "scale" "I" (.int 2)) (D8 : Fld Z Z.heap ze2 "java/math/BigDecimal" "intCompact" "J" (.long (0 : Int64))) :
    MetFree l (⟨"com/example/diligent_tariff/diligenttariff/billing/ClassImpact", "add", "(ILcom/example/diligent_tariff/diligenttariff/billing/Comparison;)V"⟩ : MethodName) (head1 (Jvm.Cond.code (⟨"com/example/diligent_tariff/diligenttariff/billing/ClassImpact", "add", "(ILcom/example/diligent_tariff/diligenttariff/billing/Comparison;)V"⟩ : MethodName) prog_4_method_2_code 4 none :: ws) ({ frames := 8, cells := 3, slots := 15, locals := 122 } : Room)) (fun as' U => as' = #[(.ref ci), (.int iv0), (.ref c0)] ∧ Z.Warmed39 U.vm ∧ U.heap = h0) (fun _ _ _ _ _ => True) (fun _ U o U' => ∃ v L, o = .returned v ∧ Q_rmCiAdd Z ci iv0 c0 a a2 g1 g2 x y x2 y2 na nb nh nu nl ze0 ze1 ze2 ze3 ze4 ze5 ze6 ze7 ze8 ze9 ze10 ze11 ze12 ze13 ze14 ze15 za kz h0 n0 v U'.heap L ∧ FrameEnd U o U' L ({ frames := 8, cells := 3, slots := 15, locals := 122 } : Room).cells ({ frames := 8, cells := 3, slots := 15, locals := 122 } : Room).slots) := by
  refine MetFree.of_bodySF (plainFor_of_name pn_274) hisR ?_
  intro p e s m args below meth c s₁ Bd hml0 hP hK
  obtain ⟨rfl, hZ, hh⟩ := hP
  have hx := Bd.exec
  have hby := Bd.bytes
  have hml : c.maxLocals = 4 := hml0
  have hown : s.vm.findClass "com/example/diligent_tariff/diligenttariff/billing/ClassImpact" = some m.cls := findClass_of_methodNamed Bd.named
  have hnm := (name_of_methodNamed Bd.named Bd.method).1
  have X0 : Stand p l e ({ frames := 8, cells := 3, slots := 15, locals := 122 } : Room) s m #[(.ref ci), (.int iv0), (.ref c0)] below meth c s₁ [] 0 0 := Stand.of_body Bd
  have e0 : s₁.heap = h0 := by rw [← hh, Bd.state]; rfl
  have N0 := Fr.nil n0
  refine Go.enter (F := EndN s (Q_rmCiAdd Z ci iv0 c0 a a2 g1 g2 x y x2 y2 na nb nh nu nl ze0 ze1 ze2 ze3 ze4 ze5 ze6 ze7 ze8 ze9 ze10 ze11 ze12 ze13 ze14 ze15 za kz h0 n0) ({ frames := 8, cells := 3, slots := 15, locals := 122 } : Room).cells ({ frames := 8, cells := 3, slots := 15, locals := 122 } : Room).slots) (ef_288 m ci iv0 c0) ?_
  show Go _ _ _ _ s₁ (mkF m 0 #[rv ci, iv iv0, rv c0, un] [])
  refine Go.aload1 1 X0 hx (hb hby d17_0) rfl rfl rfl ?_
  obtain ⟨cq1, kq1, q1a, q1b, q1c⟩ := isOf hZ e0 E_c0
  obtain ⟨_, _, ⟨T1, L1, k1, n1⟩, -, X1, ⟨Lc1, hQ1, l1, y1, z1⟩, st1⟩ := X0.virtualBack hx (y := (⟨"com/example/diligent_tariff/diligenttariff/billing/Comparison", "getDifference", "()Ljava/math/BigDecimal;"⟩ : MethodName)) (z := (⟨"com/example/diligent_tariff/diligenttariff/billing/Comparison", "getDifference", "()Ljava/math/BigDecimal;"⟩ : MethodName)) hown (mvT hZ (ow hw 107 rfl)) (mvT hZ (ow hw 108 rfl)) (notFace_of_selects (args := #[]) (mvT hZ (ow hw 110 rfl))) (mvT hZ (ow hw 110 rfl)) (mvT hZ (ow hw 109 rfl)) (by decide) (backOf (W := 0) (rmGd l Z a0 hw [] c0 a a2 x y ze0 ze1 ze2 ze3 ze4 ze5 ze6 ze7 ze8 ze9 ze10 ze11 ze12 ze13 ze14 ze15 za kz h0 n0 Z0 O0 F_c0_current F_c0_proposed E_a F_a_scale F_a_intCompact E_a2 F_a2_scale F_a2_intCompact hx1 hy1 D0 D1 D2 D3 D4 D5 D6 D7 D8) hZ (ow hw 111 rfl) (ow hw 71 rfl) (by decide) (by decide)) q1a q1c (g := (mkF m 1 #[rv ci, iv iv0, rv c0, un] [(.ref c0)])) rfl (by rw [hml]; rfl) (Steps.refl _) (argsL := []) (rest := []) (lenOf pd_290 rfl) rfl (by show 2 * 0 + _ ≤ _; exact Nat.le_of_eq rfl) (hb hby d17_1) (fun _ _ => ⟨rfl, e0, (by decide : 0 + 1 ≤ _), (by decide : 0 + 5 ≤ _)⟩)
  dsimp only [Pt.U, Pt.locs, Pt.cells, Pt.slots] at X1 l1 y1 z1 st1 hQ1
  subst l1 y1 z1
  obtain ⟨df, rfl, N1q, K1, Q1_0, Q1_1, Q1_2⟩ := hQ1
  have N1 := Fr.app N0 N1q
  refine Go.to st1 ?_
  show Go _ _ _ _ T1 (mkF m 4 #[rv ci, iv iv0, rv c0, un] [(.ref df)])
  have F2 : n0 ≤ T1.heap.size := Nat.le_trans Z0 K1.1
  obtain ⟨cq3, kq3, q3a, q3b, q3c⟩ := isOf hZ rfl Q1_0
  obtain ⟨_, _, ⟨T3, L3, k3, n3⟩, -, X3, ⟨Lc3, hQ3, l3, y3, z3⟩, st3⟩ := X1.virtualBack hx (y := (⟨"java/math/BigDecimal", "signum", "()I"⟩ : MethodName)) (z := (⟨"java/math/BigDecimal", "signum", "()I"⟩ : MethodName)) hown (mvT hZ (ow hw 127 rfl)) (mvT hZ (ow hw 52 rfl)) (notFace_of_selects (args := #[]) (mvT hZ (ow hw 54 rfl))) (mvT hZ (ow hw 54 rfl)) (mvT hZ (ow hw 53 rfl)) (by decide) (backOf (W := 0) (rmSig l Z a0 hw [] df (y + (-x)) T1.heap n0 F2 Q1_2 (own_minS hy1 (own_bdN hx1))) hZ (ow hw 55 rfl) (ow hw 3 rfl) (by decide) (by decide)) q3a q3c (g := (mkF m 4 #[rv ci, iv iv0, rv c0, un] [(.ref df)])) rfl (by rw [hml]; rfl) (Steps.refl _) (argsL := []) (rest := []) (lenOf pd_96 rfl) rfl (by show 2 * 0 + _ ≤ _; exact Nat.le_of_eq rfl) (hb hby d17_4) (fun _ _ => ⟨rfl, rfl, (by decide : 1 + 0 ≤ _), (by decide : 5 + 0 ≤ _)⟩)
  dsimp only [Pt.U, Pt.locs, Pt.cells, Pt.slots] at X3 l3 y3 z3 st3 hQ3
  subst l3 y3 z3
  obtain ⟨sg, rfl, N3q, e3⟩ := hQ3
  have N3 := Fr.app N1 N3q
  refine Go.to st3 ?_
  show Go _ _ _ _ T3 (mkF m 7 #[rv ci, iv iv0, rv c0, un] [(.int sg)])
  refine Go.istore1 8 X3 hx (L' := #[rv ci, iv iv0, rv c0, iv sg]) (hb hby d17_7) rfl rfl ?_
  refine Go.aload1 9 X3 hx (hb hby d17_8) rfl rfl rfl ?_
  refine Go.dup 10 X3 hx (hb hby d17_9) rfl rfl ?_
  have F4 : Fld Z T1.heap ci "com/example/diligent_tariff/diligenttariff/billing/ClassImpact" "accounts" "I" (.int na) := F_ci_accounts.keep K1 nin0
  obtain ⟨T5, X5, e5, st5⟩ := getF X3 hx hZ hown (host := "") (Or.inl (ow hw 128 rfl)) Via.refl e3 F4 (g := (mkF m 10 #[rv ci, iv iv0, rv c0, iv sg] [(.ref ci), (.ref ci)])) rfl rfl (hb hby d17_10)
  refine Go.by st5 ?_
  show Go _ _ _ _ T5 (mkF m 13 #[rv ci, iv iv0, rv c0, iv sg] [(.int na), (.ref ci)])
  refine Go.iconst 14 X5 hx (1 : Int32) (hb hby d17_13) (by decide) rfl ?_
  refine Go.iadd 15 X5 hx (hb hby d17_14) rfl ?_
  have F6 : Exa Z T1.heap ci "com/example/diligent_tariff/diligenttariff/billing/ClassImpact" := E_ci.keep K1
  obtain ⟨T7, h7, X7, e7, W7, st7⟩ := putF X5 hx hZ hown (host := "") (Or.inl (ow hw 128 rfl)) Via.refl e5 F4 F6 (Or.inl (ow hw 129 rfl)) (ow hw 34 rfl) (ty := .int) (by decide) rfl rfl (g := (mkF m 15 #[rv ci, iv iv0, rv c0, iv sg] [(.int (na + (1 : Int32))), (.ref ci)])) rfl rfl (hb hby d17_15)
  have N7 := Fr.snoc X7 N3 g_ci
  have Fw7 : Fld Z h7 ci "com/example/diligent_tariff/diligenttariff/billing/ClassImpact" "accounts" "I" (.int (na + (1 : Int32))) := F4.same W7
  refine Go.by st7 ?_
  show Go _ _ _ _ T7 (mkF m 18 #[rv ci, iv iv0, rv c0, iv sg] [])
  refine Go.aload1 19 X7 hx (hb hby d17_18) rfl rfl rfl ?_
  refine Go.dup 20 X7 hx (hb hby d17_19) rfl rfl ?_
  have F8 : Fld Z T1.heap ci "com/example/diligent_tariff/diligenttariff/billing/ClassImpact" "bills" "J" (.long nb) := F_ci_bills.keep K1 nin0
  have F9 : Fld Z h7 ci "com/example/diligent_tariff/diligenttariff/billing/ClassImpact" "bills" "J" (.long nb) := F8.other W7 (Or.inr (slot_ne (Or.inl (ow hw 131 rfl)) (Or.inl (ow hw 129 rfl)) (by decide) (t := .long) (t' := .int) (by decide) (by decide)))
  obtain ⟨T10, X10, e10, st10⟩ := getF X7 hx hZ hown (host := "") (Or.inl (ow hw 130 rfl)) Via.refl e7 F9 (g := (mkF m 20 #[rv ci, iv iv0, rv c0, iv sg] [(.ref ci), (.ref ci)])) rfl rfl (hb hby d17_20)
  refine Go.by st10 ?_
  show Go _ _ _ _ T10 (mkF m 23 #[rv ci, iv iv0, rv c0, iv sg] [(.long nb), (.ref ci)])
  refine Go.iload1 24 X10 hx (hb hby d17_23) rfl rfl ?_
  refine Go.i2l 25 X10 hx (hb hby d17_24) rfl ?_
  refine Go.ladd 26 X10 hx (hb hby d17_25) rfl ?_
  have F11 : Exa Z h7 ci "com/example/diligent_tariff/diligenttariff/billing/ClassImpact" := F6.wr W7
  obtain ⟨T12, h12, X12, e12, W12, st12⟩ := putF X10 hx hZ hown (host := "") (Or.inl (ow hw 130 rfl)) Via.refl e10 F9 F11 (Or.inl (ow hw 131 rfl)) (ow hw 34 rfl) (ty := .long) (by decide) rfl rfl (g := (mkF m 26 #[rv ci, iv iv0, rv c0, iv sg] [(.long (nb + (iv0.toInt64))), (.ref ci)])) rfl rfl (hb hby d17_26)
  have N12 := Fr.snoc X12 N7 g_ci
  have Fw12 : Fld Z h12 ci "com/example/diligent_tariff/diligenttariff/billing/ClassImpact" "bills" "J" (.long (nb + (iv0.toInt64))) := F9.same W12
  refine Go.by st12 ?_
  show Go _ _ _ _ T12 (mkF m 29 #[rv ci, iv iv0, rv c0, iv sg] [])
  refine Go.aload1 30 X12 hx (hb hby d17_29) rfl rfl rfl ?_
  refine Go.aload1 31 X12 hx (hb hby d17_30) rfl rfl rfl ?_
  have F13 : Fld Z T1.heap ci "com/example/diligent_tariff/diligenttariff/billing/ClassImpact" "current" "Ljava/math/BigDecimal;" (.ref g1) := F_ci_current.keep K1 nin0
  have F14 : Fld Z h7 ci "com/example/diligent_tariff/diligenttariff/billing/ClassImpact" "current" "Ljava/math/BigDecimal;" (.ref g1) := F13.other W7 (Or.inr (slot_ne (Or.inl (ow hw 61 rfl)) (Or.inl (ow hw 129 rfl)) (by decide) (t := (.object "java/math/BigDecimal")) (t' := .int) (by decide) (by decide)))
  have F15 : Fld Z h12 ci "com/example/diligent_tariff/diligenttariff/billing/ClassImpact" "current" "Ljava/math/BigDecimal;" (.ref g1) := F14.other W12 (Or.inr (slot_ne (Or.inl (ow hw 61 rfl)) (Or.inl (ow hw 131 rfl)) (by decide) (t := (.object "java/math/BigDecimal")) (t' := .long) (by decide) (by decide)))
  obtain ⟨T16, X16, e16, st16⟩ := getF X12 hx hZ hown (host := "") (Or.inl (ow hw 60 rfl)) Via.refl e12 F15 (g := (mkF m 31 #[rv ci, iv iv0, rv c0, iv sg] [(.ref ci), (.ref ci)])) rfl rfl (hb hby d17_31)
  refine Go.by st16 ?_
  show Go _ _ _ _ T16 (mkF m 34 #[rv ci, iv iv0, rv c0, iv sg] [(.ref g1), (.ref ci)])
  refine Go.aload1 35 X16 hx (hb hby d17_34) rfl rfl rfl ?_
  have F17 : Fld Z T1.heap c0 "com/example/diligent_tariff/diligenttariff/billing/Comparison" "current" "Ljava/math/BigDecimal;" (.ref a) := F_c0_current.keep K1 nin0
  have F19 : Exa Z T1.heap c0 "com/example/diligent_tariff/diligenttariff/billing/Comparison" := E_c0.keep K1
  have F20 : Exa Z h7 c0 "com/example/diligent_tariff/diligenttariff/billing/Comparison" := F19.wr W7
  have F21 : Exa Z h12 c0 "com/example/diligent_tariff/diligenttariff/billing/Comparison" := F20.wr W12
  have F22 : Exa Z h12 ci "com/example/diligent_tariff/diligenttariff/billing/ClassImpact" := F11.wr W12
  have F18 : Fld Z h7 c0 "com/example/diligent_tariff/diligenttariff/billing/Comparison" "current" "Ljava/math/BigDecimal;" (.ref a) := F17.other W7 (Or.inl (Exa.ne F21 F22 (by decide)))
  have F23 : Fld Z h12 c0 "com/example/diligent_tariff/diligenttariff/billing/Comparison" "current" "Ljava/math/BigDecimal;" (.ref a) := F18.other W12 (Or.inl (Exa.ne F21 F22 (by decide)))
  have F24 : n0 ≤ h7.size := Nat.le_trans F2 (Nat.le_of_eq (Wr.size W7).symm)
  have F25 : n0 ≤ h12.size := Nat.le_trans F24 (Nat.le_of_eq (Wr.size W12).symm)
  obtain ⟨cq26, kq26, q26a, q26b, q26c⟩ := isOf hZ e16 F21
  obtain ⟨_, _, ⟨T26, L26, k26, n26⟩, -, X26, ⟨Lc26, hQ26, l26, y26, z26⟩, st26⟩ := X16.virtualBack hx (y := (⟨"com/example/diligent_tariff/diligenttariff/billing/Comparison", "getCurrent", "()Ljava/math/BigDecimal;"⟩ : MethodName)) (z := (⟨"com/example/diligent_tariff/diligenttariff/billing/Comparison", "getCurrent", "()Ljava/math/BigDecimal;"⟩ : MethodName)) hown (mvT hZ (ow hw 132 rfl)) (mvT hZ (ow hw 86 rfl)) (notFace_of_selects (args := #[]) (mvT hZ (ow hw 88 rfl))) (mvT hZ (ow hw 88 rfl)) (mvT hZ (ow hw 87 rfl)) (by decide) (backOf (W := 2) (rmGc l Z a0 hw [] c0 a h12 n0 F25 F23) hZ (ow hw 89 rfl) (ow hw 71 rfl) (by decide) (by decide)) q26a q26c (g := (mkF m 35 #[rv ci, iv iv0, rv c0, iv sg] [(.ref c0), (.ref g1), (.ref ci)])) rfl (by rw [hml]; rfl) (Steps.refl _) (argsL := []) (rest := [(.ref g1), (.ref ci)]) (lenOf pd_290 rfl) rfl (by show 2 * 0 + _ ≤ _; exact Nat.le_of_eq rfl) (hb hby d17_35) (fun _ _ => ⟨rfl, e16, (by decide : 1 + 0 ≤ _), (by decide : 5 + 0 ≤ _)⟩)
  dsimp only [Pt.U, Pt.locs, Pt.cells, Pt.slots] at X26 l26 y26 z26 st26 hQ26
  subst l26 y26 z26
  obtain ⟨rfl, N26q, e26⟩ := hQ26
  have N26 := Fr.app N12 N26q
  refine Go.to st26 ?_
  show Go _ _ _ _ T26 (mkF m 38 #[rv ci, iv iv0, rv c0, iv sg] [(.ref a), (.ref g1), (.ref ci)])
  have F27 : Old Z n0 T1.heap := O0.keep K1 all0
  have F28 : Old Z n0 h7 := F27.wr W7 g_ci
  have F29 : Old Z n0 h12 := F28.wr W12 g_ci
  have F30 : Fld Z T1.heap g1 "java/math/BigDecimal" "scale" "I" (.int 2) := F_g1_scale.keep K1 nin0
  have F32 : Exa Z T1.heap g1 "java/math/BigDecimal" := E_g1.keep K1
  have F33 : Exa Z h7 g1 "java/math/BigDecimal" := F32.wr W7
  have F34 : Exa Z h12 g1 "java/math/BigDecimal" := F33.wr W12
  have F31 : Fld Z h7 g1 "java/math/BigDecimal" "scale" "I" (.int 2) := F30.other W7 (Or.inl (Exa.ne F34 F22 (by decide)))
  have F35 : Fld Z h12 g1 "java/math/BigDecimal" "scale" "I" (.int 2) := F31.other W12 (Or.inl (Exa.ne F34 F22 (by decide)))
  have F36 : Fld Z T1.heap g1 "java/math/BigDecimal" "intCompact" "J" (.long x2) := F_g1_intCompact.keep K1 nin0
  have F37 : Fld Z h7 g1 "java/math/BigDecimal" "intCompact" "J" (.long x2) := F36.other W7 (Or.inl (Exa.ne F34 F22 (by decide)))
  have F38 : Fld Z h12 g1 "java/math/BigDecimal" "intCompact" "J" (.long x2) := F37.other W12 (Or.inl (Exa.ne F34 F22 (by decide)))
  have F39 : Fld Z T1.heap a "java/math/BigDecimal" "scale" "I" (.int 2) := F_a_scale.keep K1 nin0
  have F41 : Exa Z T1.heap a "java/math/BigDecimal" := E_a.keep K1
  have F42 : Exa Z h7 a "java/math/BigDecimal" := F41.wr W7
  have F43 : Exa Z h12 a "java/math/BigDecimal" := F42.wr W12
  have F40 : Fld Z h7 a "java/math/BigDecimal" "scale" "I" (.int 2) := F39.other W7 (Or.inl (Exa.ne F43 F22 (by decide)))
  have F44 : Fld Z h12 a "java/math/BigDecimal" "scale" "I" (.int 2) := F40.other W12 (Or.inl (Exa.ne F43 F22 (by decide)))
  have F45 : Fld Z T1.heap a "java/math/BigDecimal" "intCompact" "J" (.long x) := F_a_intCompact.keep K1 nin0
  have F46 : Fld Z h7 a "java/math/BigDecimal" "intCompact" "J" (.long x) := F45.other W7 (Or.inl (Exa.ne F43 F22 (by decide)))
  have F47 : Fld Z h12 a "java/math/BigDecimal" "intCompact" "J" (.long x) := F46.other W12 (Or.inl (Exa.ne F43 F22 (by decide)))
  obtain ⟨cq48, kq48, q48a, q48b, q48c⟩ := isOf hZ e26 F34
  obtain ⟨_, _, ⟨T48, L48, k48, n48⟩, -, X48, ⟨Lc48, hQ48, l48, y48, z48⟩, st48⟩ := X26.virtualBack hx (y := (⟨"java/math/BigDecimal", "add", "(Ljava/math/BigDecimal;)Ljava/math/BigDecimal;"⟩ : MethodName)) (z := (⟨"java/math/BigDecimal", "add", "(Ljava/math/BigDecimal;)Ljava/math/BigDecimal;"⟩ : MethodName)) hown (mvT hZ (ow hw 133 rfl)) (mvT hZ (ow hw 134 rfl)) (notFace_of_selects (args := #[]) (mvT hZ (ow hw 136 rfl))) (mvT hZ (ow hw 136 rfl)) (mvT hZ (ow hw 135 rfl)) (by decide) (backOf (W := 1) (rmAdd l Z a0 hw [] g1 a x2 x ze0 ze1 ze2 ze3 ze4 ze5 ze6 ze7 ze8 ze9 ze10 ze11 ze12 ze13 ze14 ze15 za kz h12 n0 F25 F29 F35 F38 F44 F47 hx2 hx1 D0 D1 D2 D3 D4 D5 D6 D7 D8) hZ (ow hw 137 rfl) (ow hw 3 rfl) (by decide) (by decide)) q48a q48c (g := (mkF m 38 #[rv ci, iv iv0, rv c0, iv sg] [(.ref a), (.ref g1), (.ref ci)])) rfl (by rw [hml]; rfl) (Steps.refl _) (argsL := [(.ref a)]) (rest := [(.ref ci)]) (lenOf pd_271 rfl) rfl (by show 2 * 0 + _ ≤ _; exact Nat.le_of_eq rfl) (hb hby d17_38) (fun _ _ => ⟨rfl, e26, (by decide : 1 + 1 ≤ _), (by decide : 5 + 5 ≤ _)⟩)
  dsimp only [Pt.U, Pt.locs, Pt.cells, Pt.slots] at X48 l48 y48 z48 st48 hQ48
  subst l48 y48 z48
  obtain ⟨d1, rfl, N48q, K48, Q48_0, Q48_1, Q48_2⟩ := hQ48
  have N48 := Fr.app N26 N48q
  refine Go.to st48 ?_
  show Go _ _ _ _ T48 (mkF m 41 #[rv ci, iv iv0, rv c0, iv sg] [(.ref d1), (.ref ci)])
  have F49 : Fld Z T48.heap ci "com/example/diligent_tariff/diligenttariff/billing/ClassImpact" "current" "Ljava/math/BigDecimal;" (.ref g1) := F15.keep K48 nin0
  have F50 : Exa Z T48.heap ci "com/example/diligent_tariff/diligenttariff/billing/ClassImpact" := F22.keep K48
  obtain ⟨T51, h51, X51, e51, W51, st51⟩ := putF X48 hx hZ hown (host := "") (Or.inl (ow hw 60 rfl)) Via.refl rfl F49 F50 (Or.inl (ow hw 61 rfl)) (ow hw 34 rfl) (ty := (.object "java/math/BigDecimal")) (by decide) rfl rfl (g := (mkF m 41 #[rv ci, iv iv0, rv c0, iv sg] [(.ref d1), (.ref ci)])) rfl rfl (hb hby d17_41)
  have N51 := Fr.snoc X51 N48 g_ci
  have Fw51 : Fld Z h51 ci "com/example/diligent_tariff/diligenttariff/billing/ClassImpact" "current" "Ljava/math/BigDecimal;" (.ref d1) := F49.same W51
  refine Go.by st51 ?_
  show Go _ _ _ _ T51 (mkF m 44 #[rv ci, iv iv0, rv c0, iv sg] [])
  refine Go.aload1 45 X51 hx (hb hby d17_44) rfl rfl rfl ?_
  refine Go.aload1 46 X51 hx (hb hby d17_45) rfl rfl rfl ?_
  have F52 : Fld Z T1.heap ci "com/example/diligent_tariff/diligenttariff/billing/ClassImpact" "proposed" "Ljava/math/BigDecimal;" (.ref g2) := F_ci_proposed.keep K1 nin0
  have F53 : Fld Z h7 ci "com/example/diligent_tariff/diligenttariff/billing/ClassImpact" "proposed" "Ljava/math/BigDecimal;" (.ref g2) := F52.other W7 (Or.inr (slot_ne (Or.inl (ow hw 63 rfl)) (Or.inl (ow hw 129 rfl)) (by decide) (t := (.object "java/math/BigDecimal")) (t' := .int) (by decide) (by decide)))
  have F54 : Fld Z h12 ci "com/example/diligent_tariff/diligenttariff/billing/ClassImpact" "proposed" "Ljava/math/BigDecimal;" (.ref g2) := F53.other W12 (Or.inr (slot_ne (Or.inl (ow hw 63 rfl)) (Or.inl (ow hw 131 rfl)) (by decide) (t := (.object "java/math/BigDecimal")) (t' := .long) (by decide) (by decide)))
  have F55 : Fld Z T48.heap ci "com/example/diligent_tariff/diligenttariff/billing/ClassImpact" "proposed" "Ljava/math/BigDecimal;" (.ref g2) := F54.keep K48 nin0
  have F56 : Fld Z h51 ci "com/example/diligent_tariff/diligenttariff/billing/ClassImpact" "proposed" "Ljava/math/BigDecimal;" (.ref g2) := F55.other W51 (Or.inr (slot_ne (Or.inl (ow hw 63 rfl)) (Or.inl (ow hw 61 rfl)) (by decide) (t := (.object "java/math/BigDecimal")) (t' := (.object "java/math/BigDecimal")) (by decide) (by decide)))
  obtain ⟨T57, X57, e57, st57⟩ := getF X51 hx hZ hown (host := "") (Or.inl (ow hw 62 rfl)) Via.refl e51 F56 (g := (mkF m 46 #[rv ci, iv iv0, rv c0, iv sg] [(.ref ci), (.ref ci)])) rfl rfl (hb hby d17_46)
  refine Go.by st57 ?_
  show Go _ _ _ _ T57 (mkF m 49 #[rv ci, iv iv0, rv c0, iv sg] [(.ref g2), (.ref ci)])
  refine Go.aload1 50 X57 hx (hb hby d17_49) rfl rfl rfl ?_
  have F58 : Fld Z T1.heap c0 "com/example/diligent_tariff/diligenttariff/billing/Comparison" "proposed" "Ljava/math/BigDecimal;" (.ref a2) := F_c0_proposed.keep K1 nin0
  have F60 : Exa Z T48.heap c0 "com/example/diligent_tariff/diligenttariff/billing/Comparison" := F21.keep K48
  have F61 : Exa Z h51 c0 "com/example/diligent_tariff/diligenttariff/billing/Comparison" := F60.wr W51
  have F62 : Exa Z h51 ci "com/example/diligent_tariff/diligenttariff/billing/ClassImpact" := F50.wr W51
  have F59 : Fld Z h7 c0 "com/example/diligent_tariff/diligenttariff/billing/Comparison" "proposed" "Ljava/math/BigDecimal;" (.ref a2) := F58.other W7 (Or.inl (Exa.ne F61 F62 (by decide)))
  have F63 : Fld Z h12 c0 "com/example/diligent_tariff/diligenttariff/billing/Comparison" "proposed" "Ljava/math/BigDecimal;" (.ref a2) := F59.other W12 (Or.inl (Exa.ne F61 F62 (by decide)))
  have F64 : Fld Z T48.heap c0 "com/example/diligent_tariff/diligenttariff/billing/Comparison" "proposed" "Ljava/math/BigDecimal;" (.ref a2) := F63.keep K48 nin0
  have F65 : Fld Z h51 c0 "com/example/diligent_tariff/diligenttariff/billing/Comparison" "proposed" "Ljava/math/BigDecimal;" (.ref a2) := F64.other W51 (Or.inl (Exa.ne F61 F62 (by decide)))
  have F66 : n0 ≤ T48.heap.size := Nat.le_trans F25 K48.1
  have F67 : n0 ≤ h51.size := Nat.le_trans F66 (Nat.le_of_eq (Wr.size W51).symm)
  obtain ⟨cq68, kq68, q68a, q68b, q68c⟩ := isOf hZ e57 F61
  obtain ⟨_, _, ⟨T68, L68, k68, n68⟩, -, X68, ⟨Lc68, hQ68, l68, y68, z68⟩, st68⟩ := X57.virtualBack hx (y := (⟨"com/example/diligent_tariff/diligenttariff/billing/Comparison", "getProposed", "()Ljava/math/BigDecimal;"⟩ : MethodName)) (z := (⟨"com/example/diligent_tariff/diligenttariff/billing/Comparison", "getProposed", "()Ljava/math/BigDecimal;"⟩ : MethodName)) hown (mvT hZ (ow hw 138 rfl)) (mvT hZ (ow hw 96 rfl)) (notFace_of_selects (args := #[]) (mvT hZ (ow hw 98 rfl))) (mvT hZ (ow hw 98 rfl)) (mvT hZ (ow hw 97 rfl)) (by decide) (backOf (W := 2) (rmGp l Z a0 hw [] c0 a2 h51 n0 F67 F65) hZ (ow hw 99 rfl) (ow hw 71 rfl) (by decide) (by decide)) q68a q68c (g := (mkF m 50 #[rv ci, iv iv0, rv c0, iv sg] [(.ref c0), (.ref g2), (.ref ci)])) rfl (by rw [hml]; rfl) (Steps.refl _) (argsL := []) (rest := [(.ref g2), (.ref ci)]) (lenOf pd_290 rfl) rfl (by show 2 * 0 + _ ≤ _; exact Nat.le_of_eq rfl) (hb hby d17_50) (fun _ _ => ⟨rfl, e57, (by decide : 2 + 0 ≤ _), (by decide : 10 + 0 ≤ _)⟩)
  dsimp only [Pt.U, Pt.locs, Pt.cells, Pt.slots] at X68 l68 y68 z68 st68 hQ68
  subst l68 y68 z68
  obtain ⟨rfl, N68q, e68⟩ := hQ68
  have N68 := Fr.app N51 N68q
  refine Go.to st68 ?_
  show Go _ _ _ _ T68 (mkF m 53 #[rv ci, iv iv0, rv c0, iv sg] [(.ref a2), (.ref g2), (.ref ci)])
  have F69 : Old Z n0 T48.heap := F29.keep K48 all0
  have F70 : Old Z n0 h51 := F69.wr W51 g_ci
  have F71 : Fld Z T1.heap g2 "java/math/BigDecimal" "scale" "I" (.int 2) := F_g2_scale.keep K1 nin0
  have F73 : Exa Z T1.heap g2 "java/math/BigDecimal" := E_g2.keep K1
  have F74 : Exa Z h7 g2 "java/math/BigDecimal" := F73.wr W7
  have F75 : Exa Z h12 g2 "java/math/BigDecimal" := F74.wr W12
  have F76 : Exa Z T48.heap g2 "java/math/BigDecimal" := F75.keep K48
  have F77 : Exa Z h51 g2 "java/math/BigDecimal" := F76.wr W51
  have F72 : Fld Z h7 g2 "java/math/BigDecimal" "scale" "I" (.int 2) := F71.other W7 (Or.inl (Exa.ne F77 F62 (by decide)))
  have F78 : Fld Z h12 g2 "java/math/BigDecimal" "scale" "I" (.int 2) := F72.other W12 (Or.inl (Exa.ne F77 F62 (by decide)))
  have F79 : Fld Z T48.heap g2 "java/math/BigDecimal" "scale" "I" (.int 2) := F78.keep K48 nin0
  have F80 : Fld Z h51 g2 "java/math/BigDecimal" "scale" "I" (.int 2) := F79.other W51 (Or.inl (Exa.ne F77 F62 (by decide)))
  have F81 : Fld Z T1.heap g2 "java/math/BigDecimal" "intCompact" "J" (.long y2) := F_g2_intCompact.keep K1 nin0
  have F82 : Fld Z h7 g2 "java/math/BigDecimal" "intCompact" "J" (.long y2) := F81.other W7 (Or.inl (Exa.ne F77 F62 (by decide)))
  have F83 : Fld Z h12 g2 "java/math/BigDecimal" "intCompact" "J" (.long y2) := F82.other W12 (Or.inl (Exa.ne F77 F62 (by decide)))
  have F84 : Fld Z T48.heap g2 "java/math/BigDecimal" "intCompact" "J" (.long y2) := F83.keep K48 nin0
  have F85 : Fld Z h51 g2 "java/math/BigDecimal" "intCompact" "J" (.long y2) := F84.other W51 (Or.inl (Exa.ne F77 F62 (by decide)))
  have F86 : Fld Z T1.heap a2 "java/math/BigDecimal" "scale" "I" (.int 2) := F_a2_scale.keep K1 nin0
  have F88 : Exa Z T1.heap a2 "java/math/BigDecimal" := E_a2.keep K1
  have F89 : Exa Z h7 a2 "java/math/BigDecimal" := F88.wr W7
  have F90 : Exa Z h12 a2 "java/math/BigDecimal" := F89.wr W12
  have F91 : Exa Z T48.heap a2 "java/math/BigDecimal" := F90.keep K48
  have F92 : Exa Z h51 a2 "java/math/BigDecimal" := F91.wr W51
  have F87 : Fld Z h7 a2 "java/math/BigDecimal" "scale" "I" (.int 2) := F86.other W7 (Or.inl (Exa.ne F92 F62 (by decide)))
  have F93 : Fld Z h12 a2 "java/math/BigDecimal" "scale" "I" (.int 2) := F87.other W12 (Or.inl (Exa.ne F92 F62 (by decide)))
  have F94 : Fld Z T48.heap a2 "java/math/BigDecimal" "scale" "I" (.int 2) := F93.keep K48 nin0
  have F95 : Fld Z h51 a2 "java/math/BigDecimal" "scale" "I" (.int 2) := F94.other W51 (Or.inl (Exa.ne F92 F62 (by decide)))
  have F96 : Fld Z T1.heap a2 "java/math/BigDecimal" "intCompact" "J" (.long y) := F_a2_intCompact.keep K1 nin0
  have F97 : Fld Z h7 a2 "java/math/BigDecimal" "intCompact" "J" (.long y) := F96.other W7 (Or.inl (Exa.ne F92 F62 (by decide)))
  have F98 : Fld Z h12 a2 "java/math/BigDecimal" "intCompact" "J" (.long y) := F97.other W12 (Or.inl (Exa.ne F92 F62 (by decide)))
  have F99 : Fld Z T48.heap a2 "java/math/BigDecimal" "intCompact" "J" (.long y) := F98.keep K48 nin0
  have F100 : Fld Z h51 a2 "java/math/BigDecimal" "intCompact" "J" (.long y) := F99.other W51 (Or.inl (Exa.ne F92 F62 (by decide)))
  obtain ⟨cq101, kq101, q101a, q101b, q101c⟩ := isOf hZ e68 F77
  obtain ⟨_, _, ⟨T101, L101, k101, n101⟩, -, X101, ⟨Lc101, hQ101, l101, y101, z101⟩, st101⟩ := X68.virtualBack hx (y := (⟨"java/math/BigDecimal", "add", "(Ljava/math/BigDecimal;)Ljava/math/BigDecimal;"⟩ : MethodName)) (z := (⟨"java/math/BigDecimal", "add", "(Ljava/math/BigDecimal;)Ljava/math/BigDecimal;"⟩ : MethodName)) hown (mvT hZ (ow hw 133 rfl)) (mvT hZ (ow hw 134 rfl)) (notFace_of_selects (args := #[]) (mvT hZ (ow hw 136 rfl))) (mvT hZ (ow hw 136 rfl)) (mvT hZ (ow hw 135 rfl)) (by decide) (backOf (W := 1) (rmAdd l Z a0 hw [] g2 a2 y2 y ze0 ze1 ze2 ze3 ze4 ze5 ze6 ze7 ze8 ze9 ze10 ze11 ze12 ze13 ze14 ze15 za kz h51 n0 F67 F70 F80 F85 F95 F100 hy2 hy1 D0 D1 D2 D3 D4 D5 D6 D7 D8) hZ (ow hw 137 rfl) (ow hw 3 rfl) (by decide) (by decide)) q101a q101c (g := (mkF m 53 #[rv ci, iv iv0, rv c0, iv sg] [(.ref a2), (.ref g2), (.ref ci)])) rfl (by rw [hml]; rfl) (Steps.refl _) (argsL := [(.ref a2)]) (rest := [(.ref ci)]) (lenOf pd_271 rfl) rfl (by show 2 * 0 + _ ≤ _; exact Nat.le_of_eq rfl) (hb hby d17_53) (fun _ _ => ⟨rfl, e68, (by decide : 2 + 1 ≤ _), (by decide : 10 + 5 ≤ _)⟩)
  dsimp only [Pt.U, Pt.locs, Pt.cells, Pt.slots] at X101 l101 y101 z101 st101 hQ101
  subst l101 y101 z101
  obtain ⟨d2, rfl, N101q, K101, Q101_0, Q101_1, Q101_2⟩ := hQ101
  have N101 := Fr.app N68 N101q
  refine Go.to st101 ?_
  show Go _ _ _ _ T101 (mkF m 56 #[rv ci, iv iv0, rv c0, iv sg] [(.ref d2), (.ref ci)])
  have F102 : Fld Z T101.heap ci "com/example/diligent_tariff/diligenttariff/billing/ClassImpact" "proposed" "Ljava/math/BigDecimal;" (.ref g2) := F56.keep K101 nin0
  have F103 : Exa Z T101.heap ci "com/example/diligent_tariff/diligenttariff/billing/ClassImpact" := F62.keep K101
  obtain ⟨T104, h104, X104, e104, W104, st104⟩ := putF X101 hx hZ hown (host := "") (Or.inl (ow hw 62 rfl)) Via.refl rfl F102 F103 (Or.inl (ow hw 63 rfl)) (ow hw 34 rfl) (ty := (.object "java/math/BigDecimal")) (by decide) rfl rfl (g := (mkF m 56 #[rv ci, iv iv0, rv c0, iv sg] [(.ref d2), (.ref ci)])) rfl rfl (hb hby d17_56)
  have N104 := Fr.snoc X104 N101 g_ci
  have Fw104 : Fld Z h104 ci "com/example/diligent_tariff/diligenttariff/billing/ClassImpact" "proposed" "Ljava/math/BigDecimal;" (.ref d2) := F102.same W104
  refine Go.by st104 ?_
  show Go _ _ _ _ T104 (mkF m 59 #[rv ci, iv iv0, rv c0, iv sg] [])
  refine Go.iload1 60 X104 hx (hb hby d17_59) rfl rfl ?_
  by_cases hb105 : 0 < sg
  · refine Go.ifN 63 X104 hx (hb hby d17_60) (XT.i0_le_f hb105) rfl ?_
    refine Go.aload1 64 X104 hx (hb hby d17_63) rfl rfl rfl ?_
    refine Go.dup 65 X104 hx (hb hby d17_64) rfl rfl ?_
    have F106 : Fld Z T1.heap ci "com/example/diligent_tariff/diligenttariff/billing/ClassImpact" "higher" "I" (.int nh) := F_ci_higher.keep K1 nin0
    have F107 : Fld Z h7 ci "com/example/diligent_tariff/diligenttariff/billing/ClassImpact" "higher" "I" (.int nh) := F106.other W7 (Or.inr (slot_ne (Or.inl (ow hw 140 rfl)) (Or.inl (ow hw 129 rfl)) (by decide) (t := .int) (t' := .int) (by decide) (by decide)))
    have F108 : Fld Z h12 ci "com/example/diligent_tariff/diligenttariff/billing/ClassImpact" "higher" "I" (.int nh) := F107.other W12 (Or.inr (slot_ne (Or.inl (ow hw 140 rfl)) (Or.inl (ow hw 131 rfl)) (by decide) (t := .int) (t' := .long) (by decide) (by decide)))
    have F109 : Fld Z T48.heap ci "com/example/diligent_tariff/diligenttariff/billing/ClassImpact" "higher" "I" (.int nh) := F108.keep K48 nin0
    have F110 : Fld Z h51 ci "com/example/diligent_tariff/diligenttariff/billing/ClassImpact" "higher" "I" (.int nh) := F109.other W51 (Or.inr (slot_ne (Or.inl (ow hw 140 rfl)) (Or.inl (ow hw 61 rfl)) (by decide) (t := .int) (t' := (.object "java/math/BigDecimal")) (by decide) (by decide)))
    have F111 : Fld Z T101.heap ci "com/example/diligent_tariff/diligenttariff/billing/ClassImpact" "higher" "I" (.int nh) := F110.keep K101 nin0
    have F112 : Fld Z h104 ci "com/example/diligent_tariff/diligenttariff/billing/ClassImpact" "higher" "I" (.int nh) := F111.other W104 (Or.inr (slot_ne (Or.inl (ow hw 140 rfl)) (Or.inl (ow hw 63 rfl)) (by decide) (t := .int) (t' := (.object "java/math/BigDecimal")) (by decide) (by decide)))
    obtain ⟨T113, X113, e113, st113⟩ := getF X104 hx hZ hown (host := "") (Or.inl (ow hw 139 rfl)) Via.refl e104 F112 (g := (mkF m 65 #[rv ci, iv iv0, rv c0, iv sg] [(.ref ci), (.ref ci)])) rfl rfl (hb hby d17_65)
    refine Go.by st113 ?_
    show Go _ _ _ _ T113 (mkF m 68 #[rv ci, iv iv0, rv c0, iv sg] [(.int nh), (.ref ci)])
    refine Go.iconst 69 X113 hx (1 : Int32) (hb hby d17_68) (by decide) rfl ?_
    refine Go.iadd 70 X113 hx (hb hby d17_69) rfl ?_
    have F114 : Exa Z h104 ci "com/example/diligent_tariff/diligenttariff/billing/ClassImpact" := F103.wr W104
    obtain ⟨T115, h115, X115, e115, W115, st115⟩ := putF X113 hx hZ hown (host := "") (Or.inl (ow hw 139 rfl)) Via.refl e113 F112 F114 (Or.inl (ow hw 140 rfl)) (ow hw 34 rfl) (ty := .int) (by decide) rfl rfl (g := (mkF m 70 #[rv ci, iv iv0, rv c0, iv sg] [(.int (nh + (1 : Int32))), (.ref ci)])) rfl rfl (hb hby d17_70)
    have N115 := Fr.snoc X115 N104 g_ci
    have Fw115 : Fld Z h115 ci "com/example/diligent_tariff/diligenttariff/billing/ClassImpact" "higher" "I" (.int (nh + (1 : Int32))) := F112.same W115
    refine Go.by st115 ?_
    show Go _ _ _ _ T115 (mkF m 73 #[rv ci, iv iv0, rv c0, iv sg] [])
    refine Go.goto 103 X115 hx (hb hby d17_73) (by decide) (by decide) ?_
    have F116 : Keep h0 T1.heap [ci] := (Keep.refl h0 [ci]).trans K1 all0
    have F117 : Keep h0 h7 [ci] := F116.wr W7 (Or.inl (List.mem_of_getElem? (i := 0) rfl))
    have F118 : Keep h0 h12 [ci] := F117.wr W12 (Or.inl (List.mem_of_getElem? (i := 0) rfl))
    have F119 : Keep h0 T48.heap [ci] := F118.trans K48 all0
    have F120 : Keep h0 h51 [ci] := F119.wr W51 (Or.inl (List.mem_of_getElem? (i := 0) rfl))
    have F121 : Keep h0 T101.heap [ci] := F120.trans K101 all0
    have F122 : Keep h0 h104 [ci] := F121.wr W104 (Or.inl (List.mem_of_getElem? (i := 0) rfl))
    have F123 : Keep h0 h115 [ci] := F122.wr W115 (Or.inl (List.mem_of_getElem? (i := 0) rfl))
    have F124 : Exa Z h115 ci "com/example/diligent_tariff/diligenttariff/billing/ClassImpact" := F114.wr W115
    have F125 : Fld Z T101.heap ci "com/example/diligent_tariff/diligenttariff/billing/ClassImpact" "current" "Ljava/math/BigDecimal;" (.ref d1) := Fw51.keep K101 nin0
    have F126 : Fld Z h104 ci "com/example/diligent_tariff/diligenttariff/billing/ClassImpact" "current" "Ljava/math/BigDecimal;" (.ref d1) := F125.other W104 (Or.inr (slot_ne (Or.inl (ow hw 61 rfl)) (Or.inl (ow hw 63 rfl)) (by decide) (t := (.object "java/math/BigDecimal")) (t' := (.object "java/math/BigDecimal")) (by decide) (by decide)))
    have F127 : Fld Z h115 ci "com/example/diligent_tariff/diligenttariff/billing/ClassImpact" "current" "Ljava/math/BigDecimal;" (.ref d1) := F126.other W115 (Or.inr (slot_ne (Or.inl (ow hw 61 rfl)) (Or.inl (ow hw 140 rfl)) (by decide) (t := (.object "java/math/BigDecimal")) (t' := .int) (by decide) (by decide)))
    have F128 : Fld Z h115 ci "com/example/diligent_tariff/diligenttariff/billing/ClassImpact" "proposed" "Ljava/math/BigDecimal;" (.ref d2) := Fw104.other W115 (Or.inr (slot_ne (Or.inl (ow hw 63 rfl)) (Or.inl (ow hw 140 rfl)) (by decide) (t := (.object "java/math/BigDecimal")) (t' := .int) (by decide) (by decide)))
    have F129 : Fld Z h12 ci "com/example/diligent_tariff/diligenttariff/billing/ClassImpact" "accounts" "I" (.int (na + (1 : Int32))) := Fw7.other W12 (Or.inr (slot_ne (Or.inl (ow hw 129 rfl)) (Or.inl (ow hw 131 rfl)) (by decide) (t := .int) (t' := .long) (by decide) (by decide)))
    have F130 : Fld Z T48.heap ci "com/example/diligent_tariff/diligenttariff/billing/ClassImpact" "accounts" "I" (.int (na + (1 : Int32))) := F129.keep K48 nin0
    have F131 : Fld Z h51 ci "com/example/diligent_tariff/diligenttariff/billing/ClassImpact" "accounts" "I" (.int (na + (1 : Int32))) := F130.other W51 (Or.inr (slot_ne (Or.inl (ow hw 129 rfl)) (Or.inl (ow hw 61 rfl)) (by decide) (t := .int) (t' := (.object "java/math/BigDecimal")) (by decide) (by decide)))
    have F132 : Fld Z T101.heap ci "com/example/diligent_tariff/diligenttariff/billing/ClassImpact" "accounts" "I" (.int (na + (1 : Int32))) := F131.keep K101 nin0
    have F133 : Fld Z h104 ci "com/example/diligent_tariff/diligenttariff/billing/ClassImpact" "accounts" "I" (.int (na + (1 : Int32))) := F132.other W104 (Or.inr (slot_ne (Or.inl (ow hw 129 rfl)) (Or.inl (ow hw 63 rfl)) (by decide) (t := .int) (t' := (.object "java/math/BigDecimal")) (by decide) (by decide)))
    have F134 : Fld Z h115 ci "com/example/diligent_tariff/diligenttariff/billing/ClassImpact" "accounts" "I" (.int (na + (1 : Int32))) := F133.other W115 (Or.inr (slot_ne (Or.inl (ow hw 129 rfl)) (Or.inl (ow hw 140 rfl)) (by decide) (t := .int) (t' := .int) (by decide) (by decide)))
    have F135 : Fld Z T48.heap ci "com/example/diligent_tariff/diligenttariff/billing/ClassImpact" "bills" "J" (.long (nb + (iv0.toInt64))) := Fw12.keep K48 nin0
    have F136 : Fld Z h51 ci "com/example/diligent_tariff/diligenttariff/billing/ClassImpact" "bills" "J" (.long (nb + (iv0.toInt64))) := F135.other W51 (Or.inr (slot_ne (Or.inl (ow hw 131 rfl)) (Or.inl (ow hw 61 rfl)) (by decide) (t := .long) (t' := (.object "java/math/BigDecimal")) (by decide) (by decide)))
    have F137 : Fld Z T101.heap ci "com/example/diligent_tariff/diligenttariff/billing/ClassImpact" "bills" "J" (.long (nb + (iv0.toInt64))) := F136.keep K101 nin0
    have F138 : Fld Z h104 ci "com/example/diligent_tariff/diligenttariff/billing/ClassImpact" "bills" "J" (.long (nb + (iv0.toInt64))) := F137.other W104 (Or.inr (slot_ne (Or.inl (ow hw 131 rfl)) (Or.inl (ow hw 63 rfl)) (by decide) (t := .long) (t' := (.object "java/math/BigDecimal")) (by decide) (by decide)))
    have F139 : Fld Z h115 ci "com/example/diligent_tariff/diligenttariff/billing/ClassImpact" "bills" "J" (.long (nb + (iv0.toInt64))) := F138.other W115 (Or.inr (slot_ne (Or.inl (ow hw 131 rfl)) (Or.inl (ow hw 140 rfl)) (by decide) (t := .long) (t' := .int) (by decide) (by decide)))
    have F140 : Fld Z T1.heap ci "com/example/diligent_tariff/diligenttariff/billing/ClassImpact" "unchanged" "I" (.int nu) := F_ci_unchanged.keep K1 nin0
    have F141 : Fld Z h7 ci "com/example/diligent_tariff/diligenttariff/billing/ClassImpact" "unchanged" "I" (.int nu) := F140.other W7 (Or.inr (slot_ne (Or.inl (ow hw 144 rfl)) (Or.inl (ow hw 129 rfl)) (by decide) (t := .int) (t' := .int) (by decide) (by decide)))
    have F142 : Fld Z h12 ci "com/example/diligent_tariff/diligenttariff/billing/ClassImpact" "unchanged" "I" (.int nu) := F141.other W12 (Or.inr (slot_ne (Or.inl (ow hw 144 rfl)) (Or.inl (ow hw 131 rfl)) (by decide) (t := .int) (t' := .long) (by decide) (by decide)))
    have F143 : Fld Z T48.heap ci "com/example/diligent_tariff/diligenttariff/billing/ClassImpact" "unchanged" "I" (.int nu) := F142.keep K48 nin0
    have F144 : Fld Z h51 ci "com/example/diligent_tariff/diligenttariff/billing/ClassImpact" "unchanged" "I" (.int nu) := F143.other W51 (Or.inr (slot_ne (Or.inl (ow hw 144 rfl)) (Or.inl (ow hw 61 rfl)) (by decide) (t := .int) (t' := (.object "java/math/BigDecimal")) (by decide) (by decide)))
    have F145 : Fld Z T101.heap ci "com/example/diligent_tariff/diligenttariff/billing/ClassImpact" "unchanged" "I" (.int nu) := F144.keep K101 nin0
    have F146 : Fld Z h104 ci "com/example/diligent_tariff/diligenttariff/billing/ClassImpact" "unchanged" "I" (.int nu) := F145.other W104 (Or.inr (slot_ne (Or.inl (ow hw 144 rfl)) (Or.inl (ow hw 63 rfl)) (by decide) (t := .int) (t' := (.object "java/math/BigDecimal")) (by decide) (by decide)))
    have F147 : Fld Z h115 ci "com/example/diligent_tariff/diligenttariff/billing/ClassImpact" "unchanged" "I" (.int nu) := F146.other W115 (Or.inr (slot_ne (Or.inl (ow hw 144 rfl)) (Or.inl (ow hw 140 rfl)) (by decide) (t := .int) (t' := .int) (by decide) (by decide)))
    have F148 : Fld Z T1.heap ci "com/example/diligent_tariff/diligenttariff/billing/ClassImpact" "lower" "I" (.int nl) := F_ci_lower.keep K1 nin0
    have F149 : Fld Z h7 ci "com/example/diligent_tariff/diligenttariff/billing/ClassImpact" "lower" "I" (.int nl) := F148.other W7 (Or.inr (slot_ne (Or.inl (ow hw 142 rfl)) (Or.inl (ow hw 129 rfl)) (by decide) (t := .int) (t' := .int) (by decide) (by decide)))
    have F150 : Fld Z h12 ci "com/example/diligent_tariff/diligenttariff/billing/ClassImpact" "lower" "I" (.int nl) := F149.other W12 (Or.inr (slot_ne (Or.inl (ow hw 142 rfl)) (Or.inl (ow hw 131 rfl)) (by decide) (t := .int) (t' := .long) (by decide) (by decide)))
    have F151 : Fld Z T48.heap ci "com/example/diligent_tariff/diligenttariff/billing/ClassImpact" "lower" "I" (.int nl) := F150.keep K48 nin0
    have F152 : Fld Z h51 ci "com/example/diligent_tariff/diligenttariff/billing/ClassImpact" "lower" "I" (.int nl) := F151.other W51 (Or.inr (slot_ne (Or.inl (ow hw 142 rfl)) (Or.inl (ow hw 61 rfl)) (by decide) (t := .int) (t' := (.object "java/math/BigDecimal")) (by decide) (by decide)))
    have F153 : Fld Z T101.heap ci "com/example/diligent_tariff/diligenttariff/billing/ClassImpact" "lower" "I" (.int nl) := F152.keep K101 nin0
    have F154 : Fld Z h104 ci "com/example/diligent_tariff/diligenttariff/billing/ClassImpact" "lower" "I" (.int nl) := F153.other W104 (Or.inr (slot_ne (Or.inl (ow hw 142 rfl)) (Or.inl (ow hw 63 rfl)) (by decide) (t := .int) (t' := (.object "java/math/BigDecimal")) (by decide) (by decide)))
    have F155 : Fld Z h115 ci "com/example/diligent_tariff/diligenttariff/billing/ClassImpact" "lower" "I" (.int nl) := F154.other W115 (Or.inr (slot_ne (Or.inl (ow hw 142 rfl)) (Or.inl (ow hw 140 rfl)) (by decide) (t := .int) (t' := .int) (by decide) (by decide)))
    have F156 : Exa Z h51 d1 "java/math/BigDecimal" := Q48_0.wr W51
    have F157 : Exa Z T101.heap d1 "java/math/BigDecimal" := F156.keep K101
    have F158 : Exa Z h104 d1 "java/math/BigDecimal" := F157.wr W104
    have F159 : Exa Z h115 d1 "java/math/BigDecimal" := F158.wr W115
    have F160 : Fld Z h51 d1 "java/math/BigDecimal" "scale" "I" (.int 2) := Q48_1.other W51 (Or.inl (Exa.ne F159 F124 (by decide)))
    have F161 : Fld Z T101.heap d1 "java/math/BigDecimal" "scale" "I" (.int 2) := F160.keep K101 nin0
    have F162 : Fld Z h104 d1 "java/math/BigDecimal" "scale" "I" (.int 2) := F161.other W104 (Or.inl (Exa.ne F159 F124 (by decide)))
    have F163 : Fld Z h115 d1 "java/math/BigDecimal" "scale" "I" (.int 2) := F162.other W115 (Or.inl (Exa.ne F159 F124 (by decide)))
    have F164 : Fld Z h51 d1 "java/math/BigDecimal" "intCompact" "J" (.long (x2 + x)) := Q48_2.other W51 (Or.inl (Exa.ne F159 F124 (by decide)))
    have F165 : Fld Z T101.heap d1 "java/math/BigDecimal" "intCompact" "J" (.long (x2 + x)) := F164.keep K101 nin0
    have F166 : Fld Z h104 d1 "java/math/BigDecimal" "intCompact" "J" (.long (x2 + x)) := F165.other W104 (Or.inl (Exa.ne F159 F124 (by decide)))
    have F167 : Fld Z h115 d1 "java/math/BigDecimal" "intCompact" "J" (.long (x2 + x)) := F166.other W115 (Or.inl (Exa.ne F159 F124 (by decide)))
    have F168 : Exa Z h104 d2 "java/math/BigDecimal" := Q101_0.wr W104
    have F169 : Exa Z h115 d2 "java/math/BigDecimal" := F168.wr W115
    have F170 : Fld Z h104 d2 "java/math/BigDecimal" "scale" "I" (.int 2) := Q101_1.other W104 (Or.inl (Exa.ne F169 F124 (by decide)))
    have F171 : Fld Z h115 d2 "java/math/BigDecimal" "scale" "I" (.int 2) := F170.other W115 (Or.inl (Exa.ne F169 F124 (by decide)))
    have F172 : Fld Z h104 d2 "java/math/BigDecimal" "intCompact" "J" (.long (y2 + y)) := Q101_2.other W104 (Or.inl (Exa.ne F169 F124 (by decide)))
    have F173 : Fld Z h115 d2 "java/math/BigDecimal" "intCompact" "J" (.long (y2 + y)) := F172.other W115 (Or.inl (Exa.ne F169 F124 (by decide)))
    exact Go.retV X115 hx Bd.notSynchronized Bd.returns (hb hby d17_103) (by rw [e115]; exact ⟨d1, d2, (na + (1 : Int32)), (nb + (iv0.toInt64)), (nh + (1 : Int32)), nu, nl, rfl, N115, F123, F124, F127, F128, F134, F139, Fw115, F147, F155, F159, F163, F167, F169, F171, F173⟩) (by decide) (by decide)
  · refine Go.ifY 76 X104 hx (hb hby d17_60) (XT.i0_le_t hb105) (by decide) (by decide) ?_
    refine Go.iload1 77 X104 hx (hb hby d17_76) rfl rfl ?_
    by_cases hb174 : sg = 0
    · refine Go.ifN 80 X104 hx (hb hby d17_77) (XT.i0_ne_f hb174) rfl ?_
      refine Go.aload1 81 X104 hx (hb hby d17_80) rfl rfl rfl ?_
      refine Go.dup 82 X104 hx (hb hby d17_81) rfl rfl ?_
      have F175 : Fld Z T1.heap ci "com/example/diligent_tariff/diligenttariff/billing/ClassImpact" "unchanged" "I" (.int nu) := F_ci_unchanged.keep K1 nin0
      have F176 : Fld Z h7 ci "com/example/diligent_tariff/diligenttariff/billing/ClassImpact" "unchanged" "I" (.int nu) := F175.other W7 (Or.inr (slot_ne (Or.inl (ow hw 144 rfl)) (Or.inl (ow hw 129 rfl)) (by decide) (t := .int) (t' := .int) (by decide) (by decide)))
      have F177 : Fld Z h12 ci "com/example/diligent_tariff/diligenttariff/billing/ClassImpact" "unchanged" "I" (.int nu) := F176.other W12 (Or.inr (slot_ne (Or.inl (ow hw 144 rfl)) (Or.inl (ow hw 131 rfl)) (by decide) (t := .int) (t' := .long) (by decide) (by decide)))
      have F178 : Fld Z T48.heap ci "com/example/diligent_tariff/diligenttariff/billing/ClassImpact" "unchanged" "I" (.int nu) := F177.keep K48 nin0
      have F179 : Fld Z h51 ci "com/example/diligent_tariff/diligenttariff/billing/ClassImpact" "unchanged" "I" (.int nu) := F178.other W51 (Or.inr (slot_ne (Or.inl (ow hw 144 rfl)) (Or.inl (ow hw 61 rfl)) (by decide) (t := .int) (t' := (.object "java/math/BigDecimal")) (by decide) (by decide)))
      have F180 : Fld Z T101.heap ci "com/example/diligent_tariff/diligenttariff/billing/ClassImpact" "unchanged" "I" (.int nu) := F179.keep K101 nin0
      have F181 : Fld Z h104 ci "com/example/diligent_tariff/diligenttariff/billing/ClassImpact" "unchanged" "I" (.int nu) := F180.other W104 (Or.inr (slot_ne (Or.inl (ow hw 144 rfl)) (Or.inl (ow hw 63 rfl)) (by decide) (t := .int) (t' := (.object "java/math/BigDecimal")) (by decide) (by decide)))
      obtain ⟨T182, X182, e182, st182⟩ := getF X104 hx hZ hown (host := "") (Or.inl (ow hw 143 rfl)) Via.refl e104 F181 (g := (mkF m 82 #[rv ci, iv iv0, rv c0, iv sg] [(.ref ci), (.ref ci)])) rfl rfl (hb hby d17_82)
      refine Go.by st182 ?_
      show Go _ _ _ _ T182 (mkF m 85 #[rv ci, iv iv0, rv c0, iv sg] [(.int nu), (.ref ci)])
      refine Go.iconst 86 X182 hx (1 : Int32) (hb hby d17_85) (by decide) rfl ?_
      refine Go.iadd 87 X182 hx (hb hby d17_86) rfl ?_
      have F183 : Exa Z h104 ci "com/example/diligent_tariff/diligenttariff/billing/ClassImpact" := F103.wr W104
      obtain ⟨T184, h184, X184, e184, W184, st184⟩ := putF X182 hx hZ hown (host := "") (Or.inl (ow hw 143 rfl)) Via.refl e182 F181 F183 (Or.inl (ow hw 144 rfl)) (ow hw 34 rfl) (ty := .int) (by decide) rfl rfl (g := (mkF m 87 #[rv ci, iv iv0, rv c0, iv sg] [(.int (nu + (1 : Int32))), (.ref ci)])) rfl rfl (hb hby d17_87)
      have N184 := Fr.snoc X184 N104 g_ci
      have Fw184 : Fld Z h184 ci "com/example/diligent_tariff/diligenttariff/billing/ClassImpact" "unchanged" "I" (.int (nu + (1 : Int32))) := F181.same W184
      refine Go.by st184 ?_
      show Go _ _ _ _ T184 (mkF m 90 #[rv ci, iv iv0, rv c0, iv sg] [])
      refine Go.goto 103 X184 hx (hb hby d17_90) (by decide) (by decide) ?_
      have F185 : Keep h0 T1.heap [ci] := (Keep.refl h0 [ci]).trans K1 all0
      have F186 : Keep h0 h7 [ci] := F185.wr W7 (Or.inl (List.mem_of_getElem? (i := 0) rfl))
      have F187 : Keep h0 h12 [ci] := F186.wr W12 (Or.inl (List.mem_of_getElem? (i := 0) rfl))
      have F188 : Keep h0 T48.heap [ci] := F187.trans K48 all0
      have F189 : Keep h0 h51 [ci] := F188.wr W51 (Or.inl (List.mem_of_getElem? (i := 0) rfl))
      have F190 : Keep h0 T101.heap [ci] := F189.trans K101 all0
      have F191 : Keep h0 h104 [ci] := F190.wr W104 (Or.inl (List.mem_of_getElem? (i := 0) rfl))
      have F192 : Keep h0 h184 [ci] := F191.wr W184 (Or.inl (List.mem_of_getElem? (i := 0) rfl))
      have F193 : Exa Z h184 ci "com/example/diligent_tariff/diligenttariff/billing/ClassImpact" := F183.wr W184
      have F194 : Fld Z T101.heap ci "com/example/diligent_tariff/diligenttariff/billing/ClassImpact" "current" "Ljava/math/BigDecimal;" (.ref d1) := Fw51.keep K101 nin0
      have F195 : Fld Z h104 ci "com/example/diligent_tariff/diligenttariff/billing/ClassImpact" "current" "Ljava/math/BigDecimal;" (.ref d1) := F194.other W104 (Or.inr (slot_ne (Or.inl (ow hw 61 rfl)) (Or.inl (ow hw 63 rfl)) (by decide) (t := (.object "java/math/BigDecimal")) (t' := (.object "java/math/BigDecimal")) (by decide) (by decide)))
      have F196 : Fld Z h184 ci "com/example/diligent_tariff/diligenttariff/billing/ClassImpact" "current" "Ljava/math/BigDecimal;" (.ref d1) := F195.other W184 (Or.inr (slot_ne (Or.inl (ow hw 61 rfl)) (Or.inl (ow hw 144 rfl)) (by decide) (t := (.object "java/math/BigDecimal")) (t' := .int) (by decide) (by decide)))
      have F197 : Fld Z h184 ci "com/example/diligent_tariff/diligenttariff/billing/ClassImpact" "proposed" "Ljava/math/BigDecimal;" (.ref d2) := Fw104.other W184 (Or.inr (slot_ne (Or.inl (ow hw 63 rfl)) (Or.inl (ow hw 144 rfl)) (by decide) (t := (.object "java/math/BigDecimal")) (t' := .int) (by decide) (by decide)))
      have F198 : Fld Z h12 ci "com/example/diligent_tariff/diligenttariff/billing/ClassImpact" "accounts" "I" (.int (na + (1 : Int32))) := Fw7.other W12 (Or.inr (slot_ne (Or.inl (ow hw 129 rfl)) (Or.inl (ow hw 131 rfl)) (by decide) (t := .int) (t' := .long) (by decide) (by decide)))
      have F199 : Fld Z T48.heap ci "com/example/diligent_tariff/diligenttariff/billing/ClassImpact" "accounts" "I" (.int (na + (1 : Int32))) := F198.keep K48 nin0
      have F200 : Fld Z h51 ci "com/example/diligent_tariff/diligenttariff/billing/ClassImpact" "accounts" "I" (.int (na + (1 : Int32))) := F199.other W51 (Or.inr (slot_ne (Or.inl (ow hw 129 rfl)) (Or.inl (ow hw 61 rfl)) (by decide) (t := .int) (t' := (.object "java/math/BigDecimal")) (by decide) (by decide)))
      have F201 : Fld Z T101.heap ci "com/example/diligent_tariff/diligenttariff/billing/ClassImpact" "accounts" "I" (.int (na + (1 : Int32))) := F200.keep K101 nin0
      have F202 : Fld Z h104 ci "com/example/diligent_tariff/diligenttariff/billing/ClassImpact" "accounts" "I" (.int (na + (1 : Int32))) := F201.other W104 (Or.inr (slot_ne (Or.inl (ow hw 129 rfl)) (Or.inl (ow hw 63 rfl)) (by decide) (t := .int) (t' := (.object "java/math/BigDecimal")) (by decide) (by decide)))
      have F203 : Fld Z h184 ci "com/example/diligent_tariff/diligenttariff/billing/ClassImpact" "accounts" "I" (.int (na + (1 : Int32))) := F202.other W184 (Or.inr (slot_ne (Or.inl (ow hw 129 rfl)) (Or.inl (ow hw 144 rfl)) (by decide) (t := .int) (t' := .int) (by decide) (by decide)))
      have F204 : Fld Z T48.heap ci "com/example/diligent_tariff/diligenttariff/billing/ClassImpact" "bills" "J" (.long (nb + (iv0.toInt64))) := Fw12.keep K48 nin0
      have F205 : Fld Z h51 ci "com/example/diligent_tariff/diligenttariff/billing/ClassImpact" "bills" "J" (.long (nb + (iv0.toInt64))) := F204.other W51 (Or.inr (slot_ne (Or.inl (ow hw 131 rfl)) (Or.inl (ow hw 61 rfl)) (by decide) (t := .long) (t' := (.object "java/math/BigDecimal")) (by decide) (by decide)))
      have F206 : Fld Z T101.heap ci "com/example/diligent_tariff/diligenttariff/billing/ClassImpact" "bills" "J" (.long (nb + (iv0.toInt64))) := F205.keep K101 nin0
      have F207 : Fld Z h104 ci "com/example/diligent_tariff/diligenttariff/billing/ClassImpact" "bills" "J" (.long (nb + (iv0.toInt64))) := F206.other W104 (Or.inr (slot_ne (Or.inl (ow hw 131 rfl)) (Or.inl (ow hw 63 rfl)) (by decide) (t := .long) (t' := (.object "java/math/BigDecimal")) (by decide) (by decide)))
      have F208 : Fld Z h184 ci "com/example/diligent_tariff/diligenttariff/billing/ClassImpact" "bills" "J" (.long (nb + (iv0.toInt64))) := F207.other W184 (Or.inr (slot_ne (Or.inl (ow hw 131 rfl)) (Or.inl (ow hw 144 rfl)) (by decide) (t := .long) (t' := .int) (by decide) (by decide)))
      have F209 : Fld Z T1.heap ci "com/example/diligent_tariff/diligenttariff/billing/ClassImpact" "higher" "I" (.int nh) := F_ci_higher.keep K1 nin0
      have F210 : Fld Z h7 ci "com/example/diligent_tariff/diligenttariff/billing/ClassImpact" "higher" "I" (.int nh) := F209.other W7 (Or.inr (slot_ne (Or.inl (ow hw 140 rfl)) (Or.inl (ow hw 129 rfl)) (by decide) (t := .int) (t' := .int) (by decide) (by decide)))
      have F211 : Fld Z h12 ci "com/example/diligent_tariff/diligenttariff/billing/ClassImpact" "higher" "I" (.int nh) := F210.other W12 (Or.inr (slot_ne (Or.inl (ow hw 140 rfl)) (Or.inl (ow hw 131 rfl)) (by decide) (t := .int) (t' := .long) (by decide) (by decide)))
      have F212 : Fld Z T48.heap ci "com/example/diligent_tariff/diligenttariff/billing/ClassImpact" "higher" "I" (.int nh) := F211.keep K48 nin0
      have F213 : Fld Z h51 ci "com/example/diligent_tariff/diligenttariff/billing/ClassImpact" "higher" "I" (.int nh) := F212.other W51 (Or.inr (slot_ne (Or.inl (ow hw 140 rfl)) (Or.inl (ow hw 61 rfl)) (by decide) (t := .int) (t' := (.object "java/math/BigDecimal")) (by decide) (by decide)))
      have F214 : Fld Z T101.heap ci "com/example/diligent_tariff/diligenttariff/billing/ClassImpact" "higher" "I" (.int nh) := F213.keep K101 nin0
      have F215 : Fld Z h104 ci "com/example/diligent_tariff/diligenttariff/billing/ClassImpact" "higher" "I" (.int nh) := F214.other W104 (Or.inr (slot_ne (Or.inl (ow hw 140 rfl)) (Or.inl (ow hw 63 rfl)) (by decide) (t := .int) (t' := (.object "java/math/BigDecimal")) (by decide) (by decide)))
      have F216 : Fld Z h184 ci "com/example/diligent_tariff/diligenttariff/billing/ClassImpact" "higher" "I" (.int nh) := F215.other W184 (Or.inr (slot_ne (Or.inl (ow hw 140 rfl)) (Or.inl (ow hw 144 rfl)) (by decide) (t := .int) (t' := .int) (by decide) (by decide)))
      have F217 : Fld Z T1.heap ci "com/example/diligent_tariff/diligenttariff/billing/ClassImpact" "lower" "I" (.int nl) := F_ci_lower.keep K1 nin0
      have F218 : Fld Z h7 ci "com/example/diligent_tariff/diligenttariff/billing/ClassImpact" "lower" "I" (.int nl) := F217.other W7 (Or.inr (slot_ne (Or.inl (ow hw 142 rfl)) (Or.inl (ow hw 129 rfl)) (by decide) (t := .int) (t' := .int) (by decide) (by decide)))
      have F219 : Fld Z h12 ci "com/example/diligent_tariff/diligenttariff/billing/ClassImpact" "lower" "I" (.int nl) := F218.other W12 (Or.inr (slot_ne (Or.inl (ow hw 142 rfl)) (Or.inl (ow hw 131 rfl)) (by decide) (t := .int) (t' := .long) (by decide) (by decide)))
      have F220 : Fld Z T48.heap ci "com/example/diligent_tariff/diligenttariff/billing/ClassImpact" "lower" "I" (.int nl) := F219.keep K48 nin0
      have F221 : Fld Z h51 ci "com/example/diligent_tariff/diligenttariff/billing/ClassImpact" "lower" "I" (.int nl) := F220.other W51 (Or.inr (slot_ne (Or.inl (ow hw 142 rfl)) (Or.inl (ow hw 61 rfl)) (by decide) (t := .int) (t' := (.object "java/math/BigDecimal")) (by decide) (by decide)))
      have F222 : Fld Z T101.heap ci "com/example/diligent_tariff/diligenttariff/billing/ClassImpact" "lower" "I" (.int nl) := F221.keep K101 nin0
      have F223 : Fld Z h104 ci "com/example/diligent_tariff/diligenttariff/billing/ClassImpact" "lower" "I" (.int nl) := F222.other W104 (Or.inr (slot_ne (Or.inl (ow hw 142 rfl)) (Or.inl (ow hw 63 rfl)) (by decide) (t := .int) (t' := (.object "java/math/BigDecimal")) (by decide) (by decide)))
      have F224 : Fld Z h184 ci "com/example/diligent_tariff/diligenttariff/billing/ClassImpact" "lower" "I" (.int nl) := F223.other W184 (Or.inr (slot_ne (Or.inl (ow hw 142 rfl)) (Or.inl (ow hw 144 rfl)) (by decide) (t := .int) (t' := .int) (by decide) (by decide)))
      have F225 : Exa Z h51 d1 "java/math/BigDecimal" := Q48_0.wr W51
      have F226 : Exa Z T101.heap d1 "java/math/BigDecimal" := F225.keep K101
      have F227 : Exa Z h104 d1 "java/math/BigDecimal" := F226.wr W104
      have F228 : Exa Z h184 d1 "java/math/BigDecimal" := F227.wr W184
      have F229 : Fld Z h51 d1 "java/math/BigDecimal" "scale" "I" (.int 2) := Q48_1.other W51 (Or.inl (Exa.ne F228 F193 (by decide)))
      have F230 : Fld Z T101.heap d1 "java/math/BigDecimal" "scale" "I" (.int 2) := F229.keep K101 nin0
      have F231 : Fld Z h104 d1 "java/math/BigDecimal" "scale" "I" (.int 2) := F230.other W104 (Or.inl (Exa.ne F228 F193 (by decide)))
      have F232 : Fld Z h184 d1 "java/math/BigDecimal" "scale" "I" (.int 2) := F231.other W184 (Or.inl (Exa.ne F228 F193 (by decide)))
      have F233 : Fld Z h51 d1 "java/math/BigDecimal" "intCompact" "J" (.long (x2 + x)) := Q48_2.other W51 (Or.inl (Exa.ne F228 F193 (by decide)))
      have F234 : Fld Z T101.heap d1 "java/math/BigDecimal" "intCompact" "J" (.long (x2 + x)) := F233.keep K101 nin0
      have F235 : Fld Z h104 d1 "java/math/BigDecimal" "intCompact" "J" (.long (x2 + x)) := F234.other W104 (Or.inl (Exa.ne F228 F193 (by decide)))
      have F236 : Fld Z h184 d1 "java/math/BigDecimal" "intCompact" "J" (.long (x2 + x)) := F235.other W184 (Or.inl (Exa.ne F228 F193 (by decide)))
      have F237 : Exa Z h104 d2 "java/math/BigDecimal" := Q101_0.wr W104
      have F238 : Exa Z h184 d2 "java/math/BigDecimal" := F237.wr W184
      have F239 : Fld Z h104 d2 "java/math/BigDecimal" "scale" "I" (.int 2) := Q101_1.other W104 (Or.inl (Exa.ne F238 F193 (by decide)))
      have F240 : Fld Z h184 d2 "java/math/BigDecimal" "scale" "I" (.int 2) := F239.other W184 (Or.inl (Exa.ne F238 F193 (by decide)))
      have F241 : Fld Z h104 d2 "java/math/BigDecimal" "intCompact" "J" (.long (y2 + y)) := Q101_2.other W104 (Or.inl (Exa.ne F238 F193 (by decide)))
      have F242 : Fld Z h184 d2 "java/math/BigDecimal" "intCompact" "J" (.long (y2 + y)) := F241.other W184 (Or.inl (Exa.ne F238 F193 (by decide)))
      exact Go.retV X184 hx Bd.notSynchronized Bd.returns (hb hby d17_103) (by rw [e184]; exact ⟨d1, d2, (na + (1 : Int32)), (nb + (iv0.toInt64)), nh, (nu + (1 : Int32)), nl, rfl, N184, F192, F193, F196, F197, F203, F208, F216, Fw184, F224, F228, F232, F236, F238, F240, F242⟩) (by decide) (by decide)
    · refine Go.ifY 93 X104 hx (hb hby d17_77) (XT.i0_ne_t hb174) (by decide) (by decide) ?_
      refine Go.aload1 94 X104 hx (hb hby d17_93) rfl rfl rfl ?_
      refine Go.dup 95 X104 hx (hb hby d17_94) rfl rfl ?_
      have F243 : Fld Z T1.heap ci "com/example/diligent_tariff/diligenttariff/billing/ClassImpact" "lower" "I" (.int nl) := F_ci_lower.keep K1 nin0
      have F244 : Fld Z h7 ci "com/example/diligent_tariff/diligenttariff/billing/ClassImpact" "lower" "I" (.int nl) := F243.other W7 (Or.inr (slot_ne (Or.inl (ow hw 142 rfl)) (Or.inl (ow hw 129 rfl)) (by decide) (t := .int) (t' := .int) (by decide) (by decide)))
      have F245 : Fld Z h12 ci "com/example/diligent_tariff/diligenttariff/billing/ClassImpact" "lower" "I" (.int nl) := F244.other W12 (Or.inr (slot_ne (Or.inl (ow hw 142 rfl)) (Or.inl (ow hw 131 rfl)) (by decide) (t := .int) (t' := .long) (by decide) (by decide)))
      have F246 : Fld Z T48.heap ci "com/example/diligent_tariff/diligenttariff/billing/ClassImpact" "lower" "I" (.int nl) := F245.keep K48 nin0
      have F247 : Fld Z h51 ci "com/example/diligent_tariff/diligenttariff/billing/ClassImpact" "lower" "I" (.int nl) := F246.other W51 (Or.inr (slot_ne (Or.inl (ow hw 142 rfl)) (Or.inl (ow hw 61 rfl)) (by decide) (t := .int) (t' := (.object "java/math/BigDecimal")) (by decide) (by decide)))
      have F248 : Fld Z T101.heap ci "com/example/diligent_tariff/diligenttariff/billing/ClassImpact" "lower" "I" (.int nl) := F247.keep K101 nin0
      have F249 : Fld Z h104 ci "com/example/diligent_tariff/diligenttariff/billing/ClassImpact" "lower" "I" (.int nl) := F248.other W104 (Or.inr (slot_ne (Or.inl (ow hw 142 rfl)) (Or.inl (ow hw 63 rfl)) (by decide) (t := .int) (t' := (.object "java/math/BigDecimal")) (by decide) (by decide)))
      obtain ⟨T250, X250, e250, st250⟩ := getF X104 hx hZ hown (host := "") (Or.inl (ow hw 141 rfl)) Via.refl e104 F249 (g := (mkF m 95 #[rv ci, iv iv0, rv c0, iv sg] [(.ref ci), (.ref ci)])) rfl rfl (hb hby d17_95)
      refine Go.by st250 ?_
      show Go _ _ _ _ T250 (mkF m 98 #[rv ci, iv iv0, rv c0, iv sg] [(.int nl), (.ref ci)])
      refine Go.iconst 99 X250 hx (1 : Int32) (hb hby d17_98) (by decide) rfl ?_
      refine Go.iadd 100 X250 hx (hb hby d17_99) rfl ?_
      have F251 : Exa Z h104 ci "com/example/diligent_tariff/diligenttariff/billing/ClassImpact" := F103.wr W104
      obtain ⟨T252, h252, X252, e252, W252, st252⟩ := putF X250 hx hZ hown (host := "") (Or.inl (ow hw 141 rfl)) Via.refl e250 F249 F251 (Or.inl (ow hw 142 rfl)) (ow hw 34 rfl) (ty := .int) (by decide) rfl rfl (g := (mkF m 100 #[rv ci, iv iv0, rv c0, iv sg] [(.int (nl + (1 : Int32))), (.ref ci)])) rfl rfl (hb hby d17_100)
      have N252 := Fr.snoc X252 N104 g_ci
      have Fw252 : Fld Z h252 ci "com/example/diligent_tariff/diligenttariff/billing/ClassImpact" "lower" "I" (.int (nl + (1 : Int32))) := F249.same W252
      refine Go.by st252 ?_
      show Go _ _ _ _ T252 (mkF m 103 #[rv ci, iv iv0, rv c0, iv sg] [])
      have F253 : Keep h0 T1.heap [ci] := (Keep.refl h0 [ci]).trans K1 all0
      have F254 : Keep h0 h7 [ci] := F253.wr W7 (Or.inl (List.mem_of_getElem? (i := 0) rfl))
      have F255 : Keep h0 h12 [ci] := F254.wr W12 (Or.inl (List.mem_of_getElem? (i := 0) rfl))
      have F256 : Keep h0 T48.heap [ci] := F255.trans K48 all0
      have F257 : Keep h0 h51 [ci] := F256.wr W51 (Or.inl (List.mem_of_getElem? (i := 0) rfl))
      have F258 : Keep h0 T101.heap [ci] := F257.trans K101 all0
      have F259 : Keep h0 h104 [ci] := F258.wr W104 (Or.inl (List.mem_of_getElem? (i := 0) rfl))
      have F260 : Keep h0 h252 [ci] := F259.wr W252 (Or.inl (List.mem_of_getElem? (i := 0) rfl))
      have F261 : Exa Z h252 ci "com/example/diligent_tariff/diligenttariff/billing/ClassImpact" := F251.wr W252
      have F262 : Fld Z T101.heap ci "com/example/diligent_tariff/diligenttariff/billing/ClassImpact" "current" "Ljava/math/BigDecimal;" (.ref d1) := Fw51.keep K101 nin0
      have F263 : Fld Z h104 ci "com/example/diligent_tariff/diligenttariff/billing/ClassImpact" "current" "Ljava/math/BigDecimal;" (.ref d1) := F262.other W104 (Or.inr (slot_ne (Or.inl (ow hw 61 rfl)) (Or.inl (ow hw 63 rfl)) (by decide) (t := (.object "java/math/BigDecimal")) (t' := (.object "java/math/BigDecimal")) (by decide) (by decide)))
      have F264 : Fld Z h252 ci "com/example/diligent_tariff/diligenttariff/billing/ClassImpact" "current" "Ljava/math/BigDecimal;" (.ref d1) := F263.other W252 (Or.inr (slot_ne (Or.inl (ow hw 61 rfl)) (Or.inl (ow hw 142 rfl)) (by decide) (t := (.object "java/math/BigDecimal")) (t' := .int) (by decide) (by decide)))
      have F265 : Fld Z h252 ci "com/example/diligent_tariff/diligenttariff/billing/ClassImpact" "proposed" "Ljava/math/BigDecimal;" (.ref d2) := Fw104.other W252 (Or.inr (slot_ne (Or.inl (ow hw 63 rfl)) (Or.inl (ow hw 142 rfl)) (by decide) (t := (.object "java/math/BigDecimal")) (t' := .int) (by decide) (by decide)))
      have F266 : Fld Z h12 ci "com/example/diligent_tariff/diligenttariff/billing/ClassImpact" "accounts" "I" (.int (na + (1 : Int32))) := Fw7.other W12 (Or.inr (slot_ne (Or.inl (ow hw 129 rfl)) (Or.inl (ow hw 131 rfl)) (by decide) (t := .int) (t' := .long) (by decide) (by decide)))
      have F267 : Fld Z T48.heap ci "com/example/diligent_tariff/diligenttariff/billing/ClassImpact" "accounts" "I" (.int (na + (1 : Int32))) := F266.keep K48 nin0
      have F268 : Fld Z h51 ci "com/example/diligent_tariff/diligenttariff/billing/ClassImpact" "accounts" "I" (.int (na + (1 : Int32))) := F267.other W51 (Or.inr (slot_ne (Or.inl (ow hw 129 rfl)) (Or.inl (ow hw 61 rfl)) (by decide) (t := .int) (t' := (.object "java/math/BigDecimal")) (by decide) (by decide)))
      have F269 : Fld Z T101.heap ci "com/example/diligent_tariff/diligenttariff/billing/ClassImpact" "accounts" "I" (.int (na + (1 : Int32))) := F268.keep K101 nin0
      have F270 : Fld Z h104 ci "com/example/diligent_tariff/diligenttariff/billing/ClassImpact" "accounts" "I" (.int (na + (1 : Int32))) := F269.other W104 (Or.inr (slot_ne (Or.inl (ow hw 129 rfl)) (Or.inl (ow hw 63 rfl)) (by decide) (t := .int) (t' := (.object "java/math/BigDecimal")) (by decide) (by decide)))
      have F271 : Fld Z h252 ci "com/example/diligent_tariff/diligenttariff/billing/ClassImpact" "accounts" "I" (.int (na + (1 : Int32))) := F270.other W252 (Or.inr (slot_ne (Or.inl (ow hw 129 rfl)) (Or.inl (ow hw 142 rfl)) (by decide) (t := .int) (t' := .int) (by decide) (by decide)))
      have F272 : Fld Z T48.heap ci "com/example/diligent_tariff/diligenttariff/billing/ClassImpact" "bills" "J" (.long (nb + (iv0.toInt64))) := Fw12.keep K48 nin0
      have F273 : Fld Z h51 ci "com/example/diligent_tariff/diligenttariff/billing/ClassImpact" "bills" "J" (.long (nb + (iv0.toInt64))) := F272.other W51 (Or.inr (slot_ne (Or.inl (ow hw 131 rfl)) (Or.inl (ow hw 61 rfl)) (by decide) (t := .long) (t' := (.object "java/math/BigDecimal")) (by decide) (by decide)))
      have F274 : Fld Z T101.heap ci "com/example/diligent_tariff/diligenttariff/billing/ClassImpact" "bills" "J" (.long (nb + (iv0.toInt64))) := F273.keep K101 nin0
      have F275 : Fld Z h104 ci "com/example/diligent_tariff/diligenttariff/billing/ClassImpact" "bills" "J" (.long (nb + (iv0.toInt64))) := F274.other W104 (Or.inr (slot_ne (Or.inl (ow hw 131 rfl)) (Or.inl (ow hw 63 rfl)) (by decide) (t := .long) (t' := (.object "java/math/BigDecimal")) (by decide) (by decide)))
      have F276 : Fld Z h252 ci "com/example/diligent_tariff/diligenttariff/billing/ClassImpact" "bills" "J" (.long (nb + (iv0.toInt64))) := F275.other W252 (Or.inr (slot_ne (Or.inl (ow hw 131 rfl)) (Or.inl (ow hw 142 rfl)) (by decide) (t := .long) (t' := .int) (by decide) (by decide)))
      have F277 : Fld Z T1.heap ci "com/example/diligent_tariff/diligenttariff/billing/ClassImpact" "higher" "I" (.int nh) := F_ci_higher.keep K1 nin0
      have F278 : Fld Z h7 ci "com/example/diligent_tariff/diligenttariff/billing/ClassImpact" "higher" "I" (.int nh) := F277.other W7 (Or.inr (slot_ne (Or.inl (ow hw 140 rfl)) (Or.inl (ow hw 129 rfl)) (by decide) (t := .int) (t' := .int) (by decide) (by decide)))
      have F279 : Fld Z h12 ci "com/example/diligent_tariff/diligenttariff/billing/ClassImpact" "higher" "I" (.int nh) := F278.other W12 (Or.inr (slot_ne (Or.inl (ow hw 140 rfl)) (Or.inl (ow hw 131 rfl)) (by decide) (t := .int) (t' := .long) (by decide) (by decide)))
      have F280 : Fld Z T48.heap ci "com/example/diligent_tariff/diligenttariff/billing/ClassImpact" "higher" "I" (.int nh) := F279.keep K48 nin0
      have F281 : Fld Z h51 ci "com/example/diligent_tariff/diligenttariff/billing/ClassImpact" "higher" "I" (.int nh) := F280.other W51 (Or.inr (slot_ne (Or.inl (ow hw 140 rfl)) (Or.inl (ow hw 61 rfl)) (by decide) (t := .int) (t' := (.object "java/math/BigDecimal")) (by decide) (by decide)))
      have F282 : Fld Z T101.heap ci "com/example/diligent_tariff/diligenttariff/billing/ClassImpact" "higher" "I" (.int nh) := F281.keep K101 nin0
      have F283 : Fld Z h104 ci "com/example/diligent_tariff/diligenttariff/billing/ClassImpact" "higher" "I" (.int nh) := F282.other W104 (Or.inr (slot_ne (Or.inl (ow hw 140 rfl)) (Or.inl (ow hw 63 rfl)) (by decide) (t := .int) (t' := (.object "java/math/BigDecimal")) (by decide) (by decide)))
      have F284 : Fld Z h252 ci "com/example/diligent_tariff/diligenttariff/billing/ClassImpact" "higher" "I" (.int nh) := F283.other W252 (Or.inr (slot_ne (Or.inl (ow hw 140 rfl)) (Or.inl (ow hw 142 rfl)) (by decide) (t := .int) (t' := .int) (by decide) (by decide)))
      have F285 : Fld Z T1.heap ci "com/example/diligent_tariff/diligenttariff/billing/ClassImpact" "unchanged" "I" (.int nu) := F_ci_unchanged.keep K1 nin0
      have F286 : Fld Z h7 ci "com/example/diligent_tariff/diligenttariff/billing/ClassImpact" "unchanged" "I" (.int nu) := F285.other W7 (Or.inr (slot_ne (Or.inl (ow hw 144 rfl)) (Or.inl (ow hw 129 rfl)) (by decide) (t := .int) (t' := .int) (by decide) (by decide)))
      have F287 : Fld Z h12 ci "com/example/diligent_tariff/diligenttariff/billing/ClassImpact" "unchanged" "I" (.int nu) := F286.other W12 (Or.inr (slot_ne (Or.inl (ow hw 144 rfl)) (Or.inl (ow hw 131 rfl)) (by decide) (t := .int) (t' := .long) (by decide) (by decide)))
      have F288 : Fld Z T48.heap ci "com/example/diligent_tariff/diligenttariff/billing/ClassImpact" "unchanged" "I" (.int nu) := F287.keep K48 nin0
      have F289 : Fld Z h51 ci "com/example/diligent_tariff/diligenttariff/billing/ClassImpact" "unchanged" "I" (.int nu) := F288.other W51 (Or.inr (slot_ne (Or.inl (ow hw 144 rfl)) (Or.inl (ow hw 61 rfl)) (by decide) (t := .int) (t' := (.object "java/math/BigDecimal")) (by decide) (by decide)))
      have F290 : Fld Z T101.heap ci "com/example/diligent_tariff/diligenttariff/billing/ClassImpact" "unchanged" "I" (.int nu) := F289.keep K101 nin0
      have F291 : Fld Z h104 ci "com/example/diligent_tariff/diligenttariff/billing/ClassImpact" "unchanged" "I" (.int nu) := F290.other W104 (Or.inr (slot_ne (Or.inl (ow hw 144 rfl)) (Or.inl (ow hw 63 rfl)) (by decide) (t := .int) (t' := (.object "java/math/BigDecimal")) (by decide) (by decide)))
      have F292 : Fld Z h252 ci "com/example/diligent_tariff/diligenttariff/billing/ClassImpact" "unchanged" "I" (.int nu) := F291.other W252 (Or.inr (slot_ne (Or.inl (ow hw 144 rfl)) (Or.inl (ow hw 142 rfl)) (by decide) (t := .int) (t' := .int) (by decide) (by decide)))
      have F293 : Exa Z h51 d1 "java/math/BigDecimal" := Q48_0.wr W51
      have F294 : Exa Z T101.heap d1 "java/math/BigDecimal" := F293.keep K101
      have F295 : Exa Z h104 d1 "java/math/BigDecimal" := F294.wr W104
      have F296 : Exa Z h252 d1 "java/math/BigDecimal" := F295.wr W252
      have F297 : Fld Z h51 d1 "java/math/BigDecimal" "scale" "I" (.int 2) := Q48_1.other W51 (Or.inl (Exa.ne F296 F261 (by decide)))
      have F298 : Fld Z T101.heap d1 "java/math/BigDecimal" "scale" "I" (.int 2) := F297.keep K101 nin0
      have F299 : Fld Z h104 d1 "java/math/BigDecimal" "scale" "I" (.int 2) := F298.other W104 (Or.inl (Exa.ne F296 F261 (by decide)))
      have F300 : Fld Z h252 d1 "java/math/BigDecimal" "scale" "I" (.int 2) := F299.other W252 (Or.inl (Exa.ne F296 F261 (by decide)))
      have F301 : Fld Z h51 d1 "java/math/BigDecimal" "intCompact" "J" (.long (x2 + x)) := Q48_2.other W51 (Or.inl (Exa.ne F296 F261 (by decide)))
      have F302 : Fld Z T101.heap d1 "java/math/BigDecimal" "intCompact" "J" (.long (x2 + x)) := F301.keep K101 nin0
      have F303 : Fld Z h104 d1 "java/math/BigDecimal" "intCompact" "J" (.long (x2 + x)) := F302.other W104 (Or.inl (Exa.ne F296 F261 (by decide)))
      have F304 : Fld Z h252 d1 "java/math/BigDecimal" "intCompact" "J" (.long (x2 + x)) := F303.other W252 (Or.inl (Exa.ne F296 F261 (by decide)))
      have F305 : Exa Z h104 d2 "java/math/BigDecimal" := Q101_0.wr W104
      have F306 : Exa Z h252 d2 "java/math/BigDecimal" := F305.wr W252
      have F307 : Fld Z h104 d2 "java/math/BigDecimal" "scale" "I" (.int 2) := Q101_1.other W104 (Or.inl (Exa.ne F306 F261 (by decide)))
      have F308 : Fld Z h252 d2 "java/math/BigDecimal" "scale" "I" (.int 2) := F307.other W252 (Or.inl (Exa.ne F306 F261 (by decide)))
      have F309 : Fld Z h104 d2 "java/math/BigDecimal" "intCompact" "J" (.long (y2 + y)) := Q101_2.other W104 (Or.inl (Exa.ne F306 F261 (by decide)))
      have F310 : Fld Z h252 d2 "java/math/BigDecimal" "intCompact" "J" (.long (y2 + y)) := F309.other W252 (Or.inl (Exa.ne F306 F261 (by decide)))
      exact Go.retV X252 hx Bd.notSynchronized Bd.returns (hb hby d17_103) (by rw [e252]; exact ⟨d1, d2, (na + (1 : Int32)), (nb + (iv0.toInt64)), nh, nu, (nl + (1 : Int32)), rfl, N252, F260, F261, F264, F265, F271, F276, F284, F292, Fw252, F296, F300, F304, F306, F308, F310⟩) (by decide) (by decide)
theorem d11_0 : decode prog_4_method_5_code 0 = .ok (.new 26, 3) := by decide +kernel
theorem d11_3 : decode prog_4_method_5_code 3 = .ok (.dup, 1) := by decide +kernel
theorem d11_4 : decode prog_4_method_5_code 4 = .ok (.aload_n 0, 1) := by decide +kernel
theorem d11_5 : decode prog_4_method_5_code 5 = .ok (.getfield 17, 3) := by decide +kernel
theorem d11_8 : decode prog_4_method_5_code 8 = .ok (.aload_n 0, 1) := by decide +kernel
theorem d11_9 : decode prog_4_method_5_code 9 = .ok (.getfield 22, 3) := by decide +kernel
theorem pd_352 : parseMethodDescriptor "(Ljava/math/BigDecimal;Ljava/math/BigDecimal;)V" = some ⟨[(.object "java/math/BigDecimal"), (.object "java/math/BigDecimal")], none⟩ := by decide +kernel
theorem d11_12 : decode prog_4_method_5_code 12 = .ok (.invokespecial 62, 3) := by decide +kernel
theorem d11_15 : decode prog_4_method_5_code 15 = .ok (.areturn, 1) := by decide +kernel
def Q_rmCiGet (Z : State) (ci : Addr) (a : Addr) (a2 : Addr) (h0 : Heap) (n0 : Nat) (v : Option Value) (h : Heap) (L : List Loc) : Prop := ∃ c0 : Addr, v = some (.ref c0) ∧ Fr n0 L ∧ Keep h0 h [] ∧ Exa Z h c0 "com/example/diligent_tariff/diligenttariff/billing/Comparison" ∧ Fld Z h c0 "com/example/diligent_tariff/diligenttariff/billing/Comparison" "current" "Ljava/math/BigDecimal;" (.ref a) ∧ Fld Z h c0 "com/example/diligent_tariff/diligenttariff/billing/Comparison" "proposed" "Ljava/math/BigDecimal;" (.ref a2)
set_option maxRecDepth 65536 in
set_option maxHeartbeats 40000000 in
theorem rmCiGet (l : Launch) (Z : State) (a0 : Array Value) (hw : ∀ d ∈ tables_1, d.before a0 Z = true) (ws : List Jvm.Cond) (ci : Addr) (a : Addr) (a2 : Addr) (h0 : Heap) (n0 : Nat) (Z0 : n0 ≤ h0.size) (F_ci_current : Fld Z h0 ci "com/example/diligent_tariff/diligenttariff/billing/ClassImpact" "current" "Ljava/math/BigDecimal;" (.ref a)) (F_ci_proposed : Fld Z h0 ci "com/example/diligent_tariff/diligenttariff/billing/ClassImpact" "proposed" "Ljava/math/BigDecimal;" (.ref a2)) (E_a : Exa Z h0 a "java/math/BigDecimal") (E_a2 : Exa Z h0 a2 "java/math/BigDecimal") :
    MetFree l (⟨"com/example/diligent_tariff/diligenttariff/billing/ClassImpact", "getComparison", "()Lcom/example/diligent_tariff/diligenttariff/billing/Comparison;"⟩ : MethodName) (head1 (Jvm.Cond.code (⟨"com/example/diligent_tariff/diligenttariff/billing/ClassImpact", "getComparison", "()Lcom/example/diligent_tariff/diligenttariff/billing/Comparison;"⟩ : MethodName) prog_4_method_5_code 1 (some (.object "com/example/diligent_tariff/diligenttariff/billing/Comparison")) :: ws) ({ frames := 2, cells := 1, slots := 2, locals := 28 } : Room)) (fun as' U => as' = #[(.ref ci)] ∧ Z.Warmed39 U.vm ∧ U.heap = h0) (fun _ _ _ _ _ => True) (fun _ U o U' => ∃ v L, o = .returned v ∧ Q_rmCiGet Z ci a a2 h0 n0 v U'.heap L ∧ FrameEnd U o U' L ({ frames := 2, cells := 1, slots := 2, locals := 28 } : Room).cells ({ frames := 2, cells := 1, slots := 2, locals := 28 } : Room).slots) := by
  refine MetFree.of_bodySF (plainFor_of_name pn_274) hisR ?_
  intro p e s m args below meth c s₁ Bd hml0 hP hK
  obtain ⟨rfl, hZ, hh⟩ := hP
  have hx := Bd.exec
  have hby := Bd.bytes
  have hml : c.maxLocals = 1 := hml0
  have hown : s.vm.findClass "com/example/diligent_tariff/diligenttariff/billing/ClassImpact" = some m.cls := findClass_of_methodNamed Bd.named
  have hnm := (name_of_methodNamed Bd.named Bd.method).1
  have X0 : Stand p l e ({ frames := 2, cells := 1, slots := 2, locals := 28 } : Room) s m #[(.ref ci)] below meth c s₁ [] 0 0 := Stand.of_body Bd
  have e0 : s₁.heap = h0 := by rw [← hh, Bd.state]; rfl
  have N0 := Fr.nil n0
  refine Go.enter (F := EndN s (Q_rmCiGet Z ci a a2 h0 n0) ({ frames := 2, cells := 1, slots := 2, locals := 28 } : Room).cells ({ frames := 2, cells := 1, slots := 2, locals := 28 } : Room).slots) (ef_3 m ci) ?_
  show Go _ _ _ _ s₁ (mkF m 0 #[rv ci] [])
  obtain ⟨c0, g1⟩ : ∃ z, z = h0.size := ⟨_, rfl⟩
  have ge_c0 : n0 ≤ c0 := Nat.le_trans Z0 (Nat.le_of_eq g1.symm)
  have sz_c0 : h0.size ≤ c0 := Nat.le_trans (Keep.refl h0 []).1 (Nat.le_of_eq g1.symm)
  have ne_a_c0 : a ≠ c0 := Nat.ne_of_lt (Nat.lt_of_lt_of_le E_a.lt (Nat.le_of_eq g1.symm))
  have ne_a2_c0 : a2 ≠ c0 := Nat.ne_of_lt (Nat.lt_of_lt_of_le E_a2.lt (Nat.le_of_eq g1.symm))
  have ne_ci_c0 : ci ≠ c0 := Nat.ne_of_lt (Nat.lt_of_lt_of_le F_ci_current.lt (Nat.le_of_eq g1.symm))
  obtain ⟨T1, h1, X1, e1, E1, A1, D1, -, st1⟩ := newO X0 hx hZ hown (ow hw 69 rfl) (ow hw 70 rfl) (ow hw 71 rfl) e0 (g := (mkF m 0 #[rv ci] [])) rfl (hb hby d11_0) (by decide) (by decide)
  rw [← g1] at A1 D1 st1
  have F_current_c0 : Fld Z h1 c0 "com/example/diligent_tariff/diligenttariff/billing/Comparison" "current" "Ljava/math/BigDecimal;" .null := D1 (Or.inr (ow hw 82 rfl)) (ty := (.object "java/math/BigDecimal")) (by decide)
  have F_proposed_c0 : Fld Z h1 c0 "com/example/diligent_tariff/diligenttariff/billing/Comparison" "proposed" "Ljava/math/BigDecimal;" .null := D1 (Or.inr (ow hw 84 rfl)) (ty := (.object "java/math/BigDecimal")) (by decide)
  refine Go.by st1 ?_
  show Go _ _ _ _ T1 (mkF m 3 #[rv ci] [(.ref c0)])
  refine Go.dup 4 X1 hx (hb hby d11_3) rfl rfl ?_
  refine Go.aload1 5 X1 hx (hb hby d11_4) rfl rfl rfl ?_
  have F2 : Fld Z h1 ci "com/example/diligent_tariff/diligenttariff/billing/ClassImpact" "current" "Ljava/math/BigDecimal;" (.ref a) := F_ci_current.ext E1
  obtain ⟨T3, X3, e3, st3⟩ := getF X1 hx hZ hown (host := "") (Or.inl (ow hw 60 rfl)) Via.refl e1 F2 (g := (mkF m 5 #[rv ci] [(.ref ci), (.ref c0), (.ref c0)])) rfl rfl (hb hby d11_5)
  refine Go.by st3 ?_
  show Go _ _ _ _ T3 (mkF m 8 #[rv ci] [(.ref a), (.ref c0), (.ref c0)])
  refine Go.aload1 9 X3 hx (hb hby d11_8) rfl rfl rfl ?_
  have F4 : Fld Z h1 ci "com/example/diligent_tariff/diligenttariff/billing/ClassImpact" "proposed" "Ljava/math/BigDecimal;" (.ref a2) := F_ci_proposed.ext E1
  obtain ⟨T5, X5, e5, st5⟩ := getF X3 hx hZ hown (host := "") (Or.inl (ow hw 62 rfl)) Via.refl e3 F4 (g := (mkF m 9 #[rv ci] [(.ref ci), (.ref a), (.ref c0), (.ref c0)])) rfl rfl (hb hby d11_9)
  refine Go.by st5 ?_
  show Go _ _ _ _ T5 (mkF m 12 #[rv ci] [(.ref a2), (.ref a), (.ref c0), (.ref c0)])
  have F6 : Exa Z h1 a "java/math/BigDecimal" := E_a.ext E1
  have F7 : Exa Z h1 a2 "java/math/BigDecimal" := E_a2.ext E1
  have F8 : n0 ≤ h1.size := Nat.le_trans Z0 E1.1
  obtain ⟨_, _, ⟨T9, L9, k9, n9⟩, -, X9, ⟨Lc9, hQ9, l9, y9, z9⟩, st9⟩ := X5.specialBack hx (y := (⟨"com/example/diligent_tariff/diligenttariff/billing/Comparison", "<init>", "(Ljava/math/BigDecimal;Ljava/math/BigDecimal;)V"⟩ : MethodName)) rfl hown (mvT hZ (ow hw 72 rfl)) (mvT hZ (ow hw 73 rfl)) (mvT hZ (ow hw 74 rfl)) (by decide) (backOf (W := 1) (rmCo l Z a0 hw [] c0 a a2 h1 n0 F8 A1 F_current_c0 F_proposed_c0 ge_c0 F6 F7) hZ (ow hw 74 rfl) (ow hw 71 rfl) (by decide) (by decide)) (g := (mkF m 12 #[rv ci] [(.ref a2), (.ref a), (.ref c0), (.ref c0)])) rfl (by rw [hml]; rfl) (Steps.refl _) (a := c0) (argsL := [(.ref a), (.ref a2)]) (rest := [(.ref c0)]) (lenOf pd_352 rfl) rfl (by show 2 * 0 + _ ≤ _; exact Nat.le_of_eq rfl) (hb hby d11_12) (fun _ _ => ⟨rfl, e5, (by decide : 1 + 0 ≤ _), (by decide : 2 + 0 ≤ _)⟩)
  dsimp only [Pt.U, Pt.locs, Pt.cells, Pt.slots] at X9 l9 y9 z9 st9 hQ9
  subst l9 y9 z9
  obtain ⟨rfl, N9q, K9, Q9_0, Q9_1, Q9_2⟩ := hQ9
  have N9 := Fr.app N0 N9q
  refine Go.to st9 ?_
  show Go _ _ _ _ T9 (mkF m 15 #[rv ci] [(.ref c0)])
  have F10 : Keep h0 h1 [] := (Keep.refl h0 []).ext E1
  have F11 : Keep h0 T9.heap [] := F10.trans K9 (allS (Or.inr sz_c0) all0)
  exact Go.retA X9 hx Bd.notSynchronized Bd.returns rfl rfl (hb hby d11_15) ⟨c0, rfl, N9, F11, Q9_0, Q9_1, Q9_2⟩ (by decide) (by decide)
theorem own_n3 {x k : Int32} (h : k = (x &&& 2147483647) - (x &&& 2147483647) / 3 * 3) : k = 0 ∨ k = 1 ∨ k = 2 := by
  obtain ⟨j, hj, rfl⟩ := own_rem 3 (own_masked x) (d := 3) rfl (by decide) h
  rcases (by omega : j = 0 ∨ j = 1 ∨ j = 2) with rfl | rfl | rfl <;> simp
theorem pn_355 : plainName "com/example/diligent_tariff/diligenttariff/billing/ClassImpactGetComparisonPinLaw" = true := by first | (simp [plainName, overriddenIn]; done) | decide +kernel
theorem ef_356 (m : MethodId) (x0 : Int32) (x1 : Int32) (x2 : Int32) (x3 : Int32) (x4 : Int32) : entryFrame m #[(.int x0), (.int x1), (.int x2), (.int x3), (.int x4)] 16 = mkF m 0 #[iv x0, iv x1, iv x2, iv x3, iv x4, un, un, un, un, un, un, un, un, un, un, un] [] := by (first | (simp [entryFrame, mkF, argsToLocals, Value.category]; done) | rfl)
theorem pd_357 : parseMethodDescriptor "()Lcom/example/diligent_tariff/diligenttariff/billing/Comparison;" = some ⟨[], some (.object "com/example/diligent_tariff/diligenttariff/billing/Comparison")⟩ := by decide +kernel
theorem pd_358 : parseMethodDescriptor "(Ljava/lang/Object;)Z" = some ⟨[(.object "java/lang/Object")], some .boolean⟩ := by decide +kernel
theorem pd_359 : parseMethodDescriptor "(ILcom/example/diligent_tariff/diligenttariff/billing/Comparison;)V" = some ⟨[.int, (.object "com/example/diligent_tariff/diligenttariff/billing/Comparison")], none⟩ := by decide +kernel
def Q_rm0 (Z : State) (p0 : Int32) (p1 : Int32) (p2 : Int32) (p3 : Int32) (p4 : Int32) (ze0 : Addr) (ze1 : Addr) (ze2 : Addr) (ze3 : Addr) (ze4 : Addr) (ze5 : Addr) (ze6 : Addr) (ze7 : Addr) (ze8 : Addr) (ze9 : Addr) (ze10 : Addr) (ze11 : Addr) (ze12 : Addr) (ze13 : Addr) (ze14 : Addr) (ze15 : Addr) (za : Addr) (kz : ClassId) (h0 : Heap) (n0 : Nat) (v : Option Value) (h : Heap) (L : List Loc) : Prop := v = some (.int 1) ∧ Fr n0 L
set_option maxRecDepth 65536 in
set_option maxHeartbeats 40000000 in
theorem rm0 (l : Launch) (Z : State) (a0 : Array Value) (hw : ∀ d ∈ tables_1, d.before a0 Z = true) (ws : List Jvm.Cond) (p0 : Int32) (p1 : Int32) (p2 : Int32) (p3 : Int32) (p4 : Int32) (ze0 : Addr) (ze1 : Addr) (ze2 : Addr) (ze3 : Addr) (ze4 : Addr) (ze5 : Addr) (ze6 : Addr) (ze7 : Addr) (ze8 : Addr) (ze9 : Addr) (ze10 : Addr) (ze11 : Addr) (ze12 : Addr) (ze13 : Addr) (ze14 : Addr) (ze15 : Addr) (za : Addr) (kz : ClassId) (h0 : Heap) (n0 : Nat) (Z0 : n0 ≤ h0.size) (O0 : Old Z n0 h0) (D0 : Sta Z Z.heap "java/math/BigDecimal" "ZERO_SCALED_BY" "[Ljava/math/BigDecimal;" (.ref za)) (D1 : Sta Z Z.heap "java/math/BigDecimal" "ZERO" "Ljava/math/BigDecimal;" (.ref ze0)) (D2 : Arv Z Z.heap za kz (.object "java/math/BigDecimal") (16 : Int32) ([(.ref ze0), (.ref ze1), (.ref ze2), (.ref ze3), (.ref ze4), (.ref ze5), (.ref ze6), (.ref ze7), (.ref ze8), (.ref ze9), (.ref ze10), (.ref ze11), (.ref ze12), (.ref ze13), (.ref ze14), (.ref ze15)]) .null) (D3 : Exa Z Z.heap ze0 "java/math/BigDecimal") (D4 : Fld Z Z.heap ze0 "java/math/BigDecimal" "scale" "I" (.int 0)) (D5 : Fld Z Z.heap ze0 "java/math/BigDecimal" "intCompact" "J" (.long (0 : Int64))) (D6 : Exa Z Z.heap ze2 "java/math/BigDecimal") (D7 : Fld Z Z.heap ze2 "java/math/BigDecimal" "scale" "I" (.int 2)) (D8 : Fld Z Z.heap ze2 "java/math/BigDecimal" "intCompact" "J" (.long (0 : Int64))) :
    MetFree l x (head1 (Jvm.Cond.code x code maxLocals ret :: ws) room_1) (fun as' U => as' = #[(.int p0), (.int p1), (.int p2), (.int p3), (.int p4)] ∧ Z.Warmed39 U.vm ∧ U.heap = h0) (fun _ _ _ _ _ => True) (fun _ U o U' => ∃ v L, o = .returned v ∧ Q_rm0 Z p0 p1 p2 p3 p4 ze0 ze1 ze2 ze3 ze4 ze5 ze6 ze7 ze8 ze9 ze10 ze11 ze12 ze13 ze14 ze15 za kz h0 n0 v U'.heap L ∧ FrameEnd U o U' L 16 73) := by
  refine MetFree.of_bodySF (plainFor_of_name pn_355) hisR ?_
  intro p e s m args below meth c s₁ Bd hml0 hP hK
  obtain ⟨rfl, hZ, hh⟩ := hP
  have hx := Bd.exec
  have hby := Bd.bytes
  have hml : c.maxLocals = 16 := hml0
  have hown : s.vm.findClass "com/example/diligent_tariff/diligenttariff/billing/ClassImpactGetComparisonPinLaw" = some m.cls := findClass_of_methodNamed Bd.named
  have hnm := (name_of_methodNamed Bd.named Bd.method).1
  have X0 : Stand p l e room_1 s m #[(.int p0), (.int p1), (.int p2), (.int p3), (.int p4)] below meth c s₁ [] 0 0 := Stand.of_body Bd
  have e0 : s₁.heap = h0 := by rw [← hh, Bd.state]; rfl
  have N0 := Fr.nil n0
  refine Go.enter (F := EndN s (Q_rm0 Z p0 p1 p2 p3 p4 ze0 ze1 ze2 ze3 ze4 ze5 ze6 ze7 ze8 ze9 ze10 ze11 ze12 ze13 ze14 ze15 za kz h0 n0) 16 73) (ef_356 m p0 p1 p2 p3 p4) ?_
  show Go _ _ _ _ s₁ (mkF m 0 #[iv p0, iv p1, iv p2, iv p3, iv p4, un, un, un, un, un, un, un, un, un, un, un] [])
  refine Go.iload2 2 X0 hx (hb hby at_0) rfl rfl ?_
  refine Go.by (fun _ gk => X0.ldcI hx hown (mvT hZ (ow hw 0 rfl)) (g := (mkF m 2 #[iv p0, iv p1, iv p2, iv p3, iv p4, un, un, un, un, un, un, un, un, un, un, un] [(.int p4)])) rfl (hb hby at_2) gk) ?_
  show Go _ _ _ _ s₁ (mkF m 4 #[iv p0, iv p1, iv p2, iv p3, iv p4, un, un, un, un, un, un, un, un, un, un, un] [(.int 2147483647), (.int p4)])
  refine Go.iand 5 X0 hx (hb hby at_4) rfl ?_
  refine Go.iconst 6 X0 hx (3 : Int32) (hb hby at_5) (by decide) rfl ?_
  refine Go.irem 7 X0 hx (hb hby at_6) (by decide) rfl ?_
  refine Go.istore2 9 X0 hx (L' := #[iv p0, iv p1, iv p2, iv p3, iv p4, iv ((p4 &&& (2147483647 : Int32)) - (p4 &&& (2147483647 : Int32)) / (3 : Int32) * (3 : Int32)), un, un, un, un, un, un, un, un, un, un]) (hb hby at_7) rfl rfl ?_
  obtain ⟨n, h_n⟩ : ∃ z, z = ((p4 &&& (2147483647 : Int32)) - (p4 &&& (2147483647 : Int32)) / (3 : Int32) * (3 : Int32)) := ⟨_, rfl⟩
  rw [← h_n]
  show Go _ _ _ _ s₁ (mkF m 9 #[iv p0, iv p1, iv p2, iv p3, iv p4, iv n, un, un, un, un, un, un, un, un, un, un] [])
  refine Go.iload1 10 X0 hx (hb hby at_9) rfl rfl ?_
  refine Go.i2l 11 X0 hx (hb hby at_10) rfl ?_
  refine Go.iconst 12 X0 hx (2 : Int32) (hb hby at_11) (by decide) rfl ?_
  obtain ⟨_, _, ⟨T1, L1, k1, n1⟩, -, X1, ⟨Lc1, hQ1, l1, y1, z1⟩, st1⟩ := Jvm.LawKit.callS X0 hx (y := (⟨"java/math/BigDecimal", "valueOf", "(JI)Ljava/math/BigDecimal;"⟩ : MethodName)) hown (mvT hZ (ow hw 1 rfl)) (mvT hZ (ow hw 2 rfl)) (mvT hZ (ow hw 3 rfl)) (mvT hZ (ow hw 4 rfl)) (by decide) (backOf (W := 0) (rmVal l Z a0 hw [] (p0.toInt64) ze0 ze1 ze2 ze3 ze4 ze5 ze6 ze7 ze8 ze9 ze10 ze11 ze12 ze13 ze14 ze15 za kz h0 n0 Z0 O0 (own_min (own_bdI p0)) D0 D1 D2 D3 D4 D5 D6 D7 D8) hZ (ow hw 4 rfl) (ow hw 3 rfl) (by decide) (by decide)) (g := (mkF m 12 #[iv p0, iv p1, iv p2, iv p3, iv p4, iv n, un, un, un, un, un, un, un, un, un, un] [(.int 2), (.long (p0.toInt64))])) rfl (by rw [hml]; rfl) (argsL := [(.long (p0.toInt64)), (.int 2)]) (rest := []) (lenOf pd_138 rfl) rfl (by show 2 * 0 + _ ≤ _; exact Nat.le_of_eq rfl) (hb hby at_12) (fun _ _ => ⟨rfl, e0, (by decide : 0 + 1 ≤ _), (by decide : 0 + 5 ≤ _)⟩)
  dsimp only [Pt.U, Pt.locs, Pt.cells, Pt.slots] at X1 l1 y1 z1 st1 hQ1
  subst l1 y1 z1
  obtain ⟨q0, rfl, N1q, K1, Q1_0, Q1_1, Q1_2⟩ := hQ1
  have N1 := Fr.app N0 N1q
  refine Go.by st1 ?_
  show Go _ _ _ _ T1 (mkF m 15 #[iv p0, iv p1, iv p2, iv p3, iv p4, iv n, un, un, un, un, un, un, un, un, un, un] [(.ref q0)])
  refine Go.astore2 17 X1 hx (L' := #[iv p0, iv p1, iv p2, iv p3, iv p4, iv n, rv q0, un, un, un, un, un, un, un, un, un]) (hb hby at_15) rfl rfl rfl ?_
  refine Go.iload1 18 X1 hx (hb hby at_17) rfl rfl ?_
  refine Go.i2l 19 X1 hx (hb hby at_18) rfl ?_
  refine Go.iconst 20 X1 hx (2 : Int32) (hb hby at_19) (by decide) rfl ?_
  have F2 : Old Z n0 T1.heap := O0.keep K1 all0
  have F3 : n0 ≤ T1.heap.size := Nat.le_trans Z0 K1.1
  obtain ⟨_, _, ⟨T4, L4, k4, n4⟩, -, X4, ⟨Lc4, hQ4, l4, y4, z4⟩, st4⟩ := Jvm.LawKit.callS X1 hx (y := (⟨"java/math/BigDecimal", "valueOf", "(JI)Ljava/math/BigDecimal;"⟩ : MethodName)) hown (mvT hZ (ow hw 1 rfl)) (mvT hZ (ow hw 2 rfl)) (mvT hZ (ow hw 3 rfl)) (mvT hZ (ow hw 4 rfl)) (by decide) (backOf (W := 0) (rmVal l Z a0 hw [] (p1.toInt64) ze0 ze1 ze2 ze3 ze4 ze5 ze6 ze7 ze8 ze9 ze10 ze11 ze12 ze13 ze14 ze15 za kz T1.heap n0 F3 F2 (own_min (own_bdI p1)) D0 D1 D2 D3 D4 D5 D6 D7 D8) hZ (ow hw 4 rfl) (ow hw 3 rfl) (by decide) (by decide)) (g := (mkF m 20 #[iv p0, iv p1, iv p2, iv p3, iv p4, iv n, rv q0, un, un, un, un, un, un, un, un, un] [(.int 2), (.long (p1.toInt64))])) rfl (by rw [hml]; rfl) (argsL := [(.long (p1.toInt64)), (.int 2)]) (rest := []) (lenOf pd_138 rfl) rfl (by show 2 * 0 + _ ≤ _; exact Nat.le_of_eq rfl) (hb hby at_20) (fun _ _ => ⟨rfl, rfl, (by decide : 1 + 1 ≤ _), (by decide : 5 + 5 ≤ _)⟩)
  dsimp only [Pt.U, Pt.locs, Pt.cells, Pt.slots] at X4 l4 y4 z4 st4 hQ4
  subst l4 y4 z4
  obtain ⟨q1, rfl, N4q, K4, Q4_0, Q4_1, Q4_2⟩ := hQ4
  have N4 := Fr.app N1 N4q
  refine Go.by st4 ?_
  show Go _ _ _ _ T4 (mkF m 23 #[iv p0, iv p1, iv p2, iv p3, iv p4, iv n, rv q0, un, un, un, un, un, un, un, un, un] [(.ref q1)])
  refine Go.astore2 25 X4 hx (L' := #[iv p0, iv p1, iv p2, iv p3, iv p4, iv n, rv q0, rv q1, un, un, un, un, un, un, un, un]) (hb hby at_23) rfl rfl rfl ?_
  refine Go.iload1 26 X4 hx (hb hby at_25) rfl rfl ?_
  refine Go.i2l 27 X4 hx (hb hby at_26) rfl ?_
  refine Go.iconst 28 X4 hx (2 : Int32) (hb hby at_27) (by decide) rfl ?_
  have F5 : Old Z n0 T4.heap := F2.keep K4 all0
  have F6 : n0 ≤ T4.heap.size := Nat.le_trans F3 K4.1
  obtain ⟨_, _, ⟨T7, L7, k7, n7⟩, -, X7, ⟨Lc7, hQ7, l7, y7, z7⟩, st7⟩ := Jvm.LawKit.callS X4 hx (y := (⟨"java/math/BigDecimal", "valueOf", "(JI)Ljava/math/BigDecimal;"⟩ : MethodName)) hown (mvT hZ (ow hw 1 rfl)) (mvT hZ (ow hw 2 rfl)) (mvT hZ (ow hw 3 rfl)) (mvT hZ (ow hw 4 rfl)) (by decide) (backOf (W := 0) (rmVal l Z a0 hw [] (p2.toInt64) ze0 ze1 ze2 ze3 ze4 ze5 ze6 ze7 ze8 ze9 ze10 ze11 ze12 ze13 ze14 ze15 za kz T4.heap n0 F6 F5 (own_min (own_bdI p2)) D0 D1 D2 D3 D4 D5 D6 D7 D8) hZ (ow hw 4 rfl) (ow hw 3 rfl) (by decide) (by decide)) (g := (mkF m 28 #[iv p0, iv p1, iv p2, iv p3, iv p4, iv n, rv q0, rv q1, un, un, un, un, un, un, un, un] [(.int 2), (.long (p2.toInt64))])) rfl (by rw [hml]; rfl) (argsL := [(.long (p2.toInt64)), (.int 2)]) (rest := []) (lenOf pd_138 rfl) rfl (by show 2 * 0 + _ ≤ _; exact Nat.le_of_eq rfl) (hb hby at_28) (fun _ _ => ⟨rfl, rfl, (by decide : 2 + 1 ≤ _), (by decide : 10 + 5 ≤ _)⟩)
  dsimp only [Pt.U, Pt.locs, Pt.cells, Pt.slots] at X7 l7 y7 z7 st7 hQ7
  subst l7 y7 z7
  obtain ⟨q2, rfl, N7q, K7, Q7_0, Q7_1, Q7_2⟩ := hQ7
  have N7 := Fr.app N4 N7q
  refine Go.by st7 ?_
  show Go _ _ _ _ T7 (mkF m 31 #[iv p0, iv p1, iv p2, iv p3, iv p4, iv n, rv q0, rv q1, un, un, un, un, un, un, un, un] [(.ref q2)])
  refine Go.astore2 33 X7 hx (L' := #[iv p0, iv p1, iv p2, iv p3, iv p4, iv n, rv q0, rv q1, rv q2, un, un, un, un, un, un, un]) (hb hby at_31) rfl rfl rfl ?_
  refine Go.iload1 34 X7 hx (hb hby at_33) rfl rfl ?_
  refine Go.i2l 35 X7 hx (hb hby at_34) rfl ?_
  refine Go.iconst 36 X7 hx (2 : Int32) (hb hby at_35) (by decide) rfl ?_
  have F8 : Old Z n0 T7.heap := F5.keep K7 all0
  have F9 : n0 ≤ T7.heap.size := Nat.le_trans F6 K7.1
  obtain ⟨_, _, ⟨T10, L10, k10, n10⟩, -, X10, ⟨Lc10, hQ10, l10, y10, z10⟩, st10⟩ := Jvm.LawKit.callS X7 hx (y := (⟨"java/math/BigDecimal", "valueOf", "(JI)Ljava/math/BigDecimal;"⟩ : MethodName)) hown (mvT hZ (ow hw 1 rfl)) (mvT hZ (ow hw 2 rfl)) (mvT hZ (ow hw 3 rfl)) (mvT hZ (ow hw 4 rfl)) (by decide) (backOf (W := 0) (rmVal l Z a0 hw [] (p3.toInt64) ze0 ze1 ze2 ze3 ze4 ze5 ze6 ze7 ze8 ze9 ze10 ze11 ze12 ze13 ze14 ze15 za kz T7.heap n0 F9 F8 (own_min (own_bdI p3)) D0 D1 D2 D3 D4 D5 D6 D7 D8) hZ (ow hw 4 rfl) (ow hw 3 rfl) (by decide) (by decide)) (g := (mkF m 36 #[iv p0, iv p1, iv p2, iv p3, iv p4, iv n, rv q0, rv q1, rv q2, un, un, un, un, un, un, un] [(.int 2), (.long (p3.toInt64))])) rfl (by rw [hml]; rfl) (argsL := [(.long (p3.toInt64)), (.int 2)]) (rest := []) (lenOf pd_138 rfl) rfl (by show 2 * 0 + _ ≤ _; exact Nat.le_of_eq rfl) (hb hby at_36) (fun _ _ => ⟨rfl, rfl, (by decide : 3 + 1 ≤ _), (by decide : 15 + 5 ≤ _)⟩)
  dsimp only [Pt.U, Pt.locs, Pt.cells, Pt.slots] at X10 l10 y10 z10 st10 hQ10
  subst l10 y10 z10
  obtain ⟨q3, rfl, N10q, K10, Q10_0, Q10_1, Q10_2⟩ := hQ10
  have N10 := Fr.app N7 N10q
  refine Go.by st10 ?_
  show Go _ _ _ _ T10 (mkF m 39 #[iv p0, iv p1, iv p2, iv p3, iv p4, iv n, rv q0, rv q1, rv q2, un, un, un, un, un, un, un] [(.ref q3)])
  refine Go.astore2 41 X10 hx (L' := #[iv p0, iv p1, iv p2, iv p3, iv p4, iv n, rv q0, rv q1, rv q2, rv q3, un, un, un, un, un, un]) (hb hby at_39) rfl rfl rfl ?_
  have F12 : n0 ≤ T10.heap.size := Nat.le_trans F9 K10.1
  obtain ⟨ci, g11⟩ : ∃ z, z = T10.heap.size := ⟨_, rfl⟩
  have ge_ci : n0 ≤ ci := Nat.le_trans F12 (Nat.le_of_eq g11.symm)
  have F13 : Keep h0 T1.heap [] := (Keep.refl h0 []).trans K1 all0
  have F14 : Keep h0 T4.heap [] := F13.trans K4 all0
  have F15 : Keep h0 T7.heap [] := F14.trans K7 all0
  have F16 : Keep h0 T10.heap [] := F15.trans K10 all0
  have sz_ci : h0.size ≤ ci := Nat.le_trans F16.1 (Nat.le_of_eq g11.symm)
  have F17 : Exa Z T4.heap q0 "java/math/BigDecimal" := Q1_0.keep K4
  have F18 : Exa Z T7.heap q0 "java/math/BigDecimal" := F17.keep K7
  have F19 : Exa Z T10.heap q0 "java/math/BigDecimal" := F18.keep K10
  have ne_q0_ci : q0 ≠ ci := Nat.ne_of_lt (Nat.lt_of_lt_of_le F19.lt (Nat.le_of_eq g11.symm))
  have F20 : Exa Z T7.heap q1 "java/math/BigDecimal" := Q4_0.keep K7
  have F21 : Exa Z T10.heap q1 "java/math/BigDecimal" := F20.keep K10
  have ne_q1_ci : q1 ≠ ci := Nat.ne_of_lt (Nat.lt_of_lt_of_le F21.lt (Nat.le_of_eq g11.symm))
  have F22 : Exa Z T10.heap q2 "java/math/BigDecimal" := Q7_0.keep K10
  have ne_q2_ci : q2 ≠ ci := Nat.ne_of_lt (Nat.lt_of_lt_of_le F22.lt (Nat.le_of_eq g11.symm))
  have ne_q3_ci : q3 ≠ ci := Nat.ne_of_lt (Nat.lt_of_lt_of_le Q10_0.lt (Nat.le_of_eq g11.symm))
  obtain ⟨T11, h11, X11, e11, E11, A11, D11, -, st11⟩ := newO X10 hx hZ hown (ow hw 33 rfl) (ow hw 34 rfl) (ow hw 35 rfl) rfl (g := (mkF m 41 #[iv p0, iv p1, iv p2, iv p3, iv p4, iv n, rv q0, rv q1, rv q2, rv q3, un, un, un, un, un, un] [])) rfl (hb hby at_41) (by decide) (by decide)
  rw [← g11] at A11 D11 st11
  have F_current_ci : Fld Z h11 ci "com/example/diligent_tariff/diligenttariff/billing/ClassImpact" "current" "Ljava/math/BigDecimal;" .null := D11 (Or.inl (ow hw 61 rfl)) (ty := (.object "java/math/BigDecimal")) (by decide)
  have F_proposed_ci : Fld Z h11 ci "com/example/diligent_tariff/diligenttariff/billing/ClassImpact" "proposed" "Ljava/math/BigDecimal;" .null := D11 (Or.inl (ow hw 63 rfl)) (ty := (.object "java/math/BigDecimal")) (by decide)
  have F_accounts_ci : Fld Z h11 ci "com/example/diligent_tariff/diligenttariff/billing/ClassImpact" "accounts" "I" (.int 0) := D11 (Or.inl (ow hw 129 rfl)) (ty := .int) (by decide)
  have F_bills_ci : Fld Z h11 ci "com/example/diligent_tariff/diligenttariff/billing/ClassImpact" "bills" "J" (.long (0 : Int64)) := D11 (Or.inl (ow hw 131 rfl)) (ty := .long) (by decide)
  have F_higher_ci : Fld Z h11 ci "com/example/diligent_tariff/diligenttariff/billing/ClassImpact" "higher" "I" (.int 0) := D11 (Or.inl (ow hw 140 rfl)) (ty := .int) (by decide)
  have F_lower_ci : Fld Z h11 ci "com/example/diligent_tariff/diligenttariff/billing/ClassImpact" "lower" "I" (.int 0) := D11 (Or.inl (ow hw 142 rfl)) (ty := .int) (by decide)
  have F_unchanged_ci : Fld Z h11 ci "com/example/diligent_tariff/diligenttariff/billing/ClassImpact" "unchanged" "I" (.int 0) := D11 (Or.inl (ow hw 144 rfl)) (ty := .int) (by decide)
  refine Go.by st11 ?_
  show Go _ _ _ _ T11 (mkF m 44 #[iv p0, iv p1, iv p2, iv p3, iv p4, iv n, rv q0, rv q1, rv q2, rv q3, un, un, un, un, un, un] [(.ref ci)])
  refine Go.dup 45 X11 hx (hb hby at_44) rfl rfl ?_
  have F23 : Old Z n0 T10.heap := F8.keep K10 all0
  have F24 : Old Z n0 h11 := F23.ext E11
  have F25 : n0 ≤ h11.size := Nat.le_trans F12 E11.1
  obtain ⟨_, _, ⟨T26, L26, k26, n26⟩, -, X26, ⟨Lc26, hQ26, l26, y26, z26⟩, st26⟩ := X11.specialBack hx (y := (⟨"com/example/diligent_tariff/diligenttariff/billing/ClassImpact", "<init>", "()V"⟩ : MethodName)) rfl hown (mvT hZ (ow hw 36 rfl)) (mvT hZ (ow hw 37 rfl)) (mvT hZ (ow hw 38 rfl)) (by decide) (backOf (W := 1) (rmCi l Z a0 hw [] ci ze0 ze1 ze2 ze3 ze4 ze5 ze6 ze7 ze8 ze9 ze10 ze11 ze12 ze13 ze14 ze15 za kz h11 n0 F25 F24 A11 F_current_ci F_proposed_ci ge_ci F_accounts_ci F_bills_ci F_higher_ci F_unchanged_ci F_lower_ci D0 D1 D2 D3 D4 D5 D6 D7 D8) hZ (ow hw 38 rfl) (ow hw 35 rfl) (by decide) (by decide)) (g := (mkF m 45 #[iv p0, iv p1, iv p2, iv p3, iv p4, iv n, rv q0, rv q1, rv q2, rv q3, un, un, un, un, un, un] [(.ref ci), (.ref ci)])) rfl (by rw [hml]; rfl) (Steps.refl _) (a := ci) (argsL := []) (rest := [(.ref ci)]) (lenOf pd_10 rfl) rfl (by show 2 * 0 + _ ≤ _; exact Nat.le_of_eq rfl) (hb hby at_45) (fun _ _ => ⟨rfl, e11, (by decide : 5 + 0 ≤ _), (by decide : 27 + 0 ≤ _)⟩)
  dsimp only [Pt.U, Pt.locs, Pt.cells, Pt.slots] at X26 l26 y26 z26 st26 hQ26
  subst l26 y26 z26
  obtain ⟨rfl, N26q, K26, Q26_0, Q26_1, Q26_2, Q26_3, Q26_4, Q26_5, Q26_6, Q26_7⟩ := hQ26
  have N26 := Fr.app N10 N26q
  refine Go.to st26 ?_
  show Go _ _ _ _ T26 (mkF m 48 #[iv p0, iv p1, iv p2, iv p3, iv p4, iv n, rv q0, rv q1, rv q2, rv q3, un, un, un, un, un, un] [(.ref ci)])
  refine Go.astore2 50 X26 hx (L' := #[iv p0, iv p1, iv p2, iv p3, iv p4, iv n, rv q0, rv q1, rv q2, rv q3, rv ci, un, un, un, un, un]) (hb hby at_48) rfl rfl rfl ?_
  refine Go.lconst 51 X26 hx (0 : Int64) (hb hby at_50) (by decide) rfl ?_
  refine Go.lstore2 53 X26 hx (L' := #[iv p0, iv p1, iv p2, iv p3, iv p4, iv n, rv q0, rv q1, rv q2, rv q3, rv ci, .val (.long (0 : Int64)), .second, un, un, un]) (hb hby at_51) rfl rfl ?_
  refine Go.lconst 54 X26 hx (0 : Int64) (hb hby at_53) (by decide) rfl ?_
  refine Go.lstore2 56 X26 hx (L' := #[iv p0, iv p1, iv p2, iv p3, iv p4, iv n, rv q0, rv q1, rv q2, rv q3, rv ci, .val (.long (0 : Int64)), .second, .val (.long (0 : Int64)), .second, un]) (hb hby at_54) rfl rfl ?_
  refine Go.iload2 58 X26 hx (hb hby at_56) rfl rfl ?_
  refine Go.iconst 59 X26 hx (1 : Int32) (hb hby at_58) (by decide) rfl ?_
  rcases own_n3 h_n with rfl | rfl | rfl
  · show Go _ _ _ _ T26 (mkF m 59 #[iv p0, iv p1, iv p2, iv p3, iv p4, iv 0, rv q0, rv q1, rv q2, rv q3, rv ci, .val (.long (0 : Int64)), .second, .val (.long (0 : Int64)), .second, un] [(.int 1), (.int 0)])
    refine Go.icmpY 98 X26 hx (hb hby at_59) (XT.ii_lt_t (by decide)) (by decide) (by decide) ?_
    refine Go.iload2 100 X26 hx (hb hby at_98) rfl rfl ?_
    refine Go.iconst 101 X26 hx (2 : Int32) (hb hby at_100) (by decide) rfl ?_
    refine Go.icmpY 143 X26 hx (hb hby at_101) (XT.ii_lt_t (by decide)) (by decide) (by decide) ?_
    refine Go.aload2 145 X26 hx (hb hby at_143) rfl rfl rfl ?_
    have F27 : Old Z n0 T26.heap := F24.keep K26 (allS ge_ci all0)
    have F28 : Exa Z T26.heap ze2 "java/math/BigDecimal" := D6.ext F27.2
    have F29 : n0 ≤ T26.heap.size := Nat.le_trans F25 K26.1
    obtain ⟨cq30, kq30, q30a, q30b, q30c⟩ := isOf hZ rfl Q26_0
    obtain ⟨_, _, ⟨T30, L30, k30, n30⟩, -, X30, ⟨Lc30, hQ30, l30, y30, z30⟩, st30⟩ := X26.virtualBack hx (y := (⟨"com/example/diligent_tariff/diligenttariff/billing/ClassImpact", "getComparison", "()Lcom/example/diligent_tariff/diligenttariff/billing/Comparison;"⟩ : MethodName)) (z := (⟨"com/example/diligent_tariff/diligenttariff/billing/ClassImpact", "getComparison", "()Lcom/example/diligent_tariff/diligenttariff/billing/Comparison;"⟩ : MethodName)) hown (mvT hZ (ow hw 64 rfl)) (mvT hZ (ow hw 65 rfl)) (notFace_of_selects (args := #[]) (mvT hZ (ow hw 67 rfl))) (mvT hZ (ow hw 67 rfl)) (mvT hZ (ow hw 66 rfl)) (by decide) (backOf (W := 0) (rmCiGet l Z a0 hw [] ci ze2 ze2 T26.heap n0 F29 Q26_1 Q26_2 F28 F28) hZ (ow hw 68 rfl) (ow hw 35 rfl) (by decide) (by decide)) q30a q30c (g := (mkF m 145 #[iv p0, iv p1, iv p2, iv p3, iv p4, iv 0, rv q0, rv q1, rv q2, rv q3, rv ci, .val (.long (0 : Int64)), .second, .val (.long (0 : Int64)), .second, un] [(.ref ci)])) rfl (by rw [hml]; rfl) (Steps.refl _) (argsL := []) (rest := []) (lenOf pd_357 rfl) rfl (by show 2 * 0 + _ ≤ _; exact Nat.le_of_eq rfl) (hb hby at_145) (fun _ _ => ⟨rfl, rfl, (by decide : 5 + 1 ≤ _), (by decide : 27 + 2 ≤ _)⟩)
    dsimp only [Pt.U, Pt.locs, Pt.cells, Pt.slots] at X30 l30 y30 z30 st30 hQ30
    subst l30 y30 z30
    obtain ⟨cg, rfl, N30q, K30, Q30_0, Q30_1, Q30_2⟩ := hQ30
    have N30 := Fr.app N26 N30q
    refine Go.to st30 ?_
    show Go _ _ _ _ T30 (mkF m 148 #[iv p0, iv p1, iv p2, iv p3, iv p4, iv 0, rv q0, rv q1, rv q2, rv q3, rv ci, .val (.long (0 : Int64)), .second, .val (.long (0 : Int64)), .second, un] [(.ref cg)])
    refine Go.astore2 150 X30 hx (L' := #[iv p0, iv p1, iv p2, iv p3, iv p4, iv 0, rv q0, rv q1, rv q2, rv q3, rv ci, .val (.long (0 : Int64)), .second, .val (.long (0 : Int64)), .second, rv cg]) (hb hby at_148) rfl rfl rfl ?_
    refine Go.aload2 152 X30 hx (hb hby at_150) rfl rfl rfl ?_
    have F31 : n0 ≤ T30.heap.size := Nat.le_trans F29 K30.1
    obtain ⟨cq32, kq32, q32a, q32b, q32c⟩ := isOf hZ rfl Q30_0
    obtain ⟨_, _, ⟨T32, L32, k32, n32⟩, -, X32, ⟨Lc32, hQ32, l32, y32, z32⟩, st32⟩ := X30.virtualBack hx (y := (⟨"com/example/diligent_tariff/diligenttariff/billing/Comparison", "getCurrent", "()Ljava/math/BigDecimal;"⟩ : MethodName)) (z := (⟨"com/example/diligent_tariff/diligenttariff/billing/Comparison", "getCurrent", "()Ljava/math/BigDecimal;"⟩ : MethodName)) hown (mvT hZ (ow hw 85 rfl)) (mvT hZ (ow hw 86 rfl)) (notFace_of_selects (args := #[]) (mvT hZ (ow hw 88 rfl))) (mvT hZ (ow hw 88 rfl)) (mvT hZ (ow hw 87 rfl)) (by decide) (backOf (W := 0) (rmGc l Z a0 hw [] cg ze2 T30.heap n0 F31 Q30_1) hZ (ow hw 89 rfl) (ow hw 71 rfl) (by decide) (by decide)) q32a q32c (g := (mkF m 152 #[iv p0, iv p1, iv p2, iv p3, iv p4, iv 0, rv q0, rv q1, rv q2, rv q3, rv ci, .val (.long (0 : Int64)), .second, .val (.long (0 : Int64)), .second, rv cg] [(.ref cg)])) rfl (by rw [hml]; rfl) (Steps.refl _) (argsL := []) (rest := []) (lenOf pd_290 rfl) rfl (by show 2 * 0 + _ ≤ _; exact Nat.le_of_eq rfl) (hb hby at_152) (fun _ _ => ⟨rfl, rfl, (by decide : 6 + 0 ≤ _), (by decide : 29 + 0 ≤ _)⟩)
    dsimp only [Pt.U, Pt.locs, Pt.cells, Pt.slots] at X32 l32 y32 z32 st32 hQ32
    subst l32 y32 z32
    obtain ⟨rfl, N32q, e32⟩ := hQ32
    have N32 := Fr.app N30 N32q
    refine Go.to st32 ?_
    show Go _ _ _ _ T32 (mkF m 155 #[iv p0, iv p1, iv p2, iv p3, iv p4, iv 0, rv q0, rv q1, rv q2, rv q3, rv ci, .val (.long (0 : Int64)), .second, .val (.long (0 : Int64)), .second, rv cg] [(.ref ze2)])
    refine Go.lload2 157 X32 hx (hb hby at_155) rfl rfl ?_
    refine Go.iconst 158 X32 hx (2 : Int32) (hb hby at_157) (by decide) rfl ?_
    have F33 : Old Z n0 T30.heap := F27.keep K30 all0
    obtain ⟨_, _, ⟨T34, L34, k34, n34⟩, -, X34, ⟨Lc34, hQ34, l34, y34, z34⟩, st34⟩ := Jvm.LawKit.callS X32 hx (y := (⟨"java/math/BigDecimal", "valueOf", "(JI)Ljava/math/BigDecimal;"⟩ : MethodName)) hown (mvT hZ (ow hw 1 rfl)) (mvT hZ (ow hw 2 rfl)) (mvT hZ (ow hw 3 rfl)) (mvT hZ (ow hw 4 rfl)) (by decide) (backOf (W := 1) (rmVal l Z a0 hw [] (0 : Int64) ze0 ze1 ze2 ze3 ze4 ze5 ze6 ze7 ze8 ze9 ze10 ze11 ze12 ze13 ze14 ze15 za kz T30.heap n0 F31 F33 (own_min own_bd0) D0 D1 D2 D3 D4 D5 D6 D7 D8) hZ (ow hw 4 rfl) (ow hw 3 rfl) (by decide) (by decide)) (g := (mkF m 158 #[iv p0, iv p1, iv p2, iv p3, iv p4, iv 0, rv q0, rv q1, rv q2, rv q3, rv ci, .val (.long (0 : Int64)), .second, .val (.long (0 : Int64)), .second, rv cg] [(.int 2), (.long (0 : Int64)), (.ref ze2)])) rfl (by rw [hml]; rfl) (argsL := [(.long (0 : Int64)), (.int 2)]) (rest := [(.ref ze2)]) (lenOf pd_138 rfl) rfl (by show 2 * 0 + _ ≤ _; exact Nat.le_of_eq rfl) (hb hby at_158) (fun _ _ => ⟨rfl, e32, (by decide : 6 + 1 ≤ _), (by decide : 29 + 5 ≤ _)⟩)
    dsimp only [Pt.U, Pt.locs, Pt.cells, Pt.slots] at X34 l34 y34 z34 st34 hQ34
    subst l34 y34 z34
    obtain ⟨ermGc, rfl, N34q, K34, Q34_0, Q34_1, Q34_2⟩ := hQ34
    have N34 := Fr.app N32 N34q
    refine Go.by st34 ?_
    show Go _ _ _ _ T34 (mkF m 161 #[iv p0, iv p1, iv p2, iv p3, iv p4, iv 0, rv q0, rv q1, rv q2, rv q3, rv ci, .val (.long (0 : Int64)), .second, .val (.long (0 : Int64)), .second, rv cg] [(.ref ermGc), (.ref ze2)])
    have F35 : Old Z n0 T34.heap := F33.keep K34 all0
    have F36 : Exa Z T34.heap ze2 "java/math/BigDecimal" := D6.ext F35.2
    have F37 : Fld Z T34.heap ze2 "java/math/BigDecimal" "scale" "I" (.int 2) := D7.ext F35.2
    have F38 : Fld Z T34.heap ze2 "java/math/BigDecimal" "intCompact" "J" (.long (0 : Int64)) := D8.ext F35.2
    have F39 : n0 ≤ T34.heap.size := Nat.le_trans F31 K34.1
    obtain ⟨cq40, kq40, q40a, q40b, q40c⟩ := isOf hZ rfl F36
    obtain ⟨_, _, ⟨T40, L40, k40, n40⟩, -, X40, ⟨Lc40, hQ40, l40, y40, z40⟩, st40⟩ := X34.virtualBack hx (y := (⟨"java/math/BigDecimal", "equals", "(Ljava/lang/Object;)Z"⟩ : MethodName)) (z := (⟨"java/math/BigDecimal", "equals", "(Ljava/lang/Object;)Z"⟩ : MethodName)) hown (mvT hZ (ow hw 90 rfl)) (mvT hZ (ow hw 91 rfl)) (notFace_of_selects (args := #[]) (mvT hZ (ow hw 93 rfl))) (mvT hZ (ow hw 93 rfl)) (mvT hZ (ow hw 92 rfl)) (by decide) (backOf (W := 0) (rmEq l Z a0 hw [] ze2 ermGc (0 : Int64) T34.heap n0 F39 F36 F37 F38 Q34_0 Q34_1 Q34_2 (own_min own_bd0)) hZ (ow hw 94 rfl) (ow hw 3 rfl) (by decide) (by decide)) q40a q40c (g := (mkF m 161 #[iv p0, iv p1, iv p2, iv p3, iv p4, iv 0, rv q0, rv q1, rv q2, rv q3, rv ci, .val (.long (0 : Int64)), .second, .val (.long (0 : Int64)), .second, rv cg] [(.ref ermGc), (.ref ze2)])) rfl (by rw [hml]; rfl) (Steps.refl _) (argsL := [(.ref ermGc)]) (rest := []) (lenOf pd_358 rfl) rfl (by show 2 * 0 + _ ≤ _; exact Nat.le_of_eq rfl) (hb hby at_161) (fun _ _ => ⟨rfl, rfl, (by decide : 7 + 0 ≤ _), (by decide : 34 + 0 ≤ _)⟩)
    dsimp only [Pt.U, Pt.locs, Pt.cells, Pt.slots] at X40 l40 y40 z40 st40 hQ40
    subst l40 y40 z40
    obtain ⟨rfl, N40q, e40⟩ := hQ40
    have N40 := Fr.app N34 N40q
    refine Go.to st40 ?_
    show Go _ _ _ _ T40 (mkF m 164 #[iv p0, iv p1, iv p2, iv p3, iv p4, iv 0, rv q0, rv q1, rv q2, rv q3, rv ci, .val (.long (0 : Int64)), .second, .val (.long (0 : Int64)), .second, rv cg] [(.int 1)])
    refine Go.ifN 167 X40 hx (hb hby at_164) (XT.i0_eq_f (by decide)) rfl ?_
    refine Go.aload2 169 X40 hx (hb hby at_167) rfl rfl rfl ?_
    have F41 : Fld Z T34.heap cg "com/example/diligent_tariff/diligenttariff/billing/Comparison" "proposed" "Ljava/math/BigDecimal;" (.ref ze2) := Q30_2.keep K34 nin0
    have F43 : Exa Z T34.heap cg "com/example/diligent_tariff/diligenttariff/billing/Comparison" := Q30_0.keep K34
    obtain ⟨cq42, kq42, q42a, q42b, q42c⟩ := isOf hZ e40 F43
    obtain ⟨_, _, ⟨T42, L42, k42, n42⟩, -, X42, ⟨Lc42, hQ42, l42, y42, z42⟩, st42⟩ := X40.virtualBack hx (y := (⟨"com/example/diligent_tariff/diligenttariff/billing/Comparison", "getProposed", "()Ljava/math/BigDecimal;"⟩ : MethodName)) (z := (⟨"com/example/diligent_tariff/diligenttariff/billing/Comparison", "getProposed", "()Ljava/math/BigDecimal;"⟩ : MethodName)) hown (mvT hZ (ow hw 95 rfl)) (mvT hZ (ow hw 96 rfl)) (notFace_of_selects (args := #[]) (mvT hZ (ow hw 98 rfl))) (mvT hZ (ow hw 98 rfl)) (mvT hZ (ow hw 97 rfl)) (by decide) (backOf (W := 0) (rmGp l Z a0 hw [] cg ze2 T34.heap n0 F39 F41) hZ (ow hw 99 rfl) (ow hw 71 rfl) (by decide) (by decide)) q42a q42c (g := (mkF m 169 #[iv p0, iv p1, iv p2, iv p3, iv p4, iv 0, rv q0, rv q1, rv q2, rv q3, rv ci, .val (.long (0 : Int64)), .second, .val (.long (0 : Int64)), .second, rv cg] [(.ref cg)])) rfl (by rw [hml]; rfl) (Steps.refl _) (argsL := []) (rest := []) (lenOf pd_290 rfl) rfl (by show 2 * 0 + _ ≤ _; exact Nat.le_of_eq rfl) (hb hby at_169) (fun _ _ => ⟨rfl, e40, (by decide : 7 + 0 ≤ _), (by decide : 34 + 0 ≤ _)⟩)
    dsimp only [Pt.U, Pt.locs, Pt.cells, Pt.slots] at X42 l42 y42 z42 st42 hQ42
    subst l42 y42 z42
    obtain ⟨rfl, N42q, e42⟩ := hQ42
    have N42 := Fr.app N40 N42q
    refine Go.to st42 ?_
    show Go _ _ _ _ T42 (mkF m 172 #[iv p0, iv p1, iv p2, iv p3, iv p4, iv 0, rv q0, rv q1, rv q2, rv q3, rv ci, .val (.long (0 : Int64)), .second, .val (.long (0 : Int64)), .second, rv cg] [(.ref ze2)])
    refine Go.lload2 174 X42 hx (hb hby at_172) rfl rfl ?_
    refine Go.iconst 175 X42 hx (2 : Int32) (hb hby at_174) (by decide) rfl ?_
    obtain ⟨_, _, ⟨T44, L44, k44, n44⟩, -, X44, ⟨Lc44, hQ44, l44, y44, z44⟩, st44⟩ := Jvm.LawKit.callS X42 hx (y := (⟨"java/math/BigDecimal", "valueOf", "(JI)Ljava/math/BigDecimal;"⟩ : MethodName)) hown (mvT hZ (ow hw 1 rfl)) (mvT hZ (ow hw 2 rfl)) (mvT hZ (ow hw 3 rfl)) (mvT hZ (ow hw 4 rfl)) (by decide) (backOf (W := 1) (rmVal l Z a0 hw [] (0 : Int64) ze0 ze1 ze2 ze3 ze4 ze5 ze6 ze7 ze8 ze9 ze10 ze11 ze12 ze13 ze14 ze15 za kz T34.heap n0 F39 F35 (own_min own_bd0) D0 D1 D2 D3 D4 D5 D6 D7 D8) hZ (ow hw 4 rfl) (ow hw 3 rfl) (by decide) (by decide)) (g := (mkF m 175 #[iv p0, iv p1, iv p2, iv p3, iv p4, iv 0, rv q0, rv q1, rv q2, rv q3, rv ci, .val (.long (0 : Int64)), .second, .val (.long (0 : Int64)), .second, rv cg] [(.int 2), (.long (0 : Int64)), (.ref ze2)])) rfl (by rw [hml]; rfl) (argsL := [(.long (0 : Int64)), (.int 2)]) (rest := [(.ref ze2)]) (lenOf pd_138 rfl) rfl (by show 2 * 0 + _ ≤ _; exact Nat.le_of_eq rfl) (hb hby at_175) (fun _ _ => ⟨rfl, e42, (by decide : 7 + 1 ≤ _), (by decide : 34 + 5 ≤ _)⟩)
    dsimp only [Pt.U, Pt.locs, Pt.cells, Pt.slots] at X44 l44 y44 z44 st44 hQ44
    subst l44 y44 z44
    obtain ⟨ermGp, rfl, N44q, K44, Q44_0, Q44_1, Q44_2⟩ := hQ44
    have N44 := Fr.app N42 N44q
    refine Go.by st44 ?_
    show Go _ _ _ _ T44 (mkF m 178 #[iv p0, iv p1, iv p2, iv p3, iv p4, iv 0, rv q0, rv q1, rv q2, rv q3, rv ci, .val (.long (0 : Int64)), .second, .val (.long (0 : Int64)), .second, rv cg] [(.ref ermGp), (.ref ze2)])
    have F45 : Old Z n0 T44.heap := F35.keep K44 all0
    have F46 : Exa Z T44.heap ze2 "java/math/BigDecimal" := D6.ext F45.2
    have F47 : Fld Z T44.heap ze2 "java/math/BigDecimal" "scale" "I" (.int 2) := D7.ext F45.2
    have F48 : Fld Z T44.heap ze2 "java/math/BigDecimal" "intCompact" "J" (.long (0 : Int64)) := D8.ext F45.2
    have F49 : n0 ≤ T44.heap.size := Nat.le_trans F39 K44.1
    obtain ⟨cq50, kq50, q50a, q50b, q50c⟩ := isOf hZ rfl F46
    obtain ⟨_, _, ⟨T50, L50, k50, n50⟩, -, X50, ⟨Lc50, hQ50, l50, y50, z50⟩, st50⟩ := X44.virtualBack hx (y := (⟨"java/math/BigDecimal", "equals", "(Ljava/lang/Object;)Z"⟩ : MethodName)) (z := (⟨"java/math/BigDecimal", "equals", "(Ljava/lang/Object;)Z"⟩ : MethodName)) hown (mvT hZ (ow hw 90 rfl)) (mvT hZ (ow hw 91 rfl)) (notFace_of_selects (args := #[]) (mvT hZ (ow hw 93 rfl))) (mvT hZ (ow hw 93 rfl)) (mvT hZ (ow hw 92 rfl)) (by decide) (backOf (W := 0) (rmEq l Z a0 hw [] ze2 ermGp (0 : Int64) T44.heap n0 F49 F46 F47 F48 Q44_0 Q44_1 Q44_2 (own_min own_bd0)) hZ (ow hw 94 rfl) (ow hw 3 rfl) (by decide) (by decide)) q50a q50c (g := (mkF m 178 #[iv p0, iv p1, iv p2, iv p3, iv p4, iv 0, rv q0, rv q1, rv q2, rv q3, rv ci, .val (.long (0 : Int64)), .second, .val (.long (0 : Int64)), .second, rv cg] [(.ref ermGp), (.ref ze2)])) rfl (by rw [hml]; rfl) (Steps.refl _) (argsL := [(.ref ermGp)]) (rest := []) (lenOf pd_358 rfl) rfl (by show 2 * 0 + _ ≤ _; exact Nat.le_of_eq rfl) (hb hby at_178) (fun _ _ => ⟨rfl, rfl, (by decide : 8 + 0 ≤ _), (by decide : 39 + 0 ≤ _)⟩)
    dsimp only [Pt.U, Pt.locs, Pt.cells, Pt.slots] at X50 l50 y50 z50 st50 hQ50
    subst l50 y50 z50
    obtain ⟨rfl, N50q, e50⟩ := hQ50
    have N50 := Fr.app N44 N50q
    refine Go.to st50 ?_
    show Go _ _ _ _ T50 (mkF m 181 #[iv p0, iv p1, iv p2, iv p3, iv p4, iv 0, rv q0, rv q1, rv q2, rv q3, rv ci, .val (.long (0 : Int64)), .second, .val (.long (0 : Int64)), .second, rv cg] [(.int 1)])
    refine Go.ifN 184 X50 hx (hb hby at_181) (XT.i0_eq_f (by decide)) rfl ?_
    refine Go.iconst 185 X50 hx (1 : Int32) (hb hby at_184) (by decide) rfl ?_
    refine Go.goto 189 X50 hx (hb hby at_185) (by decide) (by decide) ?_
    exact Go.retI X50 hx Bd.notSynchronized Bd.returns rfl (by simp) (hb hby at_189) (by rw [e50]; exact ⟨rfl, N50⟩) (by decide) (by decide)
  · show Go _ _ _ _ T26 (mkF m 59 #[iv p0, iv p1, iv p2, iv p3, iv p4, iv 1, rv q0, rv q1, rv q2, rv q3, rv ci, .val (.long (0 : Int64)), .second, .val (.long (0 : Int64)), .second, un] [(.int 1), (.int 1)])
    refine Go.icmpN 62 X26 hx (hb hby at_59) (XT.ii_lt_f (by decide)) rfl ?_
    refine Go.aload2 64 X26 hx (hb hby at_62) rfl rfl rfl ?_
    refine Go.iload2 66 X26 hx (hb hby at_64) rfl rfl ?_
    refine Go.sipush 69 X26 hx (255 : Int32) (hb hby at_66) (by decide) rfl ?_
    refine Go.iand 70 X26 hx (hb hby at_69) rfl ?_
    have F52 : n0 ≤ T26.heap.size := Nat.le_trans F25 K26.1
    obtain ⟨c1, g51⟩ : ∃ z, z = T26.heap.size := ⟨_, rfl⟩
    have ge_c1 : n0 ≤ c1 := Nat.le_trans F52 (Nat.le_of_eq g51.symm)
    have F53 : Keep h0 h11 [] := F16.ext E11
    have F54 : Keep h0 T26.heap [] := F53.trans K26 (allS (Or.inr sz_ci) all0)
    have sz_c1 : h0.size ≤ c1 := Nat.le_trans F54.1 (Nat.le_of_eq g51.symm)
    have ne_ci_c1 : ci ≠ c1 := Nat.ne_of_lt (Nat.lt_of_lt_of_le Q26_0.lt (Nat.le_of_eq g51.symm))
    have F55 : Exa Z h11 q0 "java/math/BigDecimal" := F19.ext E11
    have F56 : Exa Z T26.heap q0 "java/math/BigDecimal" := F55.keep K26
    have ne_q0_c1 : q0 ≠ c1 := Nat.ne_of_lt (Nat.lt_of_lt_of_le F56.lt (Nat.le_of_eq g51.symm))
    have F57 : Exa Z h11 q1 "java/math/BigDecimal" := F21.ext E11
    have F58 : Exa Z T26.heap q1 "java/math/BigDecimal" := F57.keep K26
    have ne_q1_c1 : q1 ≠ c1 := Nat.ne_of_lt (Nat.lt_of_lt_of_le F58.lt (Nat.le_of_eq g51.symm))
    have F59 : Exa Z h11 q2 "java/math/BigDecimal" := F22.ext E11
    have F60 : Exa Z T26.heap q2 "java/math/BigDecimal" := F59.keep K26
    have ne_q2_c1 : q2 ≠ c1 := Nat.ne_of_lt (Nat.lt_of_lt_of_le F60.lt (Nat.le_of_eq g51.symm))
    have F61 : Exa Z h11 q3 "java/math/BigDecimal" := Q10_0.ext E11
    have F62 : Exa Z T26.heap q3 "java/math/BigDecimal" := F61.keep K26
    have ne_q3_c1 : q3 ≠ c1 := Nat.ne_of_lt (Nat.lt_of_lt_of_le F62.lt (Nat.le_of_eq g51.symm))
    obtain ⟨T51, h51, X51, e51, E51, A51, D51, -, st51⟩ := newO X26 hx hZ hown (ow hw 100 rfl) (ow hw 70 rfl) (ow hw 71 rfl) rfl (g := (mkF m 70 #[iv p0, iv p1, iv p2, iv p3, iv p4, iv 1, rv q0, rv q1, rv q2, rv q3, rv ci, .val (.long (0 : Int64)), .second, .val (.long (0 : Int64)), .second, un] [(.int (p4 &&& (255 : Int32))), (.ref ci)])) rfl (hb hby at_70) (by decide) (by decide)
    rw [← g51] at A51 D51 st51
    have F_current_c1 : Fld Z h51 c1 "com/example/diligent_tariff/diligenttariff/billing/Comparison" "current" "Ljava/math/BigDecimal;" .null := D51 (Or.inr (ow hw 82 rfl)) (ty := (.object "java/math/BigDecimal")) (by decide)
    have F_proposed_c1 : Fld Z h51 c1 "com/example/diligent_tariff/diligenttariff/billing/Comparison" "proposed" "Ljava/math/BigDecimal;" .null := D51 (Or.inr (ow hw 84 rfl)) (ty := (.object "java/math/BigDecimal")) (by decide)
    refine Go.by st51 ?_
    show Go _ _ _ _ T51 (mkF m 73 #[iv p0, iv p1, iv p2, iv p3, iv p4, iv 1, rv q0, rv q1, rv q2, rv q3, rv ci, .val (.long (0 : Int64)), .second, .val (.long (0 : Int64)), .second, un] [(.ref c1), (.int (p4 &&& (255 : Int32))), (.ref ci)])
    refine Go.dup 74 X51 hx (hb hby at_73) rfl rfl ?_
    refine Go.aload2 76 X51 hx (hb hby at_74) rfl rfl rfl ?_
    refine Go.aload2 78 X51 hx (hb hby at_76) rfl rfl rfl ?_
    have F63 : Exa Z h51 q0 "java/math/BigDecimal" := F56.ext E51
    have F64 : Exa Z h51 q1 "java/math/BigDecimal" := F58.ext E51
    have F65 : n0 ≤ h51.size := Nat.le_trans F52 E51.1
    obtain ⟨_, _, ⟨T66, L66, k66, n66⟩, -, X66, ⟨Lc66, hQ66, l66, y66, z66⟩, st66⟩ := X51.specialBack hx (y := (⟨"com/example/diligent_tariff/diligenttariff/billing/Comparison", "<init>", "(Ljava/math/BigDecimal;Ljava/math/BigDecimal;)V"⟩ : MethodName)) rfl hown (mvT hZ (ow hw 101 rfl)) (mvT hZ (ow hw 73 rfl)) (mvT hZ (ow hw 74 rfl)) (by decide) (backOf (W := 3) (rmCo l Z a0 hw [] c1 q0 q1 h51 n0 F65 A51 F_current_c1 F_proposed_c1 ge_c1 F63 F64) hZ (ow hw 74 rfl) (ow hw 71 rfl) (by decide) (by decide)) (g := (mkF m 78 #[iv p0, iv p1, iv p2, iv p3, iv p4, iv 1, rv q0, rv q1, rv q2, rv q3, rv ci, .val (.long (0 : Int64)), .second, .val (.long (0 : Int64)), .second, un] [(.ref q1), (.ref q0), (.ref c1), (.ref c1), (.int (p4 &&& (255 : Int32))), (.ref ci)])) rfl (by rw [hml]; rfl) (Steps.refl _) (a := c1) (argsL := [(.ref q0), (.ref q1)]) (rest := [(.ref c1), (.int (p4 &&& (255 : Int32))), (.ref ci)]) (lenOf pd_352 rfl) rfl (by show 2 * 0 + _ ≤ _; exact Nat.le_of_eq rfl) (hb hby at_78) (fun _ _ => ⟨rfl, e51, (by decide : 6 + 0 ≤ _), (by decide : 29 + 0 ≤ _)⟩)
    dsimp only [Pt.U, Pt.locs, Pt.cells, Pt.slots] at X66 l66 y66 z66 st66 hQ66
    subst l66 y66 z66
    obtain ⟨rfl, N66q, K66, Q66_0, Q66_1, Q66_2⟩ := hQ66
    have N66 := Fr.app N26 N66q
    refine Go.to st66 ?_
    show Go _ _ _ _ T66 (mkF m 81 #[iv p0, iv p1, iv p2, iv p3, iv p4, iv 1, rv q0, rv q1, rv q2, rv q3, rv ci, .val (.long (0 : Int64)), .second, .val (.long (0 : Int64)), .second, un] [(.ref c1), (.int (p4 &&& (255 : Int32))), (.ref ci)])
    have F67 : Old Z n0 T26.heap := F24.keep K26 (allS ge_ci all0)
    have F68 : Old Z n0 h51 := F67.ext E51
    have F69 : Old Z n0 T66.heap := F68.keep K66 (allS ge_c1 all0)
    have F70 : Exa Z h51 ci "com/example/diligent_tariff/diligenttariff/billing/ClassImpact" := Q26_0.ext E51
    have F71 : Exa Z T66.heap ci "com/example/diligent_tariff/diligenttariff/billing/ClassImpact" := F70.keep K66
    have F72 : Fld Z h51 ci "com/example/diligent_tariff/diligenttariff/billing/ClassImpact" "current" "Ljava/math/BigDecimal;" (.ref ze2) := Q26_1.ext E51
    have F73 : Fld Z T66.heap ci "com/example/diligent_tariff/diligenttariff/billing/ClassImpact" "current" "Ljava/math/BigDecimal;" (.ref ze2) := F72.keep K66 (ninS ne_ci_c1 nin0)
    have F74 : Fld Z h51 ci "com/example/diligent_tariff/diligenttariff/billing/ClassImpact" "proposed" "Ljava/math/BigDecimal;" (.ref ze2) := Q26_2.ext E51
    have F75 : Fld Z T66.heap ci "com/example/diligent_tariff/diligenttariff/billing/ClassImpact" "proposed" "Ljava/math/BigDecimal;" (.ref ze2) := F74.keep K66 (ninS ne_ci_c1 nin0)
    have F76 : Fld Z h51 ci "com/example/diligent_tariff/diligenttariff/billing/ClassImpact" "accounts" "I" (.int 0) := Q26_3.ext E51
    have F77 : Fld Z T66.heap ci "com/example/diligent_tariff/diligenttariff/billing/ClassImpact" "accounts" "I" (.int 0) := F76.keep K66 (ninS ne_ci_c1 nin0)
    have F78 : Fld Z h51 ci "com/example/diligent_tariff/diligenttariff/billing/ClassImpact" "bills" "J" (.long (0 : Int64)) := Q26_4.ext E51
    have F79 : Fld Z T66.heap ci "com/example/diligent_tariff/diligenttariff/billing/ClassImpact" "bills" "J" (.long (0 : Int64)) := F78.keep K66 (ninS ne_ci_c1 nin0)
    have F80 : Fld Z h51 ci "com/example/diligent_tariff/diligenttariff/billing/ClassImpact" "higher" "I" (.int 0) := Q26_5.ext E51
    have F81 : Fld Z T66.heap ci "com/example/diligent_tariff/diligenttariff/billing/ClassImpact" "higher" "I" (.int 0) := F80.keep K66 (ninS ne_ci_c1 nin0)
    have F82 : Fld Z h51 ci "com/example/diligent_tariff/diligenttariff/billing/ClassImpact" "unchanged" "I" (.int 0) := Q26_6.ext E51
    have F83 : Fld Z T66.heap ci "com/example/diligent_tariff/diligenttariff/billing/ClassImpact" "unchanged" "I" (.int 0) := F82.keep K66 (ninS ne_ci_c1 nin0)
    have F84 : Fld Z h51 ci "com/example/diligent_tariff/diligenttariff/billing/ClassImpact" "lower" "I" (.int 0) := Q26_7.ext E51
    have F85 : Fld Z T66.heap ci "com/example/diligent_tariff/diligenttariff/billing/ClassImpact" "lower" "I" (.int 0) := F84.keep K66 (ninS ne_ci_c1 nin0)
    have F86 : Exa Z T66.heap q0 "java/math/BigDecimal" := F63.keep K66
    have F87 : Fld Z T4.heap q0 "java/math/BigDecimal" "scale" "I" (.int 2) := Q1_1.keep K4 nin0
    have F88 : Fld Z T7.heap q0 "java/math/BigDecimal" "scale" "I" (.int 2) := F87.keep K7 nin0
    have F89 : Fld Z T10.heap q0 "java/math/BigDecimal" "scale" "I" (.int 2) := F88.keep K10 nin0
    have F90 : Fld Z h11 q0 "java/math/BigDecimal" "scale" "I" (.int 2) := F89.ext E11
    have F91 : Fld Z T26.heap q0 "java/math/BigDecimal" "scale" "I" (.int 2) := F90.keep K26 (ninS ne_q0_ci nin0)
    have F92 : Fld Z h51 q0 "java/math/BigDecimal" "scale" "I" (.int 2) := F91.ext E51
    have F93 : Fld Z T66.heap q0 "java/math/BigDecimal" "scale" "I" (.int 2) := F92.keep K66 (ninS ne_q0_c1 nin0)
    have F94 : Fld Z T4.heap q0 "java/math/BigDecimal" "intCompact" "J" (.long (p0.toInt64)) := Q1_2.keep K4 nin0
    have F95 : Fld Z T7.heap q0 "java/math/BigDecimal" "intCompact" "J" (.long (p0.toInt64)) := F94.keep K7 nin0
    have F96 : Fld Z T10.heap q0 "java/math/BigDecimal" "intCompact" "J" (.long (p0.toInt64)) := F95.keep K10 nin0
    have F97 : Fld Z h11 q0 "java/math/BigDecimal" "intCompact" "J" (.long (p0.toInt64)) := F96.ext E11
    have F98 : Fld Z T26.heap q0 "java/math/BigDecimal" "intCompact" "J" (.long (p0.toInt64)) := F97.keep K26 (ninS ne_q0_ci nin0)
    have F99 : Fld Z h51 q0 "java/math/BigDecimal" "intCompact" "J" (.long (p0.toInt64)) := F98.ext E51
    have F100 : Fld Z T66.heap q0 "java/math/BigDecimal" "intCompact" "J" (.long (p0.toInt64)) := F99.keep K66 (ninS ne_q0_c1 nin0)
    have F101 : Exa Z T66.heap q1 "java/math/BigDecimal" := F64.keep K66
    have F102 : Fld Z T7.heap q1 "java/math/BigDecimal" "scale" "I" (.int 2) := Q4_1.keep K7 nin0
    have F103 : Fld Z T10.heap q1 "java/math/BigDecimal" "scale" "I" (.int 2) := F102.keep K10 nin0
    have F104 : Fld Z h11 q1 "java/math/BigDecimal" "scale" "I" (.int 2) := F103.ext E11
    have F105 : Fld Z T26.heap q1 "java/math/BigDecimal" "scale" "I" (.int 2) := F104.keep K26 (ninS ne_q1_ci nin0)
    have F106 : Fld Z h51 q1 "java/math/BigDecimal" "scale" "I" (.int 2) := F105.ext E51
    have F107 : Fld Z T66.heap q1 "java/math/BigDecimal" "scale" "I" (.int 2) := F106.keep K66 (ninS ne_q1_c1 nin0)
    have F108 : Fld Z T7.heap q1 "java/math/BigDecimal" "intCompact" "J" (.long (p1.toInt64)) := Q4_2.keep K7 nin0
    have F109 : Fld Z T10.heap q1 "java/math/BigDecimal" "intCompact" "J" (.long (p1.toInt64)) := F108.keep K10 nin0
    have F110 : Fld Z h11 q1 "java/math/BigDecimal" "intCompact" "J" (.long (p1.toInt64)) := F109.ext E11
    have F111 : Fld Z T26.heap q1 "java/math/BigDecimal" "intCompact" "J" (.long (p1.toInt64)) := F110.keep K26 (ninS ne_q1_ci nin0)
    have F112 : Fld Z h51 q1 "java/math/BigDecimal" "intCompact" "J" (.long (p1.toInt64)) := F111.ext E51
    have F113 : Fld Z T66.heap q1 "java/math/BigDecimal" "intCompact" "J" (.long (p1.toInt64)) := F112.keep K66 (ninS ne_q1_c1 nin0)
    have F114 : Exa Z T66.heap ze2 "java/math/BigDecimal" := D6.ext F69.2
    have F115 : Fld Z T66.heap ze2 "java/math/BigDecimal" "scale" "I" (.int 2) := D7.ext F69.2
    have F116 : Fld Z T66.heap ze2 "java/math/BigDecimal" "intCompact" "J" (.long (0 : Int64)) := D8.ext F69.2
    have F117 : n0 ≤ T66.heap.size := Nat.le_trans F65 K66.1
    obtain ⟨cq118, kq118, q118a, q118b, q118c⟩ := isOf hZ rfl F71
    obtain ⟨_, _, ⟨T118, L118, k118, n118⟩, -, X118, ⟨Lc118, hQ118, l118, y118, z118⟩, st118⟩ := X66.virtualBack hx (y := (⟨"com/example/diligent_tariff/diligenttariff/billing/ClassImpact", "add", "(ILcom/example/diligent_tariff/diligenttariff/billing/Comparison;)V"⟩ : MethodName)) (z := (⟨"com/example/diligent_tariff/diligenttariff/billing/ClassImpact", "add", "(ILcom/example/diligent_tariff/diligenttariff/billing/Comparison;)V"⟩ : MethodName)) hown (mvT hZ (ow hw 102 rfl)) (mvT hZ (ow hw 103 rfl)) (notFace_of_selects (args := #[]) (mvT hZ (ow hw 105 rfl))) (mvT hZ (ow hw 105 rfl)) (mvT hZ (ow hw 104 rfl)) (by decide) (backOf (W := 0) (rmCiAdd l Z a0 hw [] ci (p4 &&& (255 : Int32)) c1 q0 q1 ze2 ze2 (p0.toInt64) (p1.toInt64) (0 : Int64) (0 : Int64) (0 : Int32) (0 : Int64) (0 : Int32) (0 : Int32) (0 : Int32) ze0 ze1 ze2 ze3 ze4 ze5 ze6 ze7 ze8 ze9 ze10 ze11 ze12 ze13 ze14 ze15 za kz T66.heap n0 F117 F69 F71 F73 F75 ge_ci Q66_0 F77 F79 F81 F83 F85 Q66_1 Q66_2 F86 F93 F100 F101 F107 F113 F114 F115 F116 F114 F115 F116 (own_bdI _) (own_bdI _) own_bd0 own_bd0 D0 D1 D2 D3 D4 D5 D6 D7 D8) hZ (ow hw 106 rfl) (ow hw 35 rfl) (by decide) (by decide)) q118a q118c (g := (mkF m 81 #[iv p0, iv p1, iv p2, iv p3, iv p4, iv 1, rv q0, rv q1, rv q2, rv q3, rv ci, .val (.long (0 : Int64)), .second, .val (.long (0 : Int64)), .second, un] [(.ref c1), (.int (p4 &&& (255 : Int32))), (.ref ci)])) rfl (by rw [hml]; rfl) (Steps.refl _) (argsL := [(.int (p4 &&& (255 : Int32))), (.ref c1)]) (rest := []) (lenOf pd_359 rfl) rfl (by show 2 * 0 + _ ≤ _; exact Nat.le_of_eq rfl) (hb hby at_81) (fun _ _ => ⟨rfl, rfl, (by decide : 6 + 3 ≤ _), (by decide : 29 + 15 ≤ _)⟩)
    dsimp only [Pt.U, Pt.locs, Pt.cells, Pt.slots] at X118 l118 y118 z118 st118 hQ118
    subst l118 y118 z118
    obtain ⟨d1_0, d2_0, mna_118, mnb_118, mnh_118, mnu_118, mnl_118, rfl, N118q, K118, Q118_0, Q118_1, Q118_2, Q118_3, Q118_4, Q118_5, Q118_6, Q118_7, Q118_8, Q118_9, Q118_10, Q118_11, Q118_12, Q118_13⟩ := hQ118
    have N118 := Fr.app N66 N118q
    refine Go.to st118 ?_
    show Go _ _ _ _ T118 (mkF m 84 #[iv p0, iv p1, iv p2, iv p3, iv p4, iv 1, rv q0, rv q1, rv q2, rv q3, rv ci, .val (.long (0 : Int64)), .second, .val (.long (0 : Int64)), .second, un] [])
    refine Go.lload2 86 X118 hx (hb hby at_84) rfl rfl ?_
    refine Go.iload1 87 X118 hx (hb hby at_86) rfl rfl ?_
    refine Go.i2l 88 X118 hx (hb hby at_87) rfl ?_
    refine Go.ladd 89 X118 hx (hb hby at_88) rfl ?_
    refine Go.lstore2 91 X118 hx (L' := #[iv p0, iv p1, iv p2, iv p3, iv p4, iv 1, rv q0, rv q1, rv q2, rv q3, rv ci, .val (.long ((0 : Int64) + (p0.toInt64))), .second, .val (.long (0 : Int64)), .second, un]) (hb hby at_89) rfl rfl ?_
    refine Go.lload2 93 X118 hx (hb hby at_91) rfl rfl ?_
    refine Go.iload1 94 X118 hx (hb hby at_93) rfl rfl ?_
    refine Go.i2l 95 X118 hx (hb hby at_94) rfl ?_
    refine Go.ladd 96 X118 hx (hb hby at_95) rfl ?_
    refine Go.lstore2 98 X118 hx (L' := #[iv p0, iv p1, iv p2, iv p3, iv p4, iv 1, rv q0, rv q1, rv q2, rv q3, rv ci, .val (.long ((0 : Int64) + (p0.toInt64))), .second, .val (.long ((0 : Int64) + (p1.toInt64))), .second, un]) (hb hby at_96) rfl rfl ?_
    refine Go.iload2 100 X118 hx (hb hby at_98) rfl rfl ?_
    refine Go.iconst 101 X118 hx (2 : Int32) (hb hby at_100) (by decide) rfl ?_
    refine Go.icmpY 143 X118 hx (hb hby at_101) (XT.ii_lt_t (by decide)) (by decide) (by decide) ?_
    refine Go.aload2 145 X118 hx (hb hby at_143) rfl rfl rfl ?_
    have F119 : n0 ≤ T118.heap.size := Nat.le_trans F117 K118.1
    obtain ⟨cq120, kq120, q120a, q120b, q120c⟩ := isOf hZ rfl Q118_0
    obtain ⟨_, _, ⟨T120, L120, k120, n120⟩, -, X120, ⟨Lc120, hQ120, l120, y120, z120⟩, st120⟩ := X118.virtualBack hx (y := (⟨"com/example/diligent_tariff/diligenttariff/billing/ClassImpact", "getComparison", "()Lcom/example/diligent_tariff/diligenttariff/billing/Comparison;"⟩ : MethodName)) (z := (⟨"com/example/diligent_tariff/diligenttariff/billing/ClassImpact", "getComparison", "()Lcom/example/diligent_tariff/diligenttariff/billing/Comparison;"⟩ : MethodName)) hown (mvT hZ (ow hw 64 rfl)) (mvT hZ (ow hw 65 rfl)) (notFace_of_selects (args := #[]) (mvT hZ (ow hw 67 rfl))) (mvT hZ (ow hw 67 rfl)) (mvT hZ (ow hw 66 rfl)) (by decide) (backOf (W := 0) (rmCiGet l Z a0 hw [] ci d1_0 d2_0 T118.heap n0 F119 Q118_1 Q118_2 Q118_8 Q118_11) hZ (ow hw 68 rfl) (ow hw 35 rfl) (by decide) (by decide)) q120a q120c (g := (mkF m 145 #[iv p0, iv p1, iv p2, iv p3, iv p4, iv 1, rv q0, rv q1, rv q2, rv q3, rv ci, .val (.long ((0 : Int64) + (p0.toInt64))), .second, .val (.long ((0 : Int64) + (p1.toInt64))), .second, un] [(.ref ci)])) rfl (by rw [hml]; rfl) (Steps.refl _) (argsL := []) (rest := []) (lenOf pd_357 rfl) rfl (by show 2 * 0 + _ ≤ _; exact Nat.le_of_eq rfl) (hb hby at_145) (fun _ _ => ⟨rfl, rfl, (by decide : 9 + 1 ≤ _), (by decide : 44 + 2 ≤ _)⟩)
    dsimp only [Pt.U, Pt.locs, Pt.cells, Pt.slots] at X120 l120 y120 z120 st120 hQ120
    subst l120 y120 z120
    obtain ⟨cg, rfl, N120q, K120, Q120_0, Q120_1, Q120_2⟩ := hQ120
    have N120 := Fr.app N118 N120q
    refine Go.to st120 ?_
    show Go _ _ _ _ T120 (mkF m 148 #[iv p0, iv p1, iv p2, iv p3, iv p4, iv 1, rv q0, rv q1, rv q2, rv q3, rv ci, .val (.long ((0 : Int64) + (p0.toInt64))), .second, .val (.long ((0 : Int64) + (p1.toInt64))), .second, un] [(.ref cg)])
    refine Go.astore2 150 X120 hx (L' := #[iv p0, iv p1, iv p2, iv p3, iv p4, iv 1, rv q0, rv q1, rv q2, rv q3, rv ci, .val (.long ((0 : Int64) + (p0.toInt64))), .second, .val (.long ((0 : Int64) + (p1.toInt64))), .second, rv cg]) (hb hby at_148) rfl rfl rfl ?_
    refine Go.aload2 152 X120 hx (hb hby at_150) rfl rfl rfl ?_
    have F121 : n0 ≤ T120.heap.size := Nat.le_trans F119 K120.1
    obtain ⟨cq122, kq122, q122a, q122b, q122c⟩ := isOf hZ rfl Q120_0
    obtain ⟨_, _, ⟨T122, L122, k122, n122⟩, -, X122, ⟨Lc122, hQ122, l122, y122, z122⟩, st122⟩ := X120.virtualBack hx (y := (⟨"com/example/diligent_tariff/diligenttariff/billing/Comparison", "getCurrent", "()Ljava/math/BigDecimal;"⟩ : MethodName)) (z := (⟨"com/example/diligent_tariff/diligenttariff/billing/Comparison", "getCurrent", "()Ljava/math/BigDecimal;"⟩ : MethodName)) hown (mvT hZ (ow hw 85 rfl)) (mvT hZ (ow hw 86 rfl)) (notFace_of_selects (args := #[]) (mvT hZ (ow hw 88 rfl))) (mvT hZ (ow hw 88 rfl)) (mvT hZ (ow hw 87 rfl)) (by decide) (backOf (W := 0) (rmGc l Z a0 hw [] cg d1_0 T120.heap n0 F121 Q120_1) hZ (ow hw 89 rfl) (ow hw 71 rfl) (by decide) (by decide)) q122a q122c (g := (mkF m 152 #[iv p0, iv p1, iv p2, iv p3, iv p4, iv 1, rv q0, rv q1, rv q2, rv q3, rv ci, .val (.long ((0 : Int64) + (p0.toInt64))), .second, .val (.long ((0 : Int64) + (p1.toInt64))), .second, rv cg] [(.ref cg)])) rfl (by rw [hml]; rfl) (Steps.refl _) (argsL := []) (rest := []) (lenOf pd_290 rfl) rfl (by show 2 * 0 + _ ≤ _; exact Nat.le_of_eq rfl) (hb hby at_152) (fun _ _ => ⟨rfl, rfl, (by decide : 10 + 0 ≤ _), (by decide : 46 + 0 ≤ _)⟩)
    dsimp only [Pt.U, Pt.locs, Pt.cells, Pt.slots] at X122 l122 y122 z122 st122 hQ122
    subst l122 y122 z122
    obtain ⟨rfl, N122q, e122⟩ := hQ122
    have N122 := Fr.app N120 N122q
    refine Go.to st122 ?_
    show Go _ _ _ _ T122 (mkF m 155 #[iv p0, iv p1, iv p2, iv p3, iv p4, iv 1, rv q0, rv q1, rv q2, rv q3, rv ci, .val (.long ((0 : Int64) + (p0.toInt64))), .second, .val (.long ((0 : Int64) + (p1.toInt64))), .second, rv cg] [(.ref d1_0)])
    refine Go.lload2 157 X122 hx (hb hby at_155) rfl rfl ?_
    refine Go.iconst 158 X122 hx (2 : Int32) (hb hby at_157) (by decide) rfl ?_
    have F123 : Old Z n0 T118.heap := F69.keep K118 (allS ge_ci all0)
    have F124 : Old Z n0 T120.heap := F123.keep K120 all0
    obtain ⟨_, _, ⟨T125, L125, k125, n125⟩, -, X125, ⟨Lc125, hQ125, l125, y125, z125⟩, st125⟩ := Jvm.LawKit.callS X122 hx (y := (⟨"java/math/BigDecimal", "valueOf", "(JI)Ljava/math/BigDecimal;"⟩ : MethodName)) hown (mvT hZ (ow hw 1 rfl)) (mvT hZ (ow hw 2 rfl)) (mvT hZ (ow hw 3 rfl)) (mvT hZ (ow hw 4 rfl)) (by decide) (backOf (W := 1) (rmVal l Z a0 hw [] ((0 : Int64) + (p0.toInt64)) ze0 ze1 ze2 ze3 ze4 ze5 ze6 ze7 ze8 ze9 ze10 ze11 ze12 ze13 ze14 ze15 za kz T120.heap n0 F121 F124 (own_min (own_bdA _)) D0 D1 D2 D3 D4 D5 D6 D7 D8) hZ (ow hw 4 rfl) (ow hw 3 rfl) (by decide) (by decide)) (g := (mkF m 158 #[iv p0, iv p1, iv p2, iv p3, iv p4, iv 1, rv q0, rv q1, rv q2, rv q3, rv ci, .val (.long ((0 : Int64) + (p0.toInt64))), .second, .val (.long ((0 : Int64) + (p1.toInt64))), .second, rv cg] [(.int 2), (.long ((0 : Int64) + (p0.toInt64))), (.ref d1_0)])) rfl (by rw [hml]; rfl) (argsL := [(.long ((0 : Int64) + (p0.toInt64))), (.int 2)]) (rest := [(.ref d1_0)]) (lenOf pd_138 rfl) rfl (by show 2 * 0 + _ ≤ _; exact Nat.le_of_eq rfl) (hb hby at_158) (fun _ _ => ⟨rfl, e122, (by decide : 10 + 1 ≤ _), (by decide : 46 + 5 ≤ _)⟩)
    dsimp only [Pt.U, Pt.locs, Pt.cells, Pt.slots] at X125 l125 y125 z125 st125 hQ125
    subst l125 y125 z125
    obtain ⟨ermGc, rfl, N125q, K125, Q125_0, Q125_1, Q125_2⟩ := hQ125
    have N125 := Fr.app N122 N125q
    refine Go.by st125 ?_
    show Go _ _ _ _ T125 (mkF m 161 #[iv p0, iv p1, iv p2, iv p3, iv p4, iv 1, rv q0, rv q1, rv q2, rv q3, rv ci, .val (.long ((0 : Int64) + (p0.toInt64))), .second, .val (.long ((0 : Int64) + (p1.toInt64))), .second, rv cg] [(.ref ermGc), (.ref d1_0)])
    have F126 : Exa Z T120.heap d1_0 "java/math/BigDecimal" := Q118_8.keep K120
    have F127 : Exa Z T125.heap d1_0 "java/math/BigDecimal" := F126.keep K125
    have F128 : Fld Z T120.heap d1_0 "java/math/BigDecimal" "scale" "I" (.int 2) := Q118_9.keep K120 nin0
    have F129 : Fld Z T125.heap d1_0 "java/math/BigDecimal" "scale" "I" (.int 2) := F128.keep K125 nin0
    have F130 : Fld Z T120.heap d1_0 "java/math/BigDecimal" "intCompact" "J" (.long ((0 : Int64) + (p0.toInt64))) := Q118_10.keep K120 nin0
    have F131 : Fld Z T125.heap d1_0 "java/math/BigDecimal" "intCompact" "J" (.long ((0 : Int64) + (p0.toInt64))) := F130.keep K125 nin0
    have F132 : n0 ≤ T125.heap.size := Nat.le_trans F121 K125.1
    obtain ⟨cq133, kq133, q133a, q133b, q133c⟩ := isOf hZ rfl F127
    obtain ⟨_, _, ⟨T133, L133, k133, n133⟩, -, X133, ⟨Lc133, hQ133, l133, y133, z133⟩, st133⟩ := X125.virtualBack hx (y := (⟨"java/math/BigDecimal", "equals", "(Ljava/lang/Object;)Z"⟩ : MethodName)) (z := (⟨"java/math/BigDecimal", "equals", "(Ljava/lang/Object;)Z"⟩ : MethodName)) hown (mvT hZ (ow hw 90 rfl)) (mvT hZ (ow hw 91 rfl)) (notFace_of_selects (args := #[]) (mvT hZ (ow hw 93 rfl))) (mvT hZ (ow hw 93 rfl)) (mvT hZ (ow hw 92 rfl)) (by decide) (backOf (W := 0) (rmEq l Z a0 hw [] d1_0 ermGc ((0 : Int64) + (p0.toInt64)) T125.heap n0 F132 F127 F129 F131 Q125_0 Q125_1 Q125_2 (own_min (own_bdA _))) hZ (ow hw 94 rfl) (ow hw 3 rfl) (by decide) (by decide)) q133a q133c (g := (mkF m 161 #[iv p0, iv p1, iv p2, iv p3, iv p4, iv 1, rv q0, rv q1, rv q2, rv q3, rv ci, .val (.long ((0 : Int64) + (p0.toInt64))), .second, .val (.long ((0 : Int64) + (p1.toInt64))), .second, rv cg] [(.ref ermGc), (.ref d1_0)])) rfl (by rw [hml]; rfl) (Steps.refl _) (argsL := [(.ref ermGc)]) (rest := []) (lenOf pd_358 rfl) rfl (by show 2 * 0 + _ ≤ _; exact Nat.le_of_eq rfl) (hb hby at_161) (fun _ _ => ⟨rfl, rfl, (by decide : 11 + 0 ≤ _), (by decide : 51 + 0 ≤ _)⟩)
    dsimp only [Pt.U, Pt.locs, Pt.cells, Pt.slots] at X133 l133 y133 z133 st133 hQ133
    subst l133 y133 z133
    obtain ⟨rfl, N133q, e133⟩ := hQ133
    have N133 := Fr.app N125 N133q
    refine Go.to st133 ?_
    show Go _ _ _ _ T133 (mkF m 164 #[iv p0, iv p1, iv p2, iv p3, iv p4, iv 1, rv q0, rv q1, rv q2, rv q3, rv ci, .val (.long ((0 : Int64) + (p0.toInt64))), .second, .val (.long ((0 : Int64) + (p1.toInt64))), .second, rv cg] [(.int 1)])
    refine Go.ifN 167 X133 hx (hb hby at_164) (XT.i0_eq_f (by decide)) rfl ?_
    refine Go.aload2 169 X133 hx (hb hby at_167) rfl rfl rfl ?_
    have F134 : Fld Z T125.heap cg "com/example/diligent_tariff/diligenttariff/billing/Comparison" "proposed" "Ljava/math/BigDecimal;" (.ref d2_0) := Q120_2.keep K125 nin0
    have F136 : Exa Z T125.heap cg "com/example/diligent_tariff/diligenttariff/billing/Comparison" := Q120_0.keep K125
    obtain ⟨cq135, kq135, q135a, q135b, q135c⟩ := isOf hZ e133 F136
    obtain ⟨_, _, ⟨T135, L135, k135, n135⟩, -, X135, ⟨Lc135, hQ135, l135, y135, z135⟩, st135⟩ := X133.virtualBack hx (y := (⟨"com/example/diligent_tariff/diligenttariff/billing/Comparison", "getProposed", "()Ljava/math/BigDecimal;"⟩ : MethodName)) (z := (⟨"com/example/diligent_tariff/diligenttariff/billing/Comparison", "getProposed", "()Ljava/math/BigDecimal;"⟩ : MethodName)) hown (mvT hZ (ow hw 95 rfl)) (mvT hZ (ow hw 96 rfl)) (notFace_of_selects (args := #[]) (mvT hZ (ow hw 98 rfl))) (mvT hZ (ow hw 98 rfl)) (mvT hZ (ow hw 97 rfl)) (by decide) (backOf (W := 0) (rmGp l Z a0 hw [] cg d2_0 T125.heap n0 F132 F134) hZ (ow hw 99 rfl) (ow hw 71 rfl) (by decide) (by decide)) q135a q135c (g := (mkF m 169 #[iv p0, iv p1, iv p2, iv p3, iv p4, iv 1, rv q0, rv q1, rv q2, rv q3, rv ci, .val (.long ((0 : Int64) + (p0.toInt64))), .second, .val (.long ((0 : Int64) + (p1.toInt64))), .second, rv cg] [(.ref cg)])) rfl (by rw [hml]; rfl) (Steps.refl _) (argsL := []) (rest := []) (lenOf pd_290 rfl) rfl (by show 2 * 0 + _ ≤ _; exact Nat.le_of_eq rfl) (hb hby at_169) (fun _ _ => ⟨rfl, e133, (by decide : 11 + 0 ≤ _), (by decide : 51 + 0 ≤ _)⟩)
    dsimp only [Pt.U, Pt.locs, Pt.cells, Pt.slots] at X135 l135 y135 z135 st135 hQ135
    subst l135 y135 z135
    obtain ⟨rfl, N135q, e135⟩ := hQ135
    have N135 := Fr.app N133 N135q
    refine Go.to st135 ?_
    show Go _ _ _ _ T135 (mkF m 172 #[iv p0, iv p1, iv p2, iv p3, iv p4, iv 1, rv q0, rv q1, rv q2, rv q3, rv ci, .val (.long ((0 : Int64) + (p0.toInt64))), .second, .val (.long ((0 : Int64) + (p1.toInt64))), .second, rv cg] [(.ref d2_0)])
    refine Go.lload2 174 X135 hx (hb hby at_172) rfl rfl ?_
    refine Go.iconst 175 X135 hx (2 : Int32) (hb hby at_174) (by decide) rfl ?_
    have F137 : Old Z n0 T125.heap := F124.keep K125 all0
    obtain ⟨_, _, ⟨T138, L138, k138, n138⟩, -, X138, ⟨Lc138, hQ138, l138, y138, z138⟩, st138⟩ := Jvm.LawKit.callS X135 hx (y := (⟨"java/math/BigDecimal", "valueOf", "(JI)Ljava/math/BigDecimal;"⟩ : MethodName)) hown (mvT hZ (ow hw 1 rfl)) (mvT hZ (ow hw 2 rfl)) (mvT hZ (ow hw 3 rfl)) (mvT hZ (ow hw 4 rfl)) (by decide) (backOf (W := 1) (rmVal l Z a0 hw [] ((0 : Int64) + (p1.toInt64)) ze0 ze1 ze2 ze3 ze4 ze5 ze6 ze7 ze8 ze9 ze10 ze11 ze12 ze13 ze14 ze15 za kz T125.heap n0 F132 F137 (own_min (own_bdA _)) D0 D1 D2 D3 D4 D5 D6 D7 D8) hZ (ow hw 4 rfl) (ow hw 3 rfl) (by decide) (by decide)) (g := (mkF m 175 #[iv p0, iv p1, iv p2, iv p3, iv p4, iv 1, rv q0, rv q1, rv q2, rv q3, rv ci, .val (.long ((0 : Int64) + (p0.toInt64))), .second, .val (.long ((0 : Int64) + (p1.toInt64))), .second, rv cg] [(.int 2), (.long ((0 : Int64) + (p1.toInt64))), (.ref d2_0)])) rfl (by rw [hml]; rfl) (argsL := [(.long ((0 : Int64) + (p1.toInt64))), (.int 2)]) (rest := [(.ref d2_0)]) (lenOf pd_138 rfl) rfl (by show 2 * 0 + _ ≤ _; exact Nat.le_of_eq rfl) (hb hby at_175) (fun _ _ => ⟨rfl, e135, (by decide : 11 + 1 ≤ _), (by decide : 51 + 5 ≤ _)⟩)
    dsimp only [Pt.U, Pt.locs, Pt.cells, Pt.slots] at X138 l138 y138 z138 st138 hQ138
    subst l138 y138 z138
    obtain ⟨ermGp, rfl, N138q, K138, Q138_0, Q138_1, Q138_2⟩ := hQ138
    have N138 := Fr.app N135 N138q
    refine Go.by st138 ?_
    show Go _ _ _ _ T138 (mkF m 178 #[iv p0, iv p1, iv p2, iv p3, iv p4, iv 1, rv q0, rv q1, rv q2, rv q3, rv ci, .val (.long ((0 : Int64) + (p0.toInt64))), .second, .val (.long ((0 : Int64) + (p1.toInt64))), .second, rv cg] [(.ref ermGp), (.ref d2_0)])
    have F139 : Exa Z T120.heap d2_0 "java/math/BigDecimal" := Q118_11.keep K120
    have F140 : Exa Z T125.heap d2_0 "java/math/BigDecimal" := F139.keep K125
    have F141 : Exa Z T138.heap d2_0 "java/math/BigDecimal" := F140.keep K138
    have F142 : Fld Z T120.heap d2_0 "java/math/BigDecimal" "scale" "I" (.int 2) := Q118_12.keep K120 nin0
    have F143 : Fld Z T125.heap d2_0 "java/math/BigDecimal" "scale" "I" (.int 2) := F142.keep K125 nin0
    have F144 : Fld Z T138.heap d2_0 "java/math/BigDecimal" "scale" "I" (.int 2) := F143.keep K138 nin0
    have F145 : Fld Z T120.heap d2_0 "java/math/BigDecimal" "intCompact" "J" (.long ((0 : Int64) + (p1.toInt64))) := Q118_13.keep K120 nin0
    have F146 : Fld Z T125.heap d2_0 "java/math/BigDecimal" "intCompact" "J" (.long ((0 : Int64) + (p1.toInt64))) := F145.keep K125 nin0
    have F147 : Fld Z T138.heap d2_0 "java/math/BigDecimal" "intCompact" "J" (.long ((0 : Int64) + (p1.toInt64))) := F146.keep K138 nin0
    have F148 : n0 ≤ T138.heap.size := Nat.le_trans F132 K138.1
    obtain ⟨cq149, kq149, q149a, q149b, q149c⟩ := isOf hZ rfl F141
    obtain ⟨_, _, ⟨T149, L149, k149, n149⟩, -, X149, ⟨Lc149, hQ149, l149, y149, z149⟩, st149⟩ := X138.virtualBack hx (y := (⟨"java/math/BigDecimal", "equals", "(Ljava/lang/Object;)Z"⟩ : MethodName)) (z := (⟨"java/math/BigDecimal", "equals", "(Ljava/lang/Object;)Z"⟩ : MethodName)) hown (mvT hZ (ow hw 90 rfl)) (mvT hZ (ow hw 91 rfl)) (notFace_of_selects (args := #[]) (mvT hZ (ow hw 93 rfl))) (mvT hZ (ow hw 93 rfl)) (mvT hZ (ow hw 92 rfl)) (by decide) (backOf (W := 0) (rmEq l Z a0 hw [] d2_0 ermGp ((0 : Int64) + (p1.toInt64)) T138.heap n0 F148 F141 F144 F147 Q138_0 Q138_1 Q138_2 (own_min (own_bdA _))) hZ (ow hw 94 rfl) (ow hw 3 rfl) (by decide) (by decide)) q149a q149c (g := (mkF m 178 #[iv p0, iv p1, iv p2, iv p3, iv p4, iv 1, rv q0, rv q1, rv q2, rv q3, rv ci, .val (.long ((0 : Int64) + (p0.toInt64))), .second, .val (.long ((0 : Int64) + (p1.toInt64))), .second, rv cg] [(.ref ermGp), (.ref d2_0)])) rfl (by rw [hml]; rfl) (Steps.refl _) (argsL := [(.ref ermGp)]) (rest := []) (lenOf pd_358 rfl) rfl (by show 2 * 0 + _ ≤ _; exact Nat.le_of_eq rfl) (hb hby at_178) (fun _ _ => ⟨rfl, rfl, (by decide : 12 + 0 ≤ _), (by decide : 56 + 0 ≤ _)⟩)
    dsimp only [Pt.U, Pt.locs, Pt.cells, Pt.slots] at X149 l149 y149 z149 st149 hQ149
    subst l149 y149 z149
    obtain ⟨rfl, N149q, e149⟩ := hQ149
    have N149 := Fr.app N138 N149q
    refine Go.to st149 ?_
    show Go _ _ _ _ T149 (mkF m 181 #[iv p0, iv p1, iv p2, iv p3, iv p4, iv 1, rv q0, rv q1, rv q2, rv q3, rv ci, .val (.long ((0 : Int64) + (p0.toInt64))), .second, .val (.long ((0 : Int64) + (p1.toInt64))), .second, rv cg] [(.int 1)])
    refine Go.ifN 184 X149 hx (hb hby at_181) (XT.i0_eq_f (by decide)) rfl ?_
    refine Go.iconst 185 X149 hx (1 : Int32) (hb hby at_184) (by decide) rfl ?_
    refine Go.goto 189 X149 hx (hb hby at_185) (by decide) (by decide) ?_
    exact Go.retI X149 hx Bd.notSynchronized Bd.returns rfl (by simp) (hb hby at_189) (by rw [e149]; exact ⟨rfl, N149⟩) (by decide) (by decide)
  · show Go _ _ _ _ T26 (mkF m 59 #[iv p0, iv p1, iv p2, iv p3, iv p4, iv 2, rv q0, rv q1, rv q2, rv q3, rv ci, .val (.long (0 : Int64)), .second, .val (.long (0 : Int64)), .second, un] [(.int 1), (.int 2)])
    refine Go.icmpN 62 X26 hx (hb hby at_59) (XT.ii_lt_f (by decide)) rfl ?_
    refine Go.aload2 64 X26 hx (hb hby at_62) rfl rfl rfl ?_
    refine Go.iload2 66 X26 hx (hb hby at_64) rfl rfl ?_
    refine Go.sipush 69 X26 hx (255 : Int32) (hb hby at_66) (by decide) rfl ?_
    refine Go.iand 70 X26 hx (hb hby at_69) rfl ?_
    have F151 : n0 ≤ T26.heap.size := Nat.le_trans F25 K26.1
    obtain ⟨c1, g150⟩ : ∃ z, z = T26.heap.size := ⟨_, rfl⟩
    have ge_c1 : n0 ≤ c1 := Nat.le_trans F151 (Nat.le_of_eq g150.symm)
    have F152 : Keep h0 h11 [] := F16.ext E11
    have F153 : Keep h0 T26.heap [] := F152.trans K26 (allS (Or.inr sz_ci) all0)
    have sz_c1 : h0.size ≤ c1 := Nat.le_trans F153.1 (Nat.le_of_eq g150.symm)
    have ne_ci_c1 : ci ≠ c1 := Nat.ne_of_lt (Nat.lt_of_lt_of_le Q26_0.lt (Nat.le_of_eq g150.symm))
    have F154 : Exa Z h11 q0 "java/math/BigDecimal" := F19.ext E11
    have F155 : Exa Z T26.heap q0 "java/math/BigDecimal" := F154.keep K26
    have ne_q0_c1 : q0 ≠ c1 := Nat.ne_of_lt (Nat.lt_of_lt_of_le F155.lt (Nat.le_of_eq g150.symm))
    have F156 : Exa Z h11 q1 "java/math/BigDecimal" := F21.ext E11
    have F157 : Exa Z T26.heap q1 "java/math/BigDecimal" := F156.keep K26
    have ne_q1_c1 : q1 ≠ c1 := Nat.ne_of_lt (Nat.lt_of_lt_of_le F157.lt (Nat.le_of_eq g150.symm))
    have F158 : Exa Z h11 q2 "java/math/BigDecimal" := F22.ext E11
    have F159 : Exa Z T26.heap q2 "java/math/BigDecimal" := F158.keep K26
    have ne_q2_c1 : q2 ≠ c1 := Nat.ne_of_lt (Nat.lt_of_lt_of_le F159.lt (Nat.le_of_eq g150.symm))
    have F160 : Exa Z h11 q3 "java/math/BigDecimal" := Q10_0.ext E11
    have F161 : Exa Z T26.heap q3 "java/math/BigDecimal" := F160.keep K26
    have ne_q3_c1 : q3 ≠ c1 := Nat.ne_of_lt (Nat.lt_of_lt_of_le F161.lt (Nat.le_of_eq g150.symm))
    obtain ⟨T150, h150, X150, e150, E150, A150, D150, -, st150⟩ := newO X26 hx hZ hown (ow hw 100 rfl) (ow hw 70 rfl) (ow hw 71 rfl) rfl (g := (mkF m 70 #[iv p0, iv p1, iv p2, iv p3, iv p4, iv 2, rv q0, rv q1, rv q2, rv q3, rv ci, .val (.long (0 : Int64)), .second, .val (.long (0 : Int64)), .second, un] [(.int (p4 &&& (255 : Int32))), (.ref ci)])) rfl (hb hby at_70) (by decide) (by decide)
    rw [← g150] at A150 D150 st150
    have F_current_c1 : Fld Z h150 c1 "com/example/diligent_tariff/diligenttariff/billing/Comparison" "current" "Ljava/math/BigDecimal;" .null := D150 (Or.inr (ow hw 82 rfl)) (ty := (.object "java/math/BigDecimal")) (by decide)
    have F_proposed_c1 : Fld Z h150 c1 "com/example/diligent_tariff/diligenttariff/billing/Comparison" "proposed" "Ljava/math/BigDecimal;" .null := D150 (Or.inr (ow hw 84 rfl)) (ty := (.object "java/math/BigDecimal")) (by decide)
    refine Go.by st150 ?_
    show Go _ _ _ _ T150 (mkF m 73 #[iv p0, iv p1, iv p2, iv p3, iv p4, iv 2, rv q0, rv q1, rv q2, rv q3, rv ci, .val (.long (0 : Int64)), .second, .val (.long (0 : Int64)), .second, un] [(.ref c1), (.int (p4 &&& (255 : Int32))), (.ref ci)])
    refine Go.dup 74 X150 hx (hb hby at_73) rfl rfl ?_
    refine Go.aload2 76 X150 hx (hb hby at_74) rfl rfl rfl ?_
    refine Go.aload2 78 X150 hx (hb hby at_76) rfl rfl rfl ?_
    have F162 : Exa Z h150 q0 "java/math/BigDecimal" := F155.ext E150
    have F163 : Exa Z h150 q1 "java/math/BigDecimal" := F157.ext E150
    have F164 : n0 ≤ h150.size := Nat.le_trans F151 E150.1
    obtain ⟨_, _, ⟨T165, L165, k165, n165⟩, -, X165, ⟨Lc165, hQ165, l165, y165, z165⟩, st165⟩ := X150.specialBack hx (y := (⟨"com/example/diligent_tariff/diligenttariff/billing/Comparison", "<init>", "(Ljava/math/BigDecimal;Ljava/math/BigDecimal;)V"⟩ : MethodName)) rfl hown (mvT hZ (ow hw 101 rfl)) (mvT hZ (ow hw 73 rfl)) (mvT hZ (ow hw 74 rfl)) (by decide) (backOf (W := 3) (rmCo l Z a0 hw [] c1 q0 q1 h150 n0 F164 A150 F_current_c1 F_proposed_c1 ge_c1 F162 F163) hZ (ow hw 74 rfl) (ow hw 71 rfl) (by decide) (by decide)) (g := (mkF m 78 #[iv p0, iv p1, iv p2, iv p3, iv p4, iv 2, rv q0, rv q1, rv q2, rv q3, rv ci, .val (.long (0 : Int64)), .second, .val (.long (0 : Int64)), .second, un] [(.ref q1), (.ref q0), (.ref c1), (.ref c1), (.int (p4 &&& (255 : Int32))), (.ref ci)])) rfl (by rw [hml]; rfl) (Steps.refl _) (a := c1) (argsL := [(.ref q0), (.ref q1)]) (rest := [(.ref c1), (.int (p4 &&& (255 : Int32))), (.ref ci)]) (lenOf pd_352 rfl) rfl (by show 2 * 0 + _ ≤ _; exact Nat.le_of_eq rfl) (hb hby at_78) (fun _ _ => ⟨rfl, e150, (by decide : 6 + 0 ≤ _), (by decide : 29 + 0 ≤ _)⟩)
    dsimp only [Pt.U, Pt.locs, Pt.cells, Pt.slots] at X165 l165 y165 z165 st165 hQ165
    subst l165 y165 z165
    obtain ⟨rfl, N165q, K165, Q165_0, Q165_1, Q165_2⟩ := hQ165
    have N165 := Fr.app N26 N165q
    refine Go.to st165 ?_
    show Go _ _ _ _ T165 (mkF m 81 #[iv p0, iv p1, iv p2, iv p3, iv p4, iv 2, rv q0, rv q1, rv q2, rv q3, rv ci, .val (.long (0 : Int64)), .second, .val (.long (0 : Int64)), .second, un] [(.ref c1), (.int (p4 &&& (255 : Int32))), (.ref ci)])
    have F166 : Old Z n0 T26.heap := F24.keep K26 (allS ge_ci all0)
    have F167 : Old Z n0 h150 := F166.ext E150
    have F168 : Old Z n0 T165.heap := F167.keep K165 (allS ge_c1 all0)
    have F169 : Exa Z h150 ci "com/example/diligent_tariff/diligenttariff/billing/ClassImpact" := Q26_0.ext E150
    have F170 : Exa Z T165.heap ci "com/example/diligent_tariff/diligenttariff/billing/ClassImpact" := F169.keep K165
    have F171 : Fld Z h150 ci "com/example/diligent_tariff/diligenttariff/billing/ClassImpact" "current" "Ljava/math/BigDecimal;" (.ref ze2) := Q26_1.ext E150
    have F172 : Fld Z T165.heap ci "com/example/diligent_tariff/diligenttariff/billing/ClassImpact" "current" "Ljava/math/BigDecimal;" (.ref ze2) := F171.keep K165 (ninS ne_ci_c1 nin0)
    have F173 : Fld Z h150 ci "com/example/diligent_tariff/diligenttariff/billing/ClassImpact" "proposed" "Ljava/math/BigDecimal;" (.ref ze2) := Q26_2.ext E150
    have F174 : Fld Z T165.heap ci "com/example/diligent_tariff/diligenttariff/billing/ClassImpact" "proposed" "Ljava/math/BigDecimal;" (.ref ze2) := F173.keep K165 (ninS ne_ci_c1 nin0)
    have F175 : Fld Z h150 ci "com/example/diligent_tariff/diligenttariff/billing/ClassImpact" "accounts" "I" (.int 0) := Q26_3.ext E150
    have F176 : Fld Z T165.heap ci "com/example/diligent_tariff/diligenttariff/billing/ClassImpact" "accounts" "I" (.int 0) := F175.keep K165 (ninS ne_ci_c1 nin0)
    have F177 : Fld Z h150 ci "com/example/diligent_tariff/diligenttariff/billing/ClassImpact" "bills" "J" (.long (0 : Int64)) := Q26_4.ext E150
    have F178 : Fld Z T165.heap ci "com/example/diligent_tariff/diligenttariff/billing/ClassImpact" "bills" "J" (.long (0 : Int64)) := F177.keep K165 (ninS ne_ci_c1 nin0)
    have F179 : Fld Z h150 ci "com/example/diligent_tariff/diligenttariff/billing/ClassImpact" "higher" "I" (.int 0) := Q26_5.ext E150
    have F180 : Fld Z T165.heap ci "com/example/diligent_tariff/diligenttariff/billing/ClassImpact" "higher" "I" (.int 0) := F179.keep K165 (ninS ne_ci_c1 nin0)
    have F181 : Fld Z h150 ci "com/example/diligent_tariff/diligenttariff/billing/ClassImpact" "unchanged" "I" (.int 0) := Q26_6.ext E150
    have F182 : Fld Z T165.heap ci "com/example/diligent_tariff/diligenttariff/billing/ClassImpact" "unchanged" "I" (.int 0) := F181.keep K165 (ninS ne_ci_c1 nin0)
    have F183 : Fld Z h150 ci "com/example/diligent_tariff/diligenttariff/billing/ClassImpact" "lower" "I" (.int 0) := Q26_7.ext E150
    have F184 : Fld Z T165.heap ci "com/example/diligent_tariff/diligenttariff/billing/ClassImpact" "lower" "I" (.int 0) := F183.keep K165 (ninS ne_ci_c1 nin0)
    have F185 : Exa Z T165.heap q0 "java/math/BigDecimal" := F162.keep K165
    have F186 : Fld Z T4.heap q0 "java/math/BigDecimal" "scale" "I" (.int 2) := Q1_1.keep K4 nin0
    have F187 : Fld Z T7.heap q0 "java/math/BigDecimal" "scale" "I" (.int 2) := F186.keep K7 nin0
    have F188 : Fld Z T10.heap q0 "java/math/BigDecimal" "scale" "I" (.int 2) := F187.keep K10 nin0
    have F189 : Fld Z h11 q0 "java/math/BigDecimal" "scale" "I" (.int 2) := F188.ext E11
    have F190 : Fld Z T26.heap q0 "java/math/BigDecimal" "scale" "I" (.int 2) := F189.keep K26 (ninS ne_q0_ci nin0)
    have F191 : Fld Z h150 q0 "java/math/BigDecimal" "scale" "I" (.int 2) := F190.ext E150
    have F192 : Fld Z T165.heap q0 "java/math/BigDecimal" "scale" "I" (.int 2) := F191.keep K165 (ninS ne_q0_c1 nin0)
    have F193 : Fld Z T4.heap q0 "java/math/BigDecimal" "intCompact" "J" (.long (p0.toInt64)) := Q1_2.keep K4 nin0
    have F194 : Fld Z T7.heap q0 "java/math/BigDecimal" "intCompact" "J" (.long (p0.toInt64)) := F193.keep K7 nin0
    have F195 : Fld Z T10.heap q0 "java/math/BigDecimal" "intCompact" "J" (.long (p0.toInt64)) := F194.keep K10 nin0
    have F196 : Fld Z h11 q0 "java/math/BigDecimal" "intCompact" "J" (.long (p0.toInt64)) := F195.ext E11
    have F197 : Fld Z T26.heap q0 "java/math/BigDecimal" "intCompact" "J" (.long (p0.toInt64)) := F196.keep K26 (ninS ne_q0_ci nin0)
    have F198 : Fld Z h150 q0 "java/math/BigDecimal" "intCompact" "J" (.long (p0.toInt64)) := F197.ext E150
    have F199 : Fld Z T165.heap q0 "java/math/BigDecimal" "intCompact" "J" (.long (p0.toInt64)) := F198.keep K165 (ninS ne_q0_c1 nin0)
    have F200 : Exa Z T165.heap q1 "java/math/BigDecimal" := F163.keep K165
    have F201 : Fld Z T7.heap q1 "java/math/BigDecimal" "scale" "I" (.int 2) := Q4_1.keep K7 nin0
    have F202 : Fld Z T10.heap q1 "java/math/BigDecimal" "scale" "I" (.int 2) := F201.keep K10 nin0
    have F203 : Fld Z h11 q1 "java/math/BigDecimal" "scale" "I" (.int 2) := F202.ext E11
    have F204 : Fld Z T26.heap q1 "java/math/BigDecimal" "scale" "I" (.int 2) := F203.keep K26 (ninS ne_q1_ci nin0)
    have F205 : Fld Z h150 q1 "java/math/BigDecimal" "scale" "I" (.int 2) := F204.ext E150
    have F206 : Fld Z T165.heap q1 "java/math/BigDecimal" "scale" "I" (.int 2) := F205.keep K165 (ninS ne_q1_c1 nin0)
    have F207 : Fld Z T7.heap q1 "java/math/BigDecimal" "intCompact" "J" (.long (p1.toInt64)) := Q4_2.keep K7 nin0
    have F208 : Fld Z T10.heap q1 "java/math/BigDecimal" "intCompact" "J" (.long (p1.toInt64)) := F207.keep K10 nin0
    have F209 : Fld Z h11 q1 "java/math/BigDecimal" "intCompact" "J" (.long (p1.toInt64)) := F208.ext E11
    have F210 : Fld Z T26.heap q1 "java/math/BigDecimal" "intCompact" "J" (.long (p1.toInt64)) := F209.keep K26 (ninS ne_q1_ci nin0)
    have F211 : Fld Z h150 q1 "java/math/BigDecimal" "intCompact" "J" (.long (p1.toInt64)) := F210.ext E150
    have F212 : Fld Z T165.heap q1 "java/math/BigDecimal" "intCompact" "J" (.long (p1.toInt64)) := F211.keep K165 (ninS ne_q1_c1 nin0)
    have F213 : Exa Z T165.heap ze2 "java/math/BigDecimal" := D6.ext F168.2
    have F214 : Fld Z T165.heap ze2 "java/math/BigDecimal" "scale" "I" (.int 2) := D7.ext F168.2
    have F215 : Fld Z T165.heap ze2 "java/math/BigDecimal" "intCompact" "J" (.long (0 : Int64)) := D8.ext F168.2
    have F216 : n0 ≤ T165.heap.size := Nat.le_trans F164 K165.1
    obtain ⟨cq217, kq217, q217a, q217b, q217c⟩ := isOf hZ rfl F170
    obtain ⟨_, _, ⟨T217, L217, k217, n217⟩, -, X217, ⟨Lc217, hQ217, l217, y217, z217⟩, st217⟩ := X165.virtualBack hx (y := (⟨"com/example/diligent_tariff/diligenttariff/billing/ClassImpact", "add", "(ILcom/example/diligent_tariff/diligenttariff/billing/Comparison;)V"⟩ : MethodName)) (z := (⟨"com/example/diligent_tariff/diligenttariff/billing/ClassImpact", "add", "(ILcom/example/diligent_tariff/diligenttariff/billing/Comparison;)V"⟩ : MethodName)) hown (mvT hZ (ow hw 102 rfl)) (mvT hZ (ow hw 103 rfl)) (notFace_of_selects (args := #[]) (mvT hZ (ow hw 105 rfl))) (mvT hZ (ow hw 105 rfl)) (mvT hZ (ow hw 104 rfl)) (by decide) (backOf (W := 0) (rmCiAdd l Z a0 hw [] ci (p4 &&& (255 : Int32)) c1 q0 q1 ze2 ze2 (p0.toInt64) (p1.toInt64) (0 : Int64) (0 : Int64) (0 : Int32) (0 : Int64) (0 : Int32) (0 : Int32) (0 : Int32) ze0 ze1 ze2 ze3 ze4 ze5 ze6 ze7 ze8 ze9 ze10 ze11 ze12 ze13 ze14 ze15 za kz T165.heap n0 F216 F168 F170 F172 F174 ge_ci Q165_0 F176 F178 F180 F182 F184 Q165_1 Q165_2 F185 F192 F199 F200 F206 F212 F213 F214 F215 F213 F214 F215 (own_bdI _) (own_bdI _) own_bd0 own_bd0 D0 D1 D2 D3 D4 D5 D6 D7 D8) hZ (ow hw 106 rfl) (ow hw 35 rfl) (by decide) (by decide)) q217a q217c (g := (mkF m 81 #[iv p0, iv p1, iv p2, iv p3, iv p4, iv 2, rv q0, rv q1, rv q2, rv q3, rv ci, .val (.long (0 : Int64)), .second, .val (.long (0 : Int64)), .second, un] [(.ref c1), (.int (p4 &&& (255 : Int32))), (.ref ci)])) rfl (by rw [hml]; rfl) (Steps.refl _) (argsL := [(.int (p4 &&& (255 : Int32))), (.ref c1)]) (rest := []) (lenOf pd_359 rfl) rfl (by show 2 * 0 + _ ≤ _; exact Nat.le_of_eq rfl) (hb hby at_81) (fun _ _ => ⟨rfl, rfl, (by decide : 6 + 3 ≤ _), (by decide : 29 + 15 ≤ _)⟩)
    dsimp only [Pt.U, Pt.locs, Pt.cells, Pt.slots] at X217 l217 y217 z217 st217 hQ217
    subst l217 y217 z217
    obtain ⟨d1_0, d2_0, mna_217, mnb_217, mnh_217, mnu_217, mnl_217, rfl, N217q, K217, Q217_0, Q217_1, Q217_2, Q217_3, Q217_4, Q217_5, Q217_6, Q217_7, Q217_8, Q217_9, Q217_10, Q217_11, Q217_12, Q217_13⟩ := hQ217
    have N217 := Fr.app N165 N217q
    refine Go.to st217 ?_
    show Go _ _ _ _ T217 (mkF m 84 #[iv p0, iv p1, iv p2, iv p3, iv p4, iv 2, rv q0, rv q1, rv q2, rv q3, rv ci, .val (.long (0 : Int64)), .second, .val (.long (0 : Int64)), .second, un] [])
    refine Go.lload2 86 X217 hx (hb hby at_84) rfl rfl ?_
    refine Go.iload1 87 X217 hx (hb hby at_86) rfl rfl ?_
    refine Go.i2l 88 X217 hx (hb hby at_87) rfl ?_
    refine Go.ladd 89 X217 hx (hb hby at_88) rfl ?_
    refine Go.lstore2 91 X217 hx (L' := #[iv p0, iv p1, iv p2, iv p3, iv p4, iv 2, rv q0, rv q1, rv q2, rv q3, rv ci, .val (.long ((0 : Int64) + (p0.toInt64))), .second, .val (.long (0 : Int64)), .second, un]) (hb hby at_89) rfl rfl ?_
    refine Go.lload2 93 X217 hx (hb hby at_91) rfl rfl ?_
    refine Go.iload1 94 X217 hx (hb hby at_93) rfl rfl ?_
    refine Go.i2l 95 X217 hx (hb hby at_94) rfl ?_
    refine Go.ladd 96 X217 hx (hb hby at_95) rfl ?_
    refine Go.lstore2 98 X217 hx (L' := #[iv p0, iv p1, iv p2, iv p3, iv p4, iv 2, rv q0, rv q1, rv q2, rv q3, rv ci, .val (.long ((0 : Int64) + (p0.toInt64))), .second, .val (.long ((0 : Int64) + (p1.toInt64))), .second, un]) (hb hby at_96) rfl rfl ?_
    refine Go.iload2 100 X217 hx (hb hby at_98) rfl rfl ?_
    refine Go.iconst 101 X217 hx (2 : Int32) (hb hby at_100) (by decide) rfl ?_
    refine Go.icmpN 104 X217 hx (hb hby at_101) (XT.ii_lt_f (by decide)) rfl ?_
    refine Go.aload2 106 X217 hx (hb hby at_104) rfl rfl rfl ?_
    refine Go.iload2 108 X217 hx (hb hby at_106) rfl rfl ?_
    refine Go.bipush 110 X217 hx (8 : Int32) (hb hby at_108) (by decide) rfl ?_
    refine Go.iushr 111 X217 hx (hb hby at_110) rfl ?_
    refine Go.sipush 114 X217 hx (255 : Int32) (hb hby at_111) (by decide) rfl ?_
    refine Go.iand 115 X217 hx (hb hby at_114) rfl ?_
    have F219 : n0 ≤ T217.heap.size := Nat.le_trans F216 K217.1
    obtain ⟨c2, g218⟩ : ∃ z, z = T217.heap.size := ⟨_, rfl⟩
    have ge_c2 : n0 ≤ c2 := Nat.le_trans F219 (Nat.le_of_eq g218.symm)
    have F220 : Keep h0 h150 [] := F153.ext E150
    have F221 : Keep h0 T165.heap [] := F220.trans K165 (allS (Or.inr sz_c1) all0)
    have F222 : Keep h0 T217.heap [] := F221.trans K217 (allS (Or.inr sz_ci) all0)
    have sz_c2 : h0.size ≤ c2 := Nat.le_trans F222.1 (Nat.le_of_eq g218.symm)
    have F223 : Exa Z T217.heap c1 "com/example/diligent_tariff/diligenttariff/billing/Comparison" := Q165_0.keep K217
    have ne_c1_c2 : c1 ≠ c2 := Nat.ne_of_lt (Nat.lt_of_lt_of_le F223.lt (Nat.le_of_eq g218.symm))
    have ne_ci_c2 : ci ≠ c2 := Nat.ne_of_lt (Nat.lt_of_lt_of_le Q217_0.lt (Nat.le_of_eq g218.symm))
    have ne_d1_0_c2 : d1_0 ≠ c2 := Nat.ne_of_lt (Nat.lt_of_lt_of_le Q217_8.lt (Nat.le_of_eq g218.symm))
    have ne_d2_0_c2 : d2_0 ≠ c2 := Nat.ne_of_lt (Nat.lt_of_lt_of_le Q217_11.lt (Nat.le_of_eq g218.symm))
    have F224 : Exa Z T217.heap q0 "java/math/BigDecimal" := F185.keep K217
    have ne_q0_c2 : q0 ≠ c2 := Nat.ne_of_lt (Nat.lt_of_lt_of_le F224.lt (Nat.le_of_eq g218.symm))
    have F225 : Exa Z T217.heap q1 "java/math/BigDecimal" := F200.keep K217
    have ne_q1_c2 : q1 ≠ c2 := Nat.ne_of_lt (Nat.lt_of_lt_of_le F225.lt (Nat.le_of_eq g218.symm))
    have F226 : Exa Z h150 q2 "java/math/BigDecimal" := F159.ext E150
    have F227 : Exa Z T165.heap q2 "java/math/BigDecimal" := F226.keep K165
    have F228 : Exa Z T217.heap q2 "java/math/BigDecimal" := F227.keep K217
    have ne_q2_c2 : q2 ≠ c2 := Nat.ne_of_lt (Nat.lt_of_lt_of_le F228.lt (Nat.le_of_eq g218.symm))
    have F229 : Exa Z h150 q3 "java/math/BigDecimal" := F161.ext E150
    have F230 : Exa Z T165.heap q3 "java/math/BigDecimal" := F229.keep K165
    have F231 : Exa Z T217.heap q3 "java/math/BigDecimal" := F230.keep K217
    have ne_q3_c2 : q3 ≠ c2 := Nat.ne_of_lt (Nat.lt_of_lt_of_le F231.lt (Nat.le_of_eq g218.symm))
    obtain ⟨T218, h218, X218, e218, E218, A218, D218, -, st218⟩ := newO X217 hx hZ hown (ow hw 100 rfl) (ow hw 70 rfl) (ow hw 71 rfl) rfl (g := (mkF m 115 #[iv p0, iv p1, iv p2, iv p3, iv p4, iv 2, rv q0, rv q1, rv q2, rv q3, rv ci, .val (.long ((0 : Int64) + (p0.toInt64))), .second, .val (.long ((0 : Int64) + (p1.toInt64))), .second, un] [(.int ((XT.ushr p4 (8 : Int32)) &&& (255 : Int32))), (.ref ci)])) rfl (hb hby at_115) (by decide) (by decide)
    rw [← g218] at A218 D218 st218
    have F_current_c2 : Fld Z h218 c2 "com/example/diligent_tariff/diligenttariff/billing/Comparison" "current" "Ljava/math/BigDecimal;" .null := D218 (Or.inr (ow hw 82 rfl)) (ty := (.object "java/math/BigDecimal")) (by decide)
    have F_proposed_c2 : Fld Z h218 c2 "com/example/diligent_tariff/diligenttariff/billing/Comparison" "proposed" "Ljava/math/BigDecimal;" .null := D218 (Or.inr (ow hw 84 rfl)) (ty := (.object "java/math/BigDecimal")) (by decide)
    refine Go.by st218 ?_
    show Go _ _ _ _ T218 (mkF m 118 #[iv p0, iv p1, iv p2, iv p3, iv p4, iv 2, rv q0, rv q1, rv q2, rv q3, rv ci, .val (.long ((0 : Int64) + (p0.toInt64))), .second, .val (.long ((0 : Int64) + (p1.toInt64))), .second, un] [(.ref c2), (.int ((XT.ushr p4 (8 : Int32)) &&& (255 : Int32))), (.ref ci)])
    refine Go.dup 119 X218 hx (hb hby at_118) rfl rfl ?_
    refine Go.aload2 121 X218 hx (hb hby at_119) rfl rfl rfl ?_
    refine Go.aload2 123 X218 hx (hb hby at_121) rfl rfl rfl ?_
    have F232 : Exa Z h218 q2 "java/math/BigDecimal" := F228.ext E218
    have F233 : Exa Z h218 q3 "java/math/BigDecimal" := F231.ext E218
    have F234 : n0 ≤ h218.size := Nat.le_trans F219 E218.1
    obtain ⟨_, _, ⟨T235, L235, k235, n235⟩, -, X235, ⟨Lc235, hQ235, l235, y235, z235⟩, st235⟩ := X218.specialBack hx (y := (⟨"com/example/diligent_tariff/diligenttariff/billing/Comparison", "<init>", "(Ljava/math/BigDecimal;Ljava/math/BigDecimal;)V"⟩ : MethodName)) rfl hown (mvT hZ (ow hw 101 rfl)) (mvT hZ (ow hw 73 rfl)) (mvT hZ (ow hw 74 rfl)) (by decide) (backOf (W := 3) (rmCo l Z a0 hw [] c2 q2 q3 h218 n0 F234 A218 F_current_c2 F_proposed_c2 ge_c2 F232 F233) hZ (ow hw 74 rfl) (ow hw 71 rfl) (by decide) (by decide)) (g := (mkF m 123 #[iv p0, iv p1, iv p2, iv p3, iv p4, iv 2, rv q0, rv q1, rv q2, rv q3, rv ci, .val (.long ((0 : Int64) + (p0.toInt64))), .second, .val (.long ((0 : Int64) + (p1.toInt64))), .second, un] [(.ref q3), (.ref q2), (.ref c2), (.ref c2), (.int ((XT.ushr p4 (8 : Int32)) &&& (255 : Int32))), (.ref ci)])) rfl (by rw [hml]; rfl) (Steps.refl _) (a := c2) (argsL := [(.ref q2), (.ref q3)]) (rest := [(.ref c2), (.int ((XT.ushr p4 (8 : Int32)) &&& (255 : Int32))), (.ref ci)]) (lenOf pd_352 rfl) rfl (by show 2 * 0 + _ ≤ _; exact Nat.le_of_eq rfl) (hb hby at_123) (fun _ _ => ⟨rfl, e218, (by decide : 10 + 0 ≤ _), (by decide : 46 + 0 ≤ _)⟩)
    dsimp only [Pt.U, Pt.locs, Pt.cells, Pt.slots] at X235 l235 y235 z235 st235 hQ235
    subst l235 y235 z235
    obtain ⟨rfl, N235q, K235, Q235_0, Q235_1, Q235_2⟩ := hQ235
    have N235 := Fr.app N217 N235q
    refine Go.to st235 ?_
    show Go _ _ _ _ T235 (mkF m 126 #[iv p0, iv p1, iv p2, iv p3, iv p4, iv 2, rv q0, rv q1, rv q2, rv q3, rv ci, .val (.long ((0 : Int64) + (p0.toInt64))), .second, .val (.long ((0 : Int64) + (p1.toInt64))), .second, un] [(.ref c2), (.int ((XT.ushr p4 (8 : Int32)) &&& (255 : Int32))), (.ref ci)])
    have F236 : Old Z n0 T217.heap := F168.keep K217 (allS ge_ci all0)
    have F237 : Old Z n0 h218 := F236.ext E218
    have F238 : Old Z n0 T235.heap := F237.keep K235 (allS ge_c2 all0)
    have F239 : Exa Z h218 ci "com/example/diligent_tariff/diligenttariff/billing/ClassImpact" := Q217_0.ext E218
    have F240 : Exa Z T235.heap ci "com/example/diligent_tariff/diligenttariff/billing/ClassImpact" := F239.keep K235
    have F241 : Fld Z h218 ci "com/example/diligent_tariff/diligenttariff/billing/ClassImpact" "current" "Ljava/math/BigDecimal;" (.ref d1_0) := Q217_1.ext E218
    have F242 : Fld Z T235.heap ci "com/example/diligent_tariff/diligenttariff/billing/ClassImpact" "current" "Ljava/math/BigDecimal;" (.ref d1_0) := F241.keep K235 (ninS ne_ci_c2 nin0)
    have F243 : Fld Z h218 ci "com/example/diligent_tariff/diligenttariff/billing/ClassImpact" "proposed" "Ljava/math/BigDecimal;" (.ref d2_0) := Q217_2.ext E218
    have F244 : Fld Z T235.heap ci "com/example/diligent_tariff/diligenttariff/billing/ClassImpact" "proposed" "Ljava/math/BigDecimal;" (.ref d2_0) := F243.keep K235 (ninS ne_ci_c2 nin0)
    have F245 : Fld Z h218 ci "com/example/diligent_tariff/diligenttariff/billing/ClassImpact" "accounts" "I" (.int mna_217) := Q217_3.ext E218
    have F246 : Fld Z T235.heap ci "com/example/diligent_tariff/diligenttariff/billing/ClassImpact" "accounts" "I" (.int mna_217) := F245.keep K235 (ninS ne_ci_c2 nin0)
    have F247 : Fld Z h218 ci "com/example/diligent_tariff/diligenttariff/billing/ClassImpact" "bills" "J" (.long mnb_217) := Q217_4.ext E218
    have F248 : Fld Z T235.heap ci "com/example/diligent_tariff/diligenttariff/billing/ClassImpact" "bills" "J" (.long mnb_217) := F247.keep K235 (ninS ne_ci_c2 nin0)
    have F249 : Fld Z h218 ci "com/example/diligent_tariff/diligenttariff/billing/ClassImpact" "higher" "I" (.int mnh_217) := Q217_5.ext E218
    have F250 : Fld Z T235.heap ci "com/example/diligent_tariff/diligenttariff/billing/ClassImpact" "higher" "I" (.int mnh_217) := F249.keep K235 (ninS ne_ci_c2 nin0)
    have F251 : Fld Z h218 ci "com/example/diligent_tariff/diligenttariff/billing/ClassImpact" "unchanged" "I" (.int mnu_217) := Q217_6.ext E218
    have F252 : Fld Z T235.heap ci "com/example/diligent_tariff/diligenttariff/billing/ClassImpact" "unchanged" "I" (.int mnu_217) := F251.keep K235 (ninS ne_ci_c2 nin0)
    have F253 : Fld Z h218 ci "com/example/diligent_tariff/diligenttariff/billing/ClassImpact" "lower" "I" (.int mnl_217) := Q217_7.ext E218
    have F254 : Fld Z T235.heap ci "com/example/diligent_tariff/diligenttariff/billing/ClassImpact" "lower" "I" (.int mnl_217) := F253.keep K235 (ninS ne_ci_c2 nin0)
    have F255 : Exa Z T235.heap q2 "java/math/BigDecimal" := F232.keep K235
    have F256 : Fld Z T10.heap q2 "java/math/BigDecimal" "scale" "I" (.int 2) := Q7_1.keep K10 nin0
    have F257 : Fld Z h11 q2 "java/math/BigDecimal" "scale" "I" (.int 2) := F256.ext E11
    have F258 : Fld Z T26.heap q2 "java/math/BigDecimal" "scale" "I" (.int 2) := F257.keep K26 (ninS ne_q2_ci nin0)
    have F259 : Fld Z h150 q2 "java/math/BigDecimal" "scale" "I" (.int 2) := F258.ext E150
    have F260 : Fld Z T165.heap q2 "java/math/BigDecimal" "scale" "I" (.int 2) := F259.keep K165 (ninS ne_q2_c1 nin0)
    have F261 : Fld Z T217.heap q2 "java/math/BigDecimal" "scale" "I" (.int 2) := F260.keep K217 (ninS ne_q2_ci nin0)
    have F262 : Fld Z h218 q2 "java/math/BigDecimal" "scale" "I" (.int 2) := F261.ext E218
    have F263 : Fld Z T235.heap q2 "java/math/BigDecimal" "scale" "I" (.int 2) := F262.keep K235 (ninS ne_q2_c2 nin0)
    have F264 : Fld Z T10.heap q2 "java/math/BigDecimal" "intCompact" "J" (.long (p2.toInt64)) := Q7_2.keep K10 nin0
    have F265 : Fld Z h11 q2 "java/math/BigDecimal" "intCompact" "J" (.long (p2.toInt64)) := F264.ext E11
    have F266 : Fld Z T26.heap q2 "java/math/BigDecimal" "intCompact" "J" (.long (p2.toInt64)) := F265.keep K26 (ninS ne_q2_ci nin0)
    have F267 : Fld Z h150 q2 "java/math/BigDecimal" "intCompact" "J" (.long (p2.toInt64)) := F266.ext E150
    have F268 : Fld Z T165.heap q2 "java/math/BigDecimal" "intCompact" "J" (.long (p2.toInt64)) := F267.keep K165 (ninS ne_q2_c1 nin0)
    have F269 : Fld Z T217.heap q2 "java/math/BigDecimal" "intCompact" "J" (.long (p2.toInt64)) := F268.keep K217 (ninS ne_q2_ci nin0)
    have F270 : Fld Z h218 q2 "java/math/BigDecimal" "intCompact" "J" (.long (p2.toInt64)) := F269.ext E218
    have F271 : Fld Z T235.heap q2 "java/math/BigDecimal" "intCompact" "J" (.long (p2.toInt64)) := F270.keep K235 (ninS ne_q2_c2 nin0)
    have F272 : Exa Z T235.heap q3 "java/math/BigDecimal" := F233.keep K235
    have F273 : Fld Z h11 q3 "java/math/BigDecimal" "scale" "I" (.int 2) := Q10_1.ext E11
    have F274 : Fld Z T26.heap q3 "java/math/BigDecimal" "scale" "I" (.int 2) := F273.keep K26 (ninS ne_q3_ci nin0)
    have F275 : Fld Z h150 q3 "java/math/BigDecimal" "scale" "I" (.int 2) := F274.ext E150
    have F276 : Fld Z T165.heap q3 "java/math/BigDecimal" "scale" "I" (.int 2) := F275.keep K165 (ninS ne_q3_c1 nin0)
    have F277 : Fld Z T217.heap q3 "java/math/BigDecimal" "scale" "I" (.int 2) := F276.keep K217 (ninS ne_q3_ci nin0)
    have F278 : Fld Z h218 q3 "java/math/BigDecimal" "scale" "I" (.int 2) := F277.ext E218
    have F279 : Fld Z T235.heap q3 "java/math/BigDecimal" "scale" "I" (.int 2) := F278.keep K235 (ninS ne_q3_c2 nin0)
    have F280 : Fld Z h11 q3 "java/math/BigDecimal" "intCompact" "J" (.long (p3.toInt64)) := Q10_2.ext E11
    have F281 : Fld Z T26.heap q3 "java/math/BigDecimal" "intCompact" "J" (.long (p3.toInt64)) := F280.keep K26 (ninS ne_q3_ci nin0)
    have F282 : Fld Z h150 q3 "java/math/BigDecimal" "intCompact" "J" (.long (p3.toInt64)) := F281.ext E150
    have F283 : Fld Z T165.heap q3 "java/math/BigDecimal" "intCompact" "J" (.long (p3.toInt64)) := F282.keep K165 (ninS ne_q3_c1 nin0)
    have F284 : Fld Z T217.heap q3 "java/math/BigDecimal" "intCompact" "J" (.long (p3.toInt64)) := F283.keep K217 (ninS ne_q3_ci nin0)
    have F285 : Fld Z h218 q3 "java/math/BigDecimal" "intCompact" "J" (.long (p3.toInt64)) := F284.ext E218
    have F286 : Fld Z T235.heap q3 "java/math/BigDecimal" "intCompact" "J" (.long (p3.toInt64)) := F285.keep K235 (ninS ne_q3_c2 nin0)
    have F287 : Exa Z h218 d1_0 "java/math/BigDecimal" := Q217_8.ext E218
    have F288 : Exa Z T235.heap d1_0 "java/math/BigDecimal" := F287.keep K235
    have F289 : Fld Z h218 d1_0 "java/math/BigDecimal" "scale" "I" (.int 2) := Q217_9.ext E218
    have F290 : Fld Z T235.heap d1_0 "java/math/BigDecimal" "scale" "I" (.int 2) := F289.keep K235 (ninS ne_d1_0_c2 nin0)
    have F291 : Fld Z h218 d1_0 "java/math/BigDecimal" "intCompact" "J" (.long ((0 : Int64) + (p0.toInt64))) := Q217_10.ext E218
    have F292 : Fld Z T235.heap d1_0 "java/math/BigDecimal" "intCompact" "J" (.long ((0 : Int64) + (p0.toInt64))) := F291.keep K235 (ninS ne_d1_0_c2 nin0)
    have F293 : Exa Z h218 d2_0 "java/math/BigDecimal" := Q217_11.ext E218
    have F294 : Exa Z T235.heap d2_0 "java/math/BigDecimal" := F293.keep K235
    have F295 : Fld Z h218 d2_0 "java/math/BigDecimal" "scale" "I" (.int 2) := Q217_12.ext E218
    have F296 : Fld Z T235.heap d2_0 "java/math/BigDecimal" "scale" "I" (.int 2) := F295.keep K235 (ninS ne_d2_0_c2 nin0)
    have F297 : Fld Z h218 d2_0 "java/math/BigDecimal" "intCompact" "J" (.long ((0 : Int64) + (p1.toInt64))) := Q217_13.ext E218
    have F298 : Fld Z T235.heap d2_0 "java/math/BigDecimal" "intCompact" "J" (.long ((0 : Int64) + (p1.toInt64))) := F297.keep K235 (ninS ne_d2_0_c2 nin0)
    have F299 : n0 ≤ T235.heap.size := Nat.le_trans F234 K235.1
    obtain ⟨cq300, kq300, q300a, q300b, q300c⟩ := isOf hZ rfl F240
    obtain ⟨_, _, ⟨T300, L300, k300, n300⟩, -, X300, ⟨Lc300, hQ300, l300, y300, z300⟩, st300⟩ := X235.virtualBack hx (y := (⟨"com/example/diligent_tariff/diligenttariff/billing/ClassImpact", "add", "(ILcom/example/diligent_tariff/diligenttariff/billing/Comparison;)V"⟩ : MethodName)) (z := (⟨"com/example/diligent_tariff/diligenttariff/billing/ClassImpact", "add", "(ILcom/example/diligent_tariff/diligenttariff/billing/Comparison;)V"⟩ : MethodName)) hown (mvT hZ (ow hw 102 rfl)) (mvT hZ (ow hw 103 rfl)) (notFace_of_selects (args := #[]) (mvT hZ (ow hw 105 rfl))) (mvT hZ (ow hw 105 rfl)) (mvT hZ (ow hw 104 rfl)) (by decide) (backOf (W := 0) (rmCiAdd l Z a0 hw [] ci ((XT.ushr p4 (8 : Int32)) &&& (255 : Int32)) c2 q2 q3 d1_0 d2_0 (p2.toInt64) (p3.toInt64) ((0 : Int64) + (p0.toInt64)) ((0 : Int64) + (p1.toInt64)) mna_217 mnb_217 mnh_217 mnu_217 mnl_217 ze0 ze1 ze2 ze3 ze4 ze5 ze6 ze7 ze8 ze9 ze10 ze11 ze12 ze13 ze14 ze15 za kz T235.heap n0 F299 F238 F240 F242 F244 ge_ci Q235_0 F246 F248 F250 F252 F254 Q235_1 Q235_2 F255 F263 F271 F272 F279 F286 F288 F290 F292 F294 F296 F298 (own_bdI _) (own_bdI _) (own_bdA _) (own_bdA _) D0 D1 D2 D3 D4 D5 D6 D7 D8) hZ (ow hw 106 rfl) (ow hw 35 rfl) (by decide) (by decide)) q300a q300c (g := (mkF m 126 #[iv p0, iv p1, iv p2, iv p3, iv p4, iv 2, rv q0, rv q1, rv q2, rv q3, rv ci, .val (.long ((0 : Int64) + (p0.toInt64))), .second, .val (.long ((0 : Int64) + (p1.toInt64))), .second, un] [(.ref c2), (.int ((XT.ushr p4 (8 : Int32)) &&& (255 : Int32))), (.ref ci)])) rfl (by rw [hml]; rfl) (Steps.refl _) (argsL := [(.int ((XT.ushr p4 (8 : Int32)) &&& (255 : Int32))), (.ref c2)]) (rest := []) (lenOf pd_359 rfl) rfl (by show 2 * 0 + _ ≤ _; exact Nat.le_of_eq rfl) (hb hby at_126) (fun _ _ => ⟨rfl, rfl, (by decide : 10 + 3 ≤ _), (by decide : 46 + 15 ≤ _)⟩)
    dsimp only [Pt.U, Pt.locs, Pt.cells, Pt.slots] at X300 l300 y300 z300 st300 hQ300
    subst l300 y300 z300
    obtain ⟨d1_1, d2_1, mna_300, mnb_300, mnh_300, mnu_300, mnl_300, rfl, N300q, K300, Q300_0, Q300_1, Q300_2, Q300_3, Q300_4, Q300_5, Q300_6, Q300_7, Q300_8, Q300_9, Q300_10, Q300_11, Q300_12, Q300_13⟩ := hQ300
    have N300 := Fr.app N235 N300q
    refine Go.to st300 ?_
    show Go _ _ _ _ T300 (mkF m 129 #[iv p0, iv p1, iv p2, iv p3, iv p4, iv 2, rv q0, rv q1, rv q2, rv q3, rv ci, .val (.long ((0 : Int64) + (p0.toInt64))), .second, .val (.long ((0 : Int64) + (p1.toInt64))), .second, un] [])
    refine Go.lload2 131 X300 hx (hb hby at_129) rfl rfl ?_
    refine Go.iload1 132 X300 hx (hb hby at_131) rfl rfl ?_
    refine Go.i2l 133 X300 hx (hb hby at_132) rfl ?_
    refine Go.ladd 134 X300 hx (hb hby at_133) rfl ?_
    refine Go.lstore2 136 X300 hx (L' := #[iv p0, iv p1, iv p2, iv p3, iv p4, iv 2, rv q0, rv q1, rv q2, rv q3, rv ci, .val (.long (((0 : Int64) + (p0.toInt64)) + (p2.toInt64))), .second, .val (.long ((0 : Int64) + (p1.toInt64))), .second, un]) (hb hby at_134) rfl rfl ?_
    refine Go.lload2 138 X300 hx (hb hby at_136) rfl rfl ?_
    refine Go.iload1 139 X300 hx (hb hby at_138) rfl rfl ?_
    refine Go.i2l 140 X300 hx (hb hby at_139) rfl ?_
    refine Go.ladd 141 X300 hx (hb hby at_140) rfl ?_
    refine Go.lstore2 143 X300 hx (L' := #[iv p0, iv p1, iv p2, iv p3, iv p4, iv 2, rv q0, rv q1, rv q2, rv q3, rv ci, .val (.long (((0 : Int64) + (p0.toInt64)) + (p2.toInt64))), .second, .val (.long (((0 : Int64) + (p1.toInt64)) + (p3.toInt64))), .second, un]) (hb hby at_141) rfl rfl ?_
    refine Go.aload2 145 X300 hx (hb hby at_143) rfl rfl rfl ?_
    have F301 : n0 ≤ T300.heap.size := Nat.le_trans F299 K300.1
    obtain ⟨cq302, kq302, q302a, q302b, q302c⟩ := isOf hZ rfl Q300_0
    obtain ⟨_, _, ⟨T302, L302, k302, n302⟩, -, X302, ⟨Lc302, hQ302, l302, y302, z302⟩, st302⟩ := X300.virtualBack hx (y := (⟨"com/example/diligent_tariff/diligenttariff/billing/ClassImpact", "getComparison", "()Lcom/example/diligent_tariff/diligenttariff/billing/Comparison;"⟩ : MethodName)) (z := (⟨"com/example/diligent_tariff/diligenttariff/billing/ClassImpact", "getComparison", "()Lcom/example/diligent_tariff/diligenttariff/billing/Comparison;"⟩ : MethodName)) hown (mvT hZ (ow hw 64 rfl)) (mvT hZ (ow hw 65 rfl)) (notFace_of_selects (args := #[]) (mvT hZ (ow hw 67 rfl))) (mvT hZ (ow hw 67 rfl)) (mvT hZ (ow hw 66 rfl)) (by decide) (backOf (W := 0) (rmCiGet l Z a0 hw [] ci d1_1 d2_1 T300.heap n0 F301 Q300_1 Q300_2 Q300_8 Q300_11) hZ (ow hw 68 rfl) (ow hw 35 rfl) (by decide) (by decide)) q302a q302c (g := (mkF m 145 #[iv p0, iv p1, iv p2, iv p3, iv p4, iv 2, rv q0, rv q1, rv q2, rv q3, rv ci, .val (.long (((0 : Int64) + (p0.toInt64)) + (p2.toInt64))), .second, .val (.long (((0 : Int64) + (p1.toInt64)) + (p3.toInt64))), .second, un] [(.ref ci)])) rfl (by rw [hml]; rfl) (Steps.refl _) (argsL := []) (rest := []) (lenOf pd_357 rfl) rfl (by show 2 * 0 + _ ≤ _; exact Nat.le_of_eq rfl) (hb hby at_145) (fun _ _ => ⟨rfl, rfl, (by decide : 13 + 1 ≤ _), (by decide : 61 + 2 ≤ _)⟩)
    dsimp only [Pt.U, Pt.locs, Pt.cells, Pt.slots] at X302 l302 y302 z302 st302 hQ302
    subst l302 y302 z302
    obtain ⟨cg, rfl, N302q, K302, Q302_0, Q302_1, Q302_2⟩ := hQ302
    have N302 := Fr.app N300 N302q
    refine Go.to st302 ?_
    show Go _ _ _ _ T302 (mkF m 148 #[iv p0, iv p1, iv p2, iv p3, iv p4, iv 2, rv q0, rv q1, rv q2, rv q3, rv ci, .val (.long (((0 : Int64) + (p0.toInt64)) + (p2.toInt64))), .second, .val (.long (((0 : Int64) + (p1.toInt64)) + (p3.toInt64))), .second, un] [(.ref cg)])
    refine Go.astore2 150 X302 hx (L' := #[iv p0, iv p1, iv p2, iv p3, iv p4, iv 2, rv q0, rv q1, rv q2, rv q3, rv ci, .val (.long (((0 : Int64) + (p0.toInt64)) + (p2.toInt64))), .second, .val (.long (((0 : Int64) + (p1.toInt64)) + (p3.toInt64))), .second, rv cg]) (hb hby at_148) rfl rfl rfl ?_
    refine Go.aload2 152 X302 hx (hb hby at_150) rfl rfl rfl ?_
    have F303 : n0 ≤ T302.heap.size := Nat.le_trans F301 K302.1
    obtain ⟨cq304, kq304, q304a, q304b, q304c⟩ := isOf hZ rfl Q302_0
    obtain ⟨_, _, ⟨T304, L304, k304, n304⟩, -, X304, ⟨Lc304, hQ304, l304, y304, z304⟩, st304⟩ := X302.virtualBack hx (y := (⟨"com/example/diligent_tariff/diligenttariff/billing/Comparison", "getCurrent", "()Ljava/math/BigDecimal;"⟩ : MethodName)) (z := (⟨"com/example/diligent_tariff/diligenttariff/billing/Comparison", "getCurrent", "()Ljava/math/BigDecimal;"⟩ : MethodName)) hown (mvT hZ (ow hw 85 rfl)) (mvT hZ (ow hw 86 rfl)) (notFace_of_selects (args := #[]) (mvT hZ (ow hw 88 rfl))) (mvT hZ (ow hw 88 rfl)) (mvT hZ (ow hw 87 rfl)) (by decide) (backOf (W := 0) (rmGc l Z a0 hw [] cg d1_1 T302.heap n0 F303 Q302_1) hZ (ow hw 89 rfl) (ow hw 71 rfl) (by decide) (by decide)) q304a q304c (g := (mkF m 152 #[iv p0, iv p1, iv p2, iv p3, iv p4, iv 2, rv q0, rv q1, rv q2, rv q3, rv ci, .val (.long (((0 : Int64) + (p0.toInt64)) + (p2.toInt64))), .second, .val (.long (((0 : Int64) + (p1.toInt64)) + (p3.toInt64))), .second, rv cg] [(.ref cg)])) rfl (by rw [hml]; rfl) (Steps.refl _) (argsL := []) (rest := []) (lenOf pd_290 rfl) rfl (by show 2 * 0 + _ ≤ _; exact Nat.le_of_eq rfl) (hb hby at_152) (fun _ _ => ⟨rfl, rfl, (by decide : 14 + 0 ≤ _), (by decide : 63 + 0 ≤ _)⟩)
    dsimp only [Pt.U, Pt.locs, Pt.cells, Pt.slots] at X304 l304 y304 z304 st304 hQ304
    subst l304 y304 z304
    obtain ⟨rfl, N304q, e304⟩ := hQ304
    have N304 := Fr.app N302 N304q
    refine Go.to st304 ?_
    show Go _ _ _ _ T304 (mkF m 155 #[iv p0, iv p1, iv p2, iv p3, iv p4, iv 2, rv q0, rv q1, rv q2, rv q3, rv ci, .val (.long (((0 : Int64) + (p0.toInt64)) + (p2.toInt64))), .second, .val (.long (((0 : Int64) + (p1.toInt64)) + (p3.toInt64))), .second, rv cg] [(.ref d1_1)])
    refine Go.lload2 157 X304 hx (hb hby at_155) rfl rfl ?_
    refine Go.iconst 158 X304 hx (2 : Int32) (hb hby at_157) (by decide) rfl ?_
    have F305 : Old Z n0 T300.heap := F238.keep K300 (allS ge_ci all0)
    have F306 : Old Z n0 T302.heap := F305.keep K302 all0
    obtain ⟨_, _, ⟨T307, L307, k307, n307⟩, -, X307, ⟨Lc307, hQ307, l307, y307, z307⟩, st307⟩ := Jvm.LawKit.callS X304 hx (y := (⟨"java/math/BigDecimal", "valueOf", "(JI)Ljava/math/BigDecimal;"⟩ : MethodName)) hown (mvT hZ (ow hw 1 rfl)) (mvT hZ (ow hw 2 rfl)) (mvT hZ (ow hw 3 rfl)) (mvT hZ (ow hw 4 rfl)) (by decide) (backOf (W := 1) (rmVal l Z a0 hw [] (((0 : Int64) + (p0.toInt64)) + (p2.toInt64)) ze0 ze1 ze2 ze3 ze4 ze5 ze6 ze7 ze8 ze9 ze10 ze11 ze12 ze13 ze14 ze15 za kz T302.heap n0 F303 F306 (own_minS (own_bdA _) (own_bdI _)) D0 D1 D2 D3 D4 D5 D6 D7 D8) hZ (ow hw 4 rfl) (ow hw 3 rfl) (by decide) (by decide)) (g := (mkF m 158 #[iv p0, iv p1, iv p2, iv p3, iv p4, iv 2, rv q0, rv q1, rv q2, rv q3, rv ci, .val (.long (((0 : Int64) + (p0.toInt64)) + (p2.toInt64))), .second, .val (.long (((0 : Int64) + (p1.toInt64)) + (p3.toInt64))), .second, rv cg] [(.int 2), (.long (((0 : Int64) + (p0.toInt64)) + (p2.toInt64))), (.ref d1_1)])) rfl (by rw [hml]; rfl) (argsL := [(.long (((0 : Int64) + (p0.toInt64)) + (p2.toInt64))), (.int 2)]) (rest := [(.ref d1_1)]) (lenOf pd_138 rfl) rfl (by show 2 * 0 + _ ≤ _; exact Nat.le_of_eq rfl) (hb hby at_158) (fun _ _ => ⟨rfl, e304, (by decide : 14 + 1 ≤ _), (by decide : 63 + 5 ≤ _)⟩)
    dsimp only [Pt.U, Pt.locs, Pt.cells, Pt.slots] at X307 l307 y307 z307 st307 hQ307
    subst l307 y307 z307
    obtain ⟨ermGc, rfl, N307q, K307, Q307_0, Q307_1, Q307_2⟩ := hQ307
    have N307 := Fr.app N304 N307q
    refine Go.by st307 ?_
    show Go _ _ _ _ T307 (mkF m 161 #[iv p0, iv p1, iv p2, iv p3, iv p4, iv 2, rv q0, rv q1, rv q2, rv q3, rv ci, .val (.long (((0 : Int64) + (p0.toInt64)) + (p2.toInt64))), .second, .val (.long (((0 : Int64) + (p1.toInt64)) + (p3.toInt64))), .second, rv cg] [(.ref ermGc), (.ref d1_1)])
    have F308 : Exa Z T302.heap d1_1 "java/math/BigDecimal" := Q300_8.keep K302
    have F309 : Exa Z T307.heap d1_1 "java/math/BigDecimal" := F308.keep K307
    have F310 : Fld Z T302.heap d1_1 "java/math/BigDecimal" "scale" "I" (.int 2) := Q300_9.keep K302 nin0
    have F311 : Fld Z T307.heap d1_1 "java/math/BigDecimal" "scale" "I" (.int 2) := F310.keep K307 nin0
    have F312 : Fld Z T302.heap d1_1 "java/math/BigDecimal" "intCompact" "J" (.long (((0 : Int64) + (p0.toInt64)) + (p2.toInt64))) := Q300_10.keep K302 nin0
    have F313 : Fld Z T307.heap d1_1 "java/math/BigDecimal" "intCompact" "J" (.long (((0 : Int64) + (p0.toInt64)) + (p2.toInt64))) := F312.keep K307 nin0
    have F314 : n0 ≤ T307.heap.size := Nat.le_trans F303 K307.1
    obtain ⟨cq315, kq315, q315a, q315b, q315c⟩ := isOf hZ rfl F309
    obtain ⟨_, _, ⟨T315, L315, k315, n315⟩, -, X315, ⟨Lc315, hQ315, l315, y315, z315⟩, st315⟩ := X307.virtualBack hx (y := (⟨"java/math/BigDecimal", "equals", "(Ljava/lang/Object;)Z"⟩ : MethodName)) (z := (⟨"java/math/BigDecimal", "equals", "(Ljava/lang/Object;)Z"⟩ : MethodName)) hown (mvT hZ (ow hw 90 rfl)) (mvT hZ (ow hw 91 rfl)) (notFace_of_selects (args := #[]) (mvT hZ (ow hw 93 rfl))) (mvT hZ (ow hw 93 rfl)) (mvT hZ (ow hw 92 rfl)) (by decide) (backOf (W := 0) (rmEq l Z a0 hw [] d1_1 ermGc (((0 : Int64) + (p0.toInt64)) + (p2.toInt64)) T307.heap n0 F314 F309 F311 F313 Q307_0 Q307_1 Q307_2 (own_minS (own_bdA _) (own_bdI _))) hZ (ow hw 94 rfl) (ow hw 3 rfl) (by decide) (by decide)) q315a q315c (g := (mkF m 161 #[iv p0, iv p1, iv p2, iv p3, iv p4, iv 2, rv q0, rv q1, rv q2, rv q3, rv ci, .val (.long (((0 : Int64) + (p0.toInt64)) + (p2.toInt64))), .second, .val (.long (((0 : Int64) + (p1.toInt64)) + (p3.toInt64))), .second, rv cg] [(.ref ermGc), (.ref d1_1)])) rfl (by rw [hml]; rfl) (Steps.refl _) (argsL := [(.ref ermGc)]) (rest := []) (lenOf pd_358 rfl) rfl (by show 2 * 0 + _ ≤ _; exact Nat.le_of_eq rfl) (hb hby at_161) (fun _ _ => ⟨rfl, rfl, (by decide : 15 + 0 ≤ _), (by decide : 68 + 0 ≤ _)⟩)
    dsimp only [Pt.U, Pt.locs, Pt.cells, Pt.slots] at X315 l315 y315 z315 st315 hQ315
    subst l315 y315 z315
    obtain ⟨rfl, N315q, e315⟩ := hQ315
    have N315 := Fr.app N307 N315q
    refine Go.to st315 ?_
    show Go _ _ _ _ T315 (mkF m 164 #[iv p0, iv p1, iv p2, iv p3, iv p4, iv 2, rv q0, rv q1, rv q2, rv q3, rv ci, .val (.long (((0 : Int64) + (p0.toInt64)) + (p2.toInt64))), .second, .val (.long (((0 : Int64) + (p1.toInt64)) + (p3.toInt64))), .second, rv cg] [(.int 1)])
    refine Go.ifN 167 X315 hx (hb hby at_164) (XT.i0_eq_f (by decide)) rfl ?_
    refine Go.aload2 169 X315 hx (hb hby at_167) rfl rfl rfl ?_
    have F316 : Fld Z T307.heap cg "com/example/diligent_tariff/diligenttariff/billing/Comparison" "proposed" "Ljava/math/BigDecimal;" (.ref d2_1) := Q302_2.keep K307 nin0
    have F318 : Exa Z T307.heap cg "com/example/diligent_tariff/diligenttariff/billing/Comparison" := Q302_0.keep K307
    obtain ⟨cq317, kq317, q317a, q317b, q317c⟩ := isOf hZ e315 F318
    obtain ⟨_, _, ⟨T317, L317, k317, n317⟩, -, X317, ⟨Lc317, hQ317, l317, y317, z317⟩, st317⟩ := X315.virtualBack hx (y := (⟨"com/example/diligent_tariff/diligenttariff/billing/Comparison", "getProposed", "()Ljava/math/BigDecimal;"⟩ : MethodName)) (z := (⟨"com/example/diligent_tariff/diligenttariff/billing/Comparison", "getProposed", "()Ljava/math/BigDecimal;"⟩ : MethodName)) hown (mvT hZ (ow hw 95 rfl)) (mvT hZ (ow hw 96 rfl)) (notFace_of_selects (args := #[]) (mvT hZ (ow hw 98 rfl))) (mvT hZ (ow hw 98 rfl)) (mvT hZ (ow hw 97 rfl)) (by decide) (backOf (W := 0) (rmGp l Z a0 hw [] cg d2_1 T307.heap n0 F314 F316) hZ (ow hw 99 rfl) (ow hw 71 rfl) (by decide) (by decide)) q317a q317c (g := (mkF m 169 #[iv p0, iv p1, iv p2, iv p3, iv p4, iv 2, rv q0, rv q1, rv q2, rv q3, rv ci, .val (.long (((0 : Int64) + (p0.toInt64)) + (p2.toInt64))), .second, .val (.long (((0 : Int64) + (p1.toInt64)) + (p3.toInt64))), .second, rv cg] [(.ref cg)])) rfl (by rw [hml]; rfl) (Steps.refl _) (argsL := []) (rest := []) (lenOf pd_290 rfl) rfl (by show 2 * 0 + _ ≤ _; exact Nat.le_of_eq rfl) (hb hby at_169) (fun _ _ => ⟨rfl, e315, (by decide : 15 + 0 ≤ _), (by decide : 68 + 0 ≤ _)⟩)
    dsimp only [Pt.U, Pt.locs, Pt.cells, Pt.slots] at X317 l317 y317 z317 st317 hQ317
    subst l317 y317 z317
    obtain ⟨rfl, N317q, e317⟩ := hQ317
    have N317 := Fr.app N315 N317q
    refine Go.to st317 ?_
    show Go _ _ _ _ T317 (mkF m 172 #[iv p0, iv p1, iv p2, iv p3, iv p4, iv 2, rv q0, rv q1, rv q2, rv q3, rv ci, .val (.long (((0 : Int64) + (p0.toInt64)) + (p2.toInt64))), .second, .val (.long (((0 : Int64) + (p1.toInt64)) + (p3.toInt64))), .second, rv cg] [(.ref d2_1)])
    refine Go.lload2 174 X317 hx (hb hby at_172) rfl rfl ?_
    refine Go.iconst 175 X317 hx (2 : Int32) (hb hby at_174) (by decide) rfl ?_
    have F319 : Old Z n0 T307.heap := F306.keep K307 all0
    obtain ⟨_, _, ⟨T320, L320, k320, n320⟩, -, X320, ⟨Lc320, hQ320, l320, y320, z320⟩, st320⟩ := Jvm.LawKit.callS X317 hx (y := (⟨"java/math/BigDecimal", "valueOf", "(JI)Ljava/math/BigDecimal;"⟩ : MethodName)) hown (mvT hZ (ow hw 1 rfl)) (mvT hZ (ow hw 2 rfl)) (mvT hZ (ow hw 3 rfl)) (mvT hZ (ow hw 4 rfl)) (by decide) (backOf (W := 1) (rmVal l Z a0 hw [] (((0 : Int64) + (p1.toInt64)) + (p3.toInt64)) ze0 ze1 ze2 ze3 ze4 ze5 ze6 ze7 ze8 ze9 ze10 ze11 ze12 ze13 ze14 ze15 za kz T307.heap n0 F314 F319 (own_minS (own_bdA _) (own_bdI _)) D0 D1 D2 D3 D4 D5 D6 D7 D8) hZ (ow hw 4 rfl) (ow hw 3 rfl) (by decide) (by decide)) (g := (mkF m 175 #[iv p0, iv p1, iv p2, iv p3, iv p4, iv 2, rv q0, rv q1, rv q2, rv q3, rv ci, .val (.long (((0 : Int64) + (p0.toInt64)) + (p2.toInt64))), .second, .val (.long (((0 : Int64) + (p1.toInt64)) + (p3.toInt64))), .second, rv cg] [(.int 2), (.long (((0 : Int64) + (p1.toInt64)) + (p3.toInt64))), (.ref d2_1)])) rfl (by rw [hml]; rfl) (argsL := [(.long (((0 : Int64) + (p1.toInt64)) + (p3.toInt64))), (.int 2)]) (rest := [(.ref d2_1)]) (lenOf pd_138 rfl) rfl (by show 2 * 0 + _ ≤ _; exact Nat.le_of_eq rfl) (hb hby at_175) (fun _ _ => ⟨rfl, e317, (by decide : 15 + 1 ≤ _), (by decide : 68 + 5 ≤ _)⟩)
    dsimp only [Pt.U, Pt.locs, Pt.cells, Pt.slots] at X320 l320 y320 z320 st320 hQ320
    subst l320 y320 z320
    obtain ⟨ermGp, rfl, N320q, K320, Q320_0, Q320_1, Q320_2⟩ := hQ320
    have N320 := Fr.app N317 N320q
    refine Go.by st320 ?_
    show Go _ _ _ _ T320 (mkF m 178 #[iv p0, iv p1, iv p2, iv p3, iv p4, iv 2, rv q0, rv q1, rv q2, rv q3, rv ci, .val (.long (((0 : Int64) + (p0.toInt64)) + (p2.toInt64))), .second, .val (.long (((0 : Int64) + (p1.toInt64)) + (p3.toInt64))), .second, rv cg] [(.ref ermGp), (.ref d2_1)])
    have F321 : Exa Z T302.heap d2_1 "java/math/BigDecimal" := Q300_11.keep K302
    have F322 : Exa Z T307.heap d2_1 "java/math/BigDecimal" := F321.keep K307
    have F323 : Exa Z T320.heap d2_1 "java/math/BigDecimal" := F322.keep K320
    have F324 : Fld Z T302.heap d2_1 "java/math/BigDecimal" "scale" "I" (.int 2) := Q300_12.keep K302 nin0
    have F325 : Fld Z T307.heap d2_1 "java/math/BigDecimal" "scale" "I" (.int 2) := F324.keep K307 nin0
    have F326 : Fld Z T320.heap d2_1 "java/math/BigDecimal" "scale" "I" (.int 2) := F325.keep K320 nin0
    have F327 : Fld Z T302.heap d2_1 "java/math/BigDecimal" "intCompact" "J" (.long (((0 : Int64) + (p1.toInt64)) + (p3.toInt64))) := Q300_13.keep K302 nin0
    have F328 : Fld Z T307.heap d2_1 "java/math/BigDecimal" "intCompact" "J" (.long (((0 : Int64) + (p1.toInt64)) + (p3.toInt64))) := F327.keep K307 nin0
    have F329 : Fld Z T320.heap d2_1 "java/math/BigDecimal" "intCompact" "J" (.long (((0 : Int64) + (p1.toInt64)) + (p3.toInt64))) := F328.keep K320 nin0
    have F330 : n0 ≤ T320.heap.size := Nat.le_trans F314 K320.1
    obtain ⟨cq331, kq331, q331a, q331b, q331c⟩ := isOf hZ rfl F323
    obtain ⟨_, _, ⟨T331, L331, k331, n331⟩, -, X331, ⟨Lc331, hQ331, l331, y331, z331⟩, st331⟩ := X320.virtualBack hx (y := (⟨"java/math/BigDecimal", "equals", "(Ljava/lang/Object;)Z"⟩ : MethodName)) (z := (⟨"java/math/BigDecimal", "equals", "(Ljava/lang/Object;)Z"⟩ : MethodName)) hown (mvT hZ (ow hw 90 rfl)) (mvT hZ (ow hw 91 rfl)) (notFace_of_selects (args := #[]) (mvT hZ (ow hw 93 rfl))) (mvT hZ (ow hw 93 rfl)) (mvT hZ (ow hw 92 rfl)) (by decide) (backOf (W := 0) (rmEq l Z a0 hw [] d2_1 ermGp (((0 : Int64) + (p1.toInt64)) + (p3.toInt64)) T320.heap n0 F330 F323 F326 F329 Q320_0 Q320_1 Q320_2 (own_minS (own_bdA _) (own_bdI _))) hZ (ow hw 94 rfl) (ow hw 3 rfl) (by decide) (by decide)) q331a q331c (g := (mkF m 178 #[iv p0, iv p1, iv p2, iv p3, iv p4, iv 2, rv q0, rv q1, rv q2, rv q3, rv ci, .val (.long (((0 : Int64) + (p0.toInt64)) + (p2.toInt64))), .second, .val (.long (((0 : Int64) + (p1.toInt64)) + (p3.toInt64))), .second, rv cg] [(.ref ermGp), (.ref d2_1)])) rfl (by rw [hml]; rfl) (Steps.refl _) (argsL := [(.ref ermGp)]) (rest := []) (lenOf pd_358 rfl) rfl (by show 2 * 0 + _ ≤ _; exact Nat.le_of_eq rfl) (hb hby at_178) (fun _ _ => ⟨rfl, rfl, (by decide : 16 + 0 ≤ _), (by decide : 73 + 0 ≤ _)⟩)
    dsimp only [Pt.U, Pt.locs, Pt.cells, Pt.slots] at X331 l331 y331 z331 st331 hQ331
    subst l331 y331 z331
    obtain ⟨rfl, N331q, e331⟩ := hQ331
    have N331 := Fr.app N320 N331q
    refine Go.to st331 ?_
    show Go _ _ _ _ T331 (mkF m 181 #[iv p0, iv p1, iv p2, iv p3, iv p4, iv 2, rv q0, rv q1, rv q2, rv q3, rv ci, .val (.long (((0 : Int64) + (p0.toInt64)) + (p2.toInt64))), .second, .val (.long (((0 : Int64) + (p1.toInt64)) + (p3.toInt64))), .second, rv cg] [(.int 1)])
    refine Go.ifN 184 X331 hx (hb hby at_181) (XT.i0_eq_f (by decide)) rfl ?_
    refine Go.iconst 185 X331 hx (1 : Int32) (hb hby at_184) (by decide) rfl ?_
    refine Go.goto 189 X331 hx (hb hby at_185) (by decide) (by decide) ?_
    exact Go.retI X331 hx Bd.notSynchronized Bd.returns rfl (by simp) (hb hby at_189) (by rw [e331]; exact ⟨rfl, N331⟩) (by decide) (by decide)
set_option maxRecDepth 65536 in
set_option maxHeartbeats 40000000 in
theorem comes_1 {Post : Tables → Env → Array Value → State → Outcome → State → Prop} (hpost : ∀ tb e args s v u, (limb_1_1.after args s (.returned v) u = true ∧ limb_1_2.after args s (.returned v) u = true ∧ True) → FrameEnd s (.returned v) u (Jvm.fieldLocs frame_1_writes args s ++ Jvm.arrayLocs frame_1_arrays args s ++ Jvm.staticLocs frame_1_statics s) 40 256 → Post tb e args s (.returned v) u) :
    ArmFor flags0 classFile x code maxLocals ret World_1 tables_1 room_1 Calls_1 rest_1 Pre_1 Post := by
  intro l hfl _ _ p e ha hc hk s m args below hf hA hF happ hP
  obtain ⟨hcalls, hrest, hpre⟩ := hP
  obtain ⟨-, -, -, hnamed, -, -, -, hat⟩ := (Spec.applies_iff hf).mp happ
  obtain ⟨hg, hn⟩ := and_e (Cond.before_iff.mp (show (Jvm.Cond.and given_1 narrow_1).before args s = true from hpre))
  obtain ⟨hcount, hg0⟩ := and_e hg
  obtain ⟨ha0, hg1⟩ := and_e hg0
  obtain ⟨ha1, hg2⟩ := and_e hg1
  obtain ⟨ha2, hg3⟩ := and_e hg2
  obtain ⟨ha3, hg4⟩ := and_e hg3
  have ha4 := hg4
  obtain ⟨w0, w1, w2, w3, w4, rfl⟩ : ∃ w0 w1 w2 w3 w4 : Value, args = #[w0, w1, w2, w3, w4] := by
    have hs : args.size = 5 := by simpa [Cond.value, given_1] using hcount
    obtain ⟨L⟩ := args
    match L, hs with
    | [w0, w1, w2, w3, w4], _ => exact ⟨w0, w1, w2, w3, w4, rfl⟩
  have hw := fun d (hd : d ∈ tables_1) => atoms_spec (ws := Jvm.Cond.code x code maxLocals ret :: tables_1) hat d (List.mem_cons_of_mem _ hd)
  obtain ⟨hsets, hown0⟩ := atoms_of _ (rest_1_c_eq ▸ (show rest_1_c.before _ s = true from hrest))
  have hr0 := Cond.before_iff.mp hown0
  have hfit : Fit s := fun {y c} hc i hi => by
    obtain ⟨ha, rfl⟩ := Array.getElem?_eq_some_iff.mp hc
    have q := List.all_eq_true.mp ((Array.all_eq_true_iff_forall_mem.mp hF) _ (Array.getElem_mem ha)) i (List.mem_range.mpr hi)
    simpa [Array.getElem?_eq_getElem hi] using q
  obtain ⟨i0, ei0⟩ := is_v ha0
  obtain rfl : w0 = (.int i0) := Option.some.inj ei0
  obtain ⟨i1, ei1⟩ := is_v ha1
  obtain rfl : w1 = (.int i1) := Option.some.inj ei1
  obtain ⟨i2, ei2⟩ := is_v ha2
  obtain rfl : w2 = (.int i2) := Option.some.inj ei2
  obtain ⟨i3, ei3⟩ := is_v ha3
  obtain rfl : w3 = (.int i3) := Option.some.inj ei3
  obtain ⟨i4, ei4⟩ := is_v ha4
  obtain rfl : w4 = (.int i4) := Option.some.inj ei4
  obtain ⟨za, ev_za⟩ := arr_v (Cond.before_iff.mp (hsets _ (List.mem_of_getElem? (i := 6) rfl)))
  obtain ⟨zc, A_z⟩ := Arr.start ev_za (Cond.before_iff.mp (hsets _ (List.mem_of_getElem? (i := 6) rfl)))
  have len_z := own_len ev_za (A_z.fin (Vm.Alike.refl _)) (eqv_i (Term.int_eval 16) (Cond.before_iff.mp (hsets _ (List.mem_of_getElem? (i := 8) rfl))))
  obtain ⟨ze0, ev_ze0⟩ := exa_v (Cond.before_iff.mp (hsets _ (List.mem_of_getElem? (i := 10) rfl)))
  have el_0 := (elem_in ev_ze0 ev_za (Term.int_eval 0) A_z.1).2
  obtain ⟨ze1, ev_ze1⟩ := exa_v (Cond.before_iff.mp (hsets _ (List.mem_of_getElem? (i := 19) rfl)))
  have el_1 := (elem_in ev_ze1 ev_za (Term.int_eval 1) A_z.1).2
  obtain ⟨ze2, ev_ze2⟩ := exa_v (Cond.before_iff.mp (hsets _ (List.mem_of_getElem? (i := 28) rfl)))
  have el_2 := (elem_in ev_ze2 ev_za (Term.int_eval 2) A_z.1).2
  obtain ⟨ze3, ev_ze3⟩ := exa_v (Cond.before_iff.mp (hsets _ (List.mem_of_getElem? (i := 37) rfl)))
  have el_3 := (elem_in ev_ze3 ev_za (Term.int_eval 3) A_z.1).2
  obtain ⟨ze4, ev_ze4⟩ := exa_v (Cond.before_iff.mp (hsets _ (List.mem_of_getElem? (i := 46) rfl)))
  have el_4 := (elem_in ev_ze4 ev_za (Term.int_eval 4) A_z.1).2
  obtain ⟨ze5, ev_ze5⟩ := exa_v (Cond.before_iff.mp (hsets _ (List.mem_of_getElem? (i := 55) rfl)))
  have el_5 := (elem_in ev_ze5 ev_za (Term.int_eval 5) A_z.1).2
  obtain ⟨ze6, ev_ze6⟩ := exa_v (Cond.before_iff.mp (hsets _ (List.mem_of_getElem? (i := 64) rfl)))
  have el_6 := (elem_in ev_ze6 ev_za (Term.int_eval 6) A_z.1).2
  obtain ⟨ze7, ev_ze7⟩ := exa_v (Cond.before_iff.mp (hsets _ (List.mem_of_getElem? (i := 73) rfl)))
  have el_7 := (elem_in ev_ze7 ev_za (Term.int_eval 7) A_z.1).2
  obtain ⟨ze8, ev_ze8⟩ := exa_v (Cond.before_iff.mp (hsets _ (List.mem_of_getElem? (i := 82) rfl)))
  have el_8 := (elem_in ev_ze8 ev_za (Term.int_eval 8) A_z.1).2
  obtain ⟨ze9, ev_ze9⟩ := exa_v (Cond.before_iff.mp (hsets _ (List.mem_of_getElem? (i := 91) rfl)))
  have el_9 := (elem_in ev_ze9 ev_za (Term.int_eval 9) A_z.1).2
  obtain ⟨ze10, ev_ze10⟩ := exa_v (Cond.before_iff.mp (hsets _ (List.mem_of_getElem? (i := 100) rfl)))
  have el_10 := (elem_in ev_ze10 ev_za (Term.int_eval 10) A_z.1).2
  obtain ⟨ze11, ev_ze11⟩ := exa_v (Cond.before_iff.mp (hsets _ (List.mem_of_getElem? (i := 109) rfl)))
  have el_11 := (elem_in ev_ze11 ev_za (Term.int_eval 11) A_z.1).2
  obtain ⟨ze12, ev_ze12⟩ := exa_v (Cond.before_iff.mp (hsets _ (List.mem_of_getElem? (i := 118) rfl)))
  have el_12 := (elem_in ev_ze12 ev_za (Term.int_eval 12) A_z.1).2
  obtain ⟨ze13, ev_ze13⟩ := exa_v (Cond.before_iff.mp (hsets _ (List.mem_of_getElem? (i := 127) rfl)))
  have el_13 := (elem_in ev_ze13 ev_za (Term.int_eval 13) A_z.1).2
  obtain ⟨ze14, ev_ze14⟩ := exa_v (Cond.before_iff.mp (hsets _ (List.mem_of_getElem? (i := 136) rfl)))
  have el_14 := (elem_in ev_ze14 ev_za (Term.int_eval 14) A_z.1).2
  obtain ⟨ze15, ev_ze15⟩ := exa_v (Cond.before_iff.mp (hsets _ (List.mem_of_getElem? (i := 145) rfl)))
  have el_15 := (elem_in ev_ze15 ev_za (Term.int_eval 15) A_z.1).2
  have ev_zero := own_eqL (Cond.before_iff.mp (hsets _ (List.mem_of_getElem? (i := 9) rfl))) ev_ze0
  obtain ⟨kz, hkz⟩ : ∃ z, z = zc.cls := ⟨_, rfl⟩
  have D0 : Sta s s.heap "java/math/BigDecimal" "ZERO_SCALED_BY" "[Ljava/math/BigDecimal;" (.ref za) := Sta.start ev_za (Or.inl (hsets _ (List.mem_of_getElem? (i := 1) rfl)))
  have D1 : Sta s s.heap "java/math/BigDecimal" "ZERO" "Ljava/math/BigDecimal;" (.ref ze0) := Sta.start ev_zero (Or.inl (hsets _ (List.mem_of_getElem? (i := 3) rfl)))
  have D2 : Arv s s.heap za kz (.object "java/math/BigDecimal") (16 : Int32) ([(.ref ze0), (.ref ze1), (.ref ze2), (.ref ze3), (.ref ze4), (.ref ze5), (.ref ze6), (.ref ze7), (.ref ze8), (.ref ze9), (.ref ze10), (.ref ze11), (.ref ze12), (.ref ze13), (.ref ze14), (.ref ze15)]) .null := by rw [hkz]; exact Arv.start hfit A_z len_z.1 len_z.2 (by decide) rfl ⟨el_0, el_1, el_2, el_3, el_4, el_5, el_6, el_7, el_8, el_9, el_10, el_11, el_12, el_13, el_14, el_15, trivial⟩
  have D3 : Exa s s.heap ze0 "java/math/BigDecimal" := Exa.start ev_ze0 (Cond.before_iff.mp (hsets _ (List.mem_of_getElem? (i := 10) rfl)))
  have D4 : Fld s s.heap ze0 "java/math/BigDecimal" "scale" "I" (.int 0) := Fld.start ((fld_at ev_ze0).symm.trans (eqv_i (Term.int_eval 0) (Cond.before_iff.mp (hsets _ (List.mem_of_getElem? (i := 11) rfl)))))
  have D5 : Fld s s.heap ze0 "java/math/BigDecimal" "intCompact" "J" (.long (0 : Int64)) := Fld.start ((fld_at ev_ze0).symm.trans (eqv_l (F := Term.long 0) rfl (Cond.before_iff.mp (hsets _ (List.mem_of_getElem? (i := 12) rfl)))))
  have D6 : Exa s s.heap ze2 "java/math/BigDecimal" := Exa.start ev_ze2 (Cond.before_iff.mp (hsets _ (List.mem_of_getElem? (i := 28) rfl)))
  have D7 : Fld s s.heap ze2 "java/math/BigDecimal" "scale" "I" (.int 2) := Fld.start ((fld_at ev_ze2).symm.trans (eqv_i (Term.int_eval 2) (Cond.before_iff.mp (hsets _ (List.mem_of_getElem? (i := 29) rfl)))))
  have D8 : Fld s s.heap ze2 "java/math/BigDecimal" "intCompact" "J" (.long (0 : Int64)) := Fld.start ((fld_at ev_ze2).symm.trans (eqv_l (F := Term.long 0) rfl (Cond.before_iff.mp (hsets _ (List.mem_of_getElem? (i := 30) rfl)))))
  obtain ⟨n, o, h1, h2, h3, _, L, rfl, ⟨rfl, N⟩, hq⟩ := rm0 l s _ hw tables_1 i0 i1 i2 i3 i4 ze0 ze1 ze2 ze3 ze4 ze5 ze6 ze7 ze8 ze9 ze10 ze11 ze12 ze13 ze14 ze15 za kz s.heap s.heap.size (Nat.le_refl _) (Old.start s) D0 D1 D2 D3 D4 D5 D6 D7 D8 p e ha hc hk s m _ below hf ((Spec.applies_iff_loose hf).mp happ).1 ⟨rfl, State.Warmed39.refl s, rfl⟩ trivial
  refine ⟨n, _, h1, h2, h3, hpost _ _ _ _ _ _ ⟨Cond.after_iff.mpr rfl, Cond.after_iff.mpr (eq_i res_at (Term.int_eval (1)) rfl), trivial⟩ ⟨hq.1, hq.2.1, (hq.2.2.sift fun y hy => Or.inr (N y hy)).mono (by decide) (by decide)⟩⟩
theorem main_1_1 : Claimed_1_1 := comes_1 fun _ _ _ _ _ _ h hF => ⟨h.1, hF⟩
theorem main_1_2 : Claimed_1_2 := comes_1 fun _ _ _ _ _ _ h hF => ⟨h.2.1, hF⟩
end Jvm.Pilot.@@N@@
namespace Jvm.Pilot.@@N@@
open Jvm Jvm.ClassFile Sem Op Lib Jvm.Free Jvm.Stand Jvm.Pilot.@@N@@.Jvm.D
/-! MADE BY PROGRAM (witnessworld.py) out of the Statement's table words and the real class files: 19 classes; the members and pool entries that the words name. The judged class is class 1, her method 1. -/
namespace start1
open Jvm.ClassFile
def u (s : String) : CpInfo := .utf8 (stringToUtf16 s)
/-- a pool by its gaps: so many unusable entries, then the entry; so many at the end -/
def gap : Nat → List CpInfo → List CpInfo
  | 0, r => r
  | n + 1, r => .unusable :: gap n r
def poolList (es : List (Nat × CpInfo)) (last : Nat) : List CpInfo := es.foldr (fun e r => gap e.1 (e.2 :: r)) (gap last [])
def pool (es : List (Nat × CpInfo)) (last : Nat) : Array CpInfo := ⟨poolList es last⟩
def fileOf (pool : Array CpInfo) (this : Nat) (attrs : Array Attribute := #[]) (ms : Array MethodInfo := #[]) (fl : Nat := 33) (sup : Nat := 0) (ifs : Array Nat := #[]) (fds : Array FieldInfo := #[]) : ClassFile where
  minorVersion := 0
  majorVersion := 65
  constantPool := pool
  accessFlags := fl
  thisClass := this
  superClass := sup
  interfaces := ifs
  fields := fds
  methods := ms
  attributes := attrs
def plain (name : String) (sup : Option ClassId) : Class where
  name := name
  kind := .ordinary
  loader := none
  accessFlags := 33
  super := sup
  interfaces := #[]
  cf := none
  fields := #[]
  methods := #[]
  instanceTypes := #[]
  staticTypes := #[]
  resolved := #[]
  callSites := []
  init := .initialized
  statics := none
  mirror := none

def pool0 : Array CpInfo := pool [(5, u "<init>"), (0, u "()V"), (1, .class_ 10), (1, u "java/lang/Object")] 113

def k0c0 : Code := { maxStack := 0, maxLocals := 1, code := object_method_1_code, exceptionTable := #[], attributes := #[] }
def k0m0 : Method := { name := "<init>", desc := "()V", sig := { parameters := [], returnType := none }, accessFlags := 1, code := some k0c0 }
/-- java/lang/Object -/
def k0 : Class := { plain "java/lang/Object" none with
  accessFlags := 33
  interfaces := #[]
  cf := some (fileOf pool0 8 #[] #[{ accessFlags := 1, nameIndex := 5, descriptorIndex := 6, attributes := #[] }] 33 0 #[] #[])
  fields := #[]
  methods := #[k0m0]
  instanceTypes := #[]
  staticTypes := #[]
  resolved := Array.replicate 124 none
  statics := none }

def pool1 : Array CpInfo := pool [(2, .class_ 4), (0, .nameAndType 5 6), (0, u "java/lang/Object"), (0, u "<init>"), (0, u "()V"), (0, .integer 2147483647), (0, .methodref 9 10), (0, .class_ 11), (0, .nameAndType 12 13), (0, u "java/math/BigDecimal"), (0, u "valueOf"), (0, u "(JI)Ljava/math/BigDecimal;"), (0, .class_ 15), (0, u "com/example/diligent_tariff/diligenttariff/billing/ClassImpact"), (0, .methodref 14 3), (0, .class_ 18), (0, u "com/example/diligent_tariff/diligenttariff/billing/Comparison"), (0, .methodref 17 20), (0, .nameAndType 5 21), (0, u "(Ljava/math/BigDecimal;Ljava/math/BigDecimal;)V"), (0, .methodref 14 23), (0, .nameAndType 24 25), (0, u "add"), (0, u "(ILcom/example/diligent_tariff/diligenttariff/billing/Comparison;)V"), (0, .methodref 14 27), (0, .nameAndType 28 29), (0, u "getComparison"), (0, u "()Lcom/example/diligent_tariff/diligenttariff/billing/Comparison;"), (0, .methodref 17 31), (0, .nameAndType 32 33), (0, u "getCurrent"), (0, u "()Ljava/math/BigDecimal;"), (0, .methodref 9 35), (0, .nameAndType 36 37), (0, u "equals"), (0, u "(Ljava/lang/Object;)Z"), (0, .methodref 17 39), (0, .nameAndType 40 33), (0, u "getProposed"), (0, .class_ 42), (0, u "com/example/diligent_tariff/diligenttariff/billing/ClassImpactGetComparisonPinLaw"), (2, u "law"), (0, u "(IIIII)Z")] 3

def k1m0 : Method := { name := "<init>", desc := "()V", sig := { parameters := [], returnType := none }, accessFlags := 1, code := none }
def k1c1 : Code := { maxStack := 6, maxLocals := 16, code := code, exceptionTable := #[], attributes := #[] }
def k1m1 : Method := { name := "law", desc := "(IIIII)Z", sig := { parameters := [.int, .int, .int, .int, .int], returnType := some .boolean }, accessFlags := 9, code := some k1c1 }
/-- com/example/diligent_tariff/diligenttariff/billing/ClassImpactGetComparisonPinLaw -/
def k1 : Class := { plain "com/example/diligent_tariff/diligenttariff/billing/ClassImpactGetComparisonPinLaw" (some 0) with
  accessFlags := 49
  interfaces := #[]
  cf := some (fileOf pool1 41 #[] #[{ accessFlags := 1, nameIndex := 5, descriptorIndex := 6, attributes := #[] }, { accessFlags := 9, nameIndex := 45, descriptorIndex := 46, attributes := #[] }] 49 2 #[] #[])
  fields := #[]
  methods := #[k1m0, k1m1]
  instanceTypes := #[]
  staticTypes := #[]
  resolved := Array.replicate 50 none
  statics := none }

def pool2 : Array CpInfo := pool [(1, .class_ 2), (0, u "java/io/Serializable"), (0, .class_ 4), (0, u "java/lang/Object")] 2

/-- java/io/Serializable -/
def k2 : Class := { plain "java/io/Serializable" (some 0) with
  accessFlags := 1537
  interfaces := #[]
  cf := some (fileOf pool2 1 #[] #[] 1537 3 #[] #[])
  fields := #[]
  methods := #[]
  instanceTypes := #[]
  staticTypes := #[]
  resolved := Array.replicate 7 none
  statics := none }

def pool3 : Array CpInfo := pool [(1, .methodref 2 3), (0, .class_ 4), (0, .nameAndType 5 6), (0, u "java/lang/Object"), (0, u "<init>"), (0, u "()V"), (1, .class_ 10), (1, u "java/lang/Number"), (2, .class_ 14), (0, u "java/io/Serializable"), (0, u "serialVersionUID"), (0, u "J")] 20

def k3c0 : Code := { maxStack := 1, maxLocals := 1, code := jdk_18_method_1_code, exceptionTable := #[], attributes := #[] }
def k3m0 : Method := { name := "<init>", desc := "()V", sig := { parameters := [], returnType := none }, accessFlags := 1, code := some k3c0 }
/-- java/lang/Number -/
def k3 : Class := { plain "java/lang/Number" (some 0) with
  accessFlags := 1057
  interfaces := #[2]
  cf := some (fileOf pool3 8 #[] #[{ accessFlags := 1, nameIndex := 5, descriptorIndex := 6, attributes := #[] }] 1057 2 #[13] #[{ accessFlags := 26, nameIndex := 15, descriptorIndex := 16, attributes := #[] }])
  fields := #[{ name := "serialVersionUID", type := .long, accessFlags := 26, slot := 0, constantValue := 0 }]
  methods := #[k3m0]
  instanceTypes := #[]
  staticTypes := #[.long]
  resolved := Array.replicate 37 none
  statics := none }

def pool4 : Array CpInfo := pool [(1, .class_ 2), (0, u "java/lang/Comparable"), (0, .class_ 4), (0, u "java/lang/Object")] 7

/-- java/lang/Comparable -/
def k4 : Class := { plain "java/lang/Comparable" (some 0) with
  accessFlags := 1537
  interfaces := #[]
  cf := some (fileOf pool4 1 #[] #[] 1537 3 #[] #[])
  fields := #[]
  methods := #[]
  instanceTypes := #[]
  staticTypes := #[]
  resolved := Array.replicate 12 none
  statics := none }

def pool5 : Array CpInfo := pool [(3, .class_ 4), (0, u "java/math/BigDecimal"), (2, .class_ 8), (0, u "java/lang/Long"), (2, .methodref 12 13), (0, .class_ 14), (0, .nameAndType 15 16), (0, u "java/lang/Number"), (0, u "<init>"), (0, u "()V"), (0, .fieldref 3 18), (0, .nameAndType 19 20), (0, u "scale"), (0, u "I"), (0, .fieldref 3 22), (0, .nameAndType 23 20), (0, u "precision"), (0, .fieldref 3 25), (0, .nameAndType 26 27), (0, u "intCompact"), (0, u "J"), (0, .fieldref 3 29), (0, .nameAndType 30 31), (0, u "intVal"), (0, u "Ljava/math/BigInteger;"), (65, u "LONG_TEN_POWERS_TABLE"), (0, u "[J"), (16, u "(J)I"), (9, .long 9223372036854775808), (36, u "()I"), (24, u "ZERO"), (2, u "INFLATED_BIGINT"), (4, u "valueOf"), (10, u "TWO"), (32, .methodref 3 240), (0, .nameAndType 241 242), (0, u "zeroValueOf"), (0, u "(I)Ljava/math/BigDecimal;"), (0, .methodref 3 244), (0, .nameAndType 15 245), (0, u "(Ljava/math/BigInteger;JII)V"), (2, u "ZERO_THROUGH_TEN"), (0, u "[Ljava/math/BigDecimal;"), (0, .fieldref 3 251), (0, .nameAndType 252 249), (0, u "ZERO_SCALED_BY"), (4, .methodref 3 258), (0, .nameAndType 259 260), (0, u "add"), (0, u "(JIJI)Ljava/math/BigDecimal;"), (8, u "(Ljava/math/BigDecimal;)Ljava/math/BigDecimal;"), (0, .methodref 3 271), (0, .nameAndType 272 162), (0, u "signum"), (20, u "setScale"), (19, u "$assertionsDisabled"), (0, u "Z"), (7, u "(JJ)J"), (5, .methodref 3 329), (0, .nameAndType 195 330), (0, u "(JI)Ljava/math/BigDecimal;"), (5, u "subtract"), (7, u "(JJI)Ljava/math/BigDecimal;"), (74, .methodref 3 420), (0, .nameAndType 293 421), (0, u "(II)Ljava/math/BigDecimal;"), (56, u "ONE_TENTH"), (0, u "Ljava/math/BigDecimal;"), (5, u "TEN"), (14, .class_ 502), (1, u "java/math/BigDecimal$1"), (15, u "ONE_HALF"), (16, u "ONE"), (18, u "equals"), (0, u "(Ljava/lang/Object;)Z"), (40, .methodref 7 597), (0, .nameAndType 272 115), (45, u "stringCache"), (0, u "Ljava/lang/String;"), (52, .class_ 699), (1, u "java/math/BigDecimal$LongOverflow"), (8, u "FLOAT_10_POW"), (0, u "[F"), (39, u "DOUBLE_10_POW"), (0, u "[D"), (19, .class_ 772), (1, u "java/math/BigDecimal$StringBuilderHelper"), (35, u "BIG_TEN_POWERS_TABLE_MAX"), (2, u "BIG_TEN_POWERS_TABLE"), (0, u "[Ljava/math/BigInteger;"), (14, u "THRESHOLDS_TABLE"), (23, .class_ 853), (1, u "java/math/BigDecimal$UnsafeHolder"), (142, .methodref 3 997), (0, .nameAndType 259 322), (2, .methodref 3 1001), (0, .nameAndType 259 344), (66, u "LONGLONG_TEN_POWERS_TABLE"), (0, u "[[J"), (112, u "BIG_TEN_POWERS_TABLE_INITLEN"), (113, .class_ 1297), (0, u "java/lang/Comparable"), (0, u "L"), (0, u "D"), (1, u "P_F"), (1, u "Q_MIN_F"), (1, u "Q_MAX_F"), (1, u "P_D"), (1, u "Q_MIN_D"), (1, u "Q_MAX_D"), (1, u "INFLATED"), (0, u "MAX_COMPACT_DIGITS"), (1, u "serialVersionUID"), (2, u "HALF_LONG_MAX_VALUE"), (0, u "HALF_LONG_MIN_VALUE"), (0, u "ROUND_UP"), (6, u "ROUND_DOWN"), (1, u "ROUND_CEILING"), (1, u "ROUND_FLOOR"), (1, u "ROUND_HALF_UP"), (1, u "ROUND_HALF_DOWN"), (1, u "ROUND_HALF_EVEN"), (1, u "ROUND_UNNECESSARY"), (1, u "DIV_NUM_BASE")] 294

def k5c0 : Code := { maxStack := 3, maxLocals := 6, code := jdk_17_method_1_code, exceptionTable := #[], attributes := #[] }
def k5m0 : Method := { name := "<init>", desc := "(Ljava/math/BigInteger;JII)V", sig := { parameters := [(.object "java/math/BigInteger"), .long, .int, .int], returnType := none }, accessFlags := 0, code := some k5c0 }
def k5c1 : Code := { maxStack := 7, maxLocals := 3, code := jdk_17_method_20_code, exceptionTable := #[], attributes := #[] }
def k5m1 : Method := { name := "valueOf", desc := "(JI)Ljava/math/BigDecimal;", sig := { parameters := [.long, .int], returnType := some (.object "java/math/BigDecimal") }, accessFlags := 9, code := some k5c1 }
def k5c2 : Code := { maxStack := 7, maxLocals := 1, code := jdk_17_method_24_code, exceptionTable := #[], attributes := #[] }
def k5m2 : Method := { name := "zeroValueOf", desc := "(I)Ljava/math/BigDecimal;", sig := { parameters := [.int], returnType := some (.object "java/math/BigDecimal") }, accessFlags := 8, code := some k5c2 }
def k5c3 : Code := { maxStack := 6, maxLocals := 2, code := jdk_17_method_26_code, exceptionTable := #[], attributes := #[] }
def k5m3 : Method := { name := "add", desc := "(Ljava/math/BigDecimal;)Ljava/math/BigDecimal;", sig := { parameters := [(.object "java/math/BigDecimal")], returnType := some (.object "java/math/BigDecimal") }, accessFlags := 1, code := some k5c3 }
def k5c4 : Code := { maxStack := 6, maxLocals := 2, code := jdk_17_method_29_code, exceptionTable := #[], attributes := #[] }
def k5m4 : Method := { name := "subtract", desc := "(Ljava/math/BigDecimal;)Ljava/math/BigDecimal;", sig := { parameters := [(.object "java/math/BigDecimal")], returnType := some (.object "java/math/BigDecimal") }, accessFlags := 1, code := some k5c4 }
def k5c5 : Code := { maxStack := 4, maxLocals := 1, code := jdk_17_method_58_code, exceptionTable := #[], attributes := #[] }
def k5m5 : Method := { name := "signum", desc := "()I", sig := { parameters := [], returnType := some .int }, accessFlags := 1, code := some k5c5 }
def k5c6 : Code := { maxStack := 8, maxLocals := 8, code := jdk_17_method_64_code, exceptionTable := #[], attributes := #[] }
def k5m6 : Method := { name := "setScale", desc := "(II)Ljava/math/BigDecimal;", sig := { parameters := [.int, .int], returnType := some (.object "java/math/BigDecimal") }, accessFlags := 1, code := some k5c6 }
def k5c7 : Code := { maxStack := 3, maxLocals := 2, code := jdk_17_method_65_code, exceptionTable := #[], attributes := #[] }
def k5m7 : Method := { name := "setScale", desc := "(I)Ljava/math/BigDecimal;", sig := { parameters := [.int], returnType := some (.object "java/math/BigDecimal") }, accessFlags := 1, code := some k5c7 }
def k5c8 : Code := { maxStack := 4, maxLocals := 7, code := jdk_17_method_72_code, exceptionTable := #[], attributes := #[] }
def k5m8 : Method := { name := "equals", desc := "(Ljava/lang/Object;)Z", sig := { parameters := [(.object "java/lang/Object")], returnType := some .boolean }, accessFlags := 1, code := some k5c8 }
def k5c9 : Code := { maxStack := 6, maxLocals := 6, code := jdk_17_method_132_code, exceptionTable := #[], attributes := #[] }
def k5m9 : Method := { name := "add", desc := "(JJ)J", sig := { parameters := [.long, .long], returnType := some .long }, accessFlags := 10, code := some k5c9 }
def k5c10 : Code := { maxStack := 5, maxLocals := 7, code := jdk_17_method_133_code, exceptionTable := #[], attributes := #[] }
def k5m10 : Method := { name := "add", desc := "(JJI)Ljava/math/BigDecimal;", sig := { parameters := [.long, .long, .int], returnType := some (.object "java/math/BigDecimal") }, accessFlags := 10, code := some k5c10 }
def k5c11 : Code := { maxStack := 7, maxLocals := 12, code := jdk_17_method_134_code, exceptionTable := #[], attributes := #[] }
def k5m11 : Method := { name := "add", desc := "(JIJI)Ljava/math/BigDecimal;", sig := { parameters := [.long, .int, .long, .int], returnType := some (.object "java/math/BigDecimal") }, accessFlags := 10, code := some k5c11 }
/-- java/math/BigDecimal -/
def k5 : Class := { plain "java/math/BigDecimal" (some 3) with
  accessFlags := 33
  interfaces := #[4]
  cf := some (fileOf pool5 3 #[.nestMembers #[500, 851, 770, 697]] #[{ accessFlags := 0, nameIndex := 15, descriptorIndex := 245, attributes := #[] }, { accessFlags := 9, nameIndex := 195, descriptorIndex := 330, attributes := #[] }, { accessFlags := 8, nameIndex := 241, descriptorIndex := 242, attributes := #[] }, { accessFlags := 1, nameIndex := 259, descriptorIndex := 269, attributes := #[] }, { accessFlags := 1, nameIndex := 336, descriptorIndex := 269, attributes := #[] }, { accessFlags := 1, nameIndex := 272, descriptorIndex := 162, attributes := #[] }, { accessFlags := 1, nameIndex := 293, descriptorIndex := 421, attributes := #[] }, { accessFlags := 1, nameIndex := 293, descriptorIndex := 242, attributes := #[] }, { accessFlags := 1, nameIndex := 554, descriptorIndex := 555, attributes := #[] }, { accessFlags := 10, nameIndex := 259, descriptorIndex := 322, attributes := #[] }, { accessFlags := 10, nameIndex := 259, descriptorIndex := 344, attributes := #[] }, { accessFlags := 10, nameIndex := 259, descriptorIndex := 260, attributes := #[] }] 33 12 #[1296] #[{ accessFlags := 26, nameIndex := 1298, descriptorIndex := 1299, attributes := #[] }, { accessFlags := 26, nameIndex := 1301, descriptorIndex := 20, attributes := #[] }, { accessFlags := 26, nameIndex := 1303, descriptorIndex := 20, attributes := #[] }, { accessFlags := 26, nameIndex := 1305, descriptorIndex := 20, attributes := #[] }, { accessFlags := 26, nameIndex := 1307, descriptorIndex := 20, attributes := #[] }, { accessFlags := 26, nameIndex := 1309, descriptorIndex := 20, attributes := #[] }, { accessFlags := 26, nameIndex := 1311, descriptorIndex := 20, attributes := #[] }, { accessFlags := 18, nameIndex := 30, descriptorIndex := 31, attributes := #[] }, { accessFlags := 18, nameIndex := 19, descriptorIndex := 20, attributes := #[] }, { accessFlags := 130, nameIndex := 23, descriptorIndex := 20, attributes := #[] }, { accessFlags := 130, nameIndex := 643, descriptorIndex := 644, attributes := #[] }, { accessFlags := 24, nameIndex := 1313, descriptorIndex := 27, attributes := #[] }, { accessFlags := 26, nameIndex := 190, descriptorIndex := 31, attributes := #[] }, { accessFlags := 146, nameIndex := 26, descriptorIndex := 27, attributes := #[] }, { accessFlags := 26, nameIndex := 1314, descriptorIndex := 20, attributes := #[] }, { accessFlags := 26, nameIndex := 1316, descriptorIndex := 27, attributes := #[] }, { accessFlags := 26, nameIndex := 248, descriptorIndex := 249, attributes := #[] }, { accessFlags := 26, nameIndex := 252, descriptorIndex := 249, attributes := #[] }, { accessFlags := 26, nameIndex := 1319, descriptorIndex := 27, attributes := #[] }, { accessFlags := 26, nameIndex := 1320, descriptorIndex := 27, attributes := #[] }, { accessFlags := 25, nameIndex := 187, descriptorIndex := 479, attributes := #[] }, { accessFlags := 25, nameIndex := 535, descriptorIndex := 479, attributes := #[] }, { accessFlags := 25, nameIndex := 206, descriptorIndex := 479, attributes := #[] }, { accessFlags := 25, nameIndex := 485, descriptorIndex := 479, attributes := #[] }, { accessFlags := 26, nameIndex := 478, descriptorIndex := 479, attributes := #[] }, { accessFlags := 26, nameIndex := 518, descriptorIndex := 479, attributes := #[] }, { accessFlags := 25, nameIndex := 1321, descriptorIndex := 20, attributes := #[] }, { accessFlags := 25, nameIndex := 1328, descriptorIndex := 20, attributes := #[] }, { accessFlags := 25, nameIndex := 1330, descriptorIndex := 20, attributes := #[] }, { accessFlags := 25, nameIndex := 1332, descriptorIndex := 20, attributes := #[] }, { accessFlags := 25, nameIndex := 1334, descriptorIndex := 20, attributes := #[] }, { accessFlags := 25, nameIndex := 1336, descriptorIndex := 20, attributes := #[] }, { accessFlags := 25, nameIndex := 1338, descriptorIndex := 20, attributes := #[] }, { accessFlags := 25, nameIndex := 1340, descriptorIndex := 20, attributes := #[] }, { accessFlags := 26, nameIndex := 749, descriptorIndex := 750, attributes := #[] }, { accessFlags := 26, nameIndex := 708, descriptorIndex := 709, attributes := #[] }, { accessFlags := 26, nameIndex := 97, descriptorIndex := 98, attributes := #[] }, { accessFlags := 74, nameIndex := 811, descriptorIndex := 812, attributes := #[] }, { accessFlags := 26, nameIndex := 1182, descriptorIndex := 20, attributes := #[] }, { accessFlags := 26, nameIndex := 808, descriptorIndex := 20, attributes := #[] }, { accessFlags := 26, nameIndex := 827, descriptorIndex := 98, attributes := #[] }, { accessFlags := 26, nameIndex := 1342, descriptorIndex := 27, attributes := #[] }, { accessFlags := 26, nameIndex := 1068, descriptorIndex := 1069, attributes := #[] }, { accessFlags := 4120, nameIndex := 313, descriptorIndex := 314, attributes := #[] }])
  fields := #[{ name := "L", type := .double, accessFlags := 26, slot := 0, constantValue := 0 }, { name := "P_F", type := .int, accessFlags := 26, slot := 1, constantValue := 0 }, { name := "Q_MIN_F", type := .int, accessFlags := 26, slot := 2, constantValue := 0 }, { name := "Q_MAX_F", type := .int, accessFlags := 26, slot := 3, constantValue := 0 }, { name := "P_D", type := .int, accessFlags := 26, slot := 4, constantValue := 0 }, { name := "Q_MIN_D", type := .int, accessFlags := 26, slot := 5, constantValue := 0 }, { name := "Q_MAX_D", type := .int, accessFlags := 26, slot := 6, constantValue := 0 }, { name := "intVal", type := (.object "java/math/BigInteger"), accessFlags := 18, slot := 0, constantValue := 0 }, { name := "scale", type := .int, accessFlags := 18, slot := 1, constantValue := 0 }, { name := "precision", type := .int, accessFlags := 130, slot := 2, constantValue := 0 }, { name := "stringCache", type := (.object "java/lang/String"), accessFlags := 130, slot := 3, constantValue := 0 }, { name := "INFLATED", type := .long, accessFlags := 24, slot := 7, constantValue := 0 }, { name := "INFLATED_BIGINT", type := (.object "java/math/BigInteger"), accessFlags := 26, slot := 8, constantValue := 0 }, { name := "intCompact", type := .long, accessFlags := 146, slot := 4, constantValue := 0 }, { name := "MAX_COMPACT_DIGITS", type := .int, accessFlags := 26, slot := 9, constantValue := 0 }, { name := "serialVersionUID", type := .long, accessFlags := 26, slot := 10, constantValue := 0 }, { name := "ZERO_THROUGH_TEN", type := (.array (.object "java/math/BigDecimal")), accessFlags := 26, slot := 11, constantValue := 0 }, { name := "ZERO_SCALED_BY", type := (.array (.object "java/math/BigDecimal")), accessFlags := 26, slot := 12, constantValue := 0 }, { name := "HALF_LONG_MAX_VALUE", type := .long, accessFlags := 26, slot := 13, constantValue := 0 }, { name := "HALF_LONG_MIN_VALUE", type := .long, accessFlags := 26, slot := 14, constantValue := 0 }, { name := "ZERO", type := (.object "java/math/BigDecimal"), accessFlags := 25, slot := 15, constantValue := 0 }, { name := "ONE", type := (.object "java/math/BigDecimal"), accessFlags := 25, slot := 16, constantValue := 0 }, { name := "TWO", type := (.object "java/math/BigDecimal"), accessFlags := 25, slot := 17, constantValue := 0 }, { name := "TEN", type := (.object "java/math/BigDecimal"), accessFlags := 25, slot := 18, constantValue := 0 }, { name := "ONE_TENTH", type := (.object "java/math/BigDecimal"), accessFlags := 26, slot := 19, constantValue := 0 }, { name := "ONE_HALF", type := (.object "java/math/BigDecimal"), accessFlags := 26, slot := 20, constantValue := 0 }, { name := "ROUND_UP", type := .int, accessFlags := 25, slot := 21, constantValue := 0 }, { name := "ROUND_DOWN", type := .int, accessFlags := 25, slot := 22, constantValue := 0 }, { name := "ROUND_CEILING", type := .int, accessFlags := 25, slot := 23, constantValue := 0 }, { name := "ROUND_FLOOR", type := .int, accessFlags := 25, slot := 24, constantValue := 0 }, { name := "ROUND_HALF_UP", type := .int, accessFlags := 25, slot := 25, constantValue := 0 }, { name := "ROUND_HALF_DOWN", type := .int, accessFlags := 25, slot := 26, constantValue := 0 }, { name := "ROUND_HALF_EVEN", type := .int, accessFlags := 25, slot := 27, constantValue := 0 }, { name := "ROUND_UNNECESSARY", type := .int, accessFlags := 25, slot := 28, constantValue := 0 }, { name := "DOUBLE_10_POW", type := (.array .double), accessFlags := 26, slot := 29, constantValue := 0 }, { name := "FLOAT_10_POW", type := (.array .float), accessFlags := 26, slot := 30, constantValue := 0 }, { name := "LONG_TEN_POWERS_TABLE", type := (.array .long), accessFlags := 26, slot := 31, constantValue := 0 }, { name := "BIG_TEN_POWERS_TABLE", type := (.array (.object "java/math/BigInteger")), accessFlags := 74, slot := 32, constantValue := 0 }, { name := "BIG_TEN_POWERS_TABLE_INITLEN", type := .int, accessFlags := 26, slot := 33, constantValue := 0 }, { name := "BIG_TEN_POWERS_TABLE_MAX", type := .int, accessFlags := 26, slot := 34, constantValue := 0 }, { name := "THRESHOLDS_TABLE", type := (.array .long), accessFlags := 26, slot := 35, constantValue := 0 }, { name := "DIV_NUM_BASE", type := .long, accessFlags := 26, slot := 36, constantValue := 0 }, { name := "LONGLONG_TEN_POWERS_TABLE", type := (.array (.array .long)), accessFlags := 26, slot := 37, constantValue := 0 }, { name := "$assertionsDisabled", type := .boolean, accessFlags := 4120, slot := 38, constantValue := 0 }]
  methods := #[k5m0, k5m1, k5m2, k5m3, k5m4, k5m5, k5m6, k5m7, k5m8, k5m9, k5m10, k5m11]
  instanceTypes := #[(.object "java/math/BigInteger"), .int, .int, (.object "java/lang/String"), .long]
  staticTypes := #[.double, .int, .int, .int, .int, .int, .int, .long, (.object "java/math/BigInteger"), .int, .long, (.array (.object "java/math/BigDecimal")), (.array (.object "java/math/BigDecimal")), .long, .long, (.object "java/math/BigDecimal"), (.object "java/math/BigDecimal"), (.object "java/math/BigDecimal"), (.object "java/math/BigDecimal"), (.object "java/math/BigDecimal"), (.object "java/math/BigDecimal"), .int, .int, .int, .int, .int, .int, .int, .int, (.array .double), (.array .float), (.array .long), (.array (.object "java/math/BigInteger")), .int, .int, (.array .long), .long, (.array (.array .long)), .boolean]
  resolved := Array.replicate 1637 none
  statics := some 0 }

def pool6 : Array CpInfo := pool [(1, .methodref 2 3), (0, .class_ 4), (0, .nameAndType 5 6), (0, u "java/lang/Object"), (0, u "<init>"), (0, u "()V"), (0, .fieldref 8 9), (0, .class_ 10), (0, .nameAndType 11 12), (0, u "java/math/BigDecimal"), (0, u "ZERO"), (0, u "Ljava/math/BigDecimal;"), (0, .methodref 8 14), (0, .nameAndType 15 16), (0, u "setScale"), (0, u "(I)Ljava/math/BigDecimal;"), (0, .fieldref 18 19), (0, .class_ 20), (0, .nameAndType 21 12), (0, u "com/example/diligent_tariff/diligenttariff/billing/ClassImpact"), (0, u "current"), (0, .fieldref 18 23), (0, .nameAndType 24 12), (0, u "proposed"), (0, .methodref 26 27), (0, .class_ 28), (0, .nameAndType 29 30), (0, u "com/example/diligent_tariff/diligenttariff/billing/Comparison"), (0, u "getDifference"), (0, u "()Ljava/math/BigDecimal;"), (0, .methodref 8 32), (0, .nameAndType 33 34), (0, u "signum"), (0, u "()I"), (0, .fieldref 18 36), (0, .nameAndType 37 38), (0, u "accounts"), (0, u "I"), (0, .fieldref 18 40), (0, .nameAndType 41 42), (0, u "bills"), (0, u "J"), (0, .methodref 26 44), (0, .nameAndType 45 30), (0, u "getCurrent"), (0, .methodref 8 47), (0, .nameAndType 48 49), (0, u "add"), (0, u "(Ljava/math/BigDecimal;)Ljava/math/BigDecimal;"), (0, .methodref 26 51), (0, .nameAndType 52 30), (0, u "getProposed"), (0, .fieldref 18 54), (0, .nameAndType 55 38), (0, u "higher"), (0, .fieldref 18 57), (0, .nameAndType 58 38), (0, u "unchanged"), (0, .fieldref 18 60), (0, .nameAndType 61 38), (0, u "lower"), (0, .methodref 26 63), (0, .nameAndType 5 64), (0, u "(Ljava/math/BigDecimal;Ljava/math/BigDecimal;)V"), (2, u "(ILcom/example/diligent_tariff/diligenttariff/billing/Comparison;)V"), (4, u "getComparison"), (0, u "()Lcom/example/diligent_tariff/diligenttariff/billing/Comparison;")] 5

def k6c0 : Code := { maxStack := 3, maxLocals := 1, code := prog_4_method_1_code, exceptionTable := #[], attributes := #[] }
def k6m0 : Method := { name := "<init>", desc := "()V", sig := { parameters := [], returnType := none }, accessFlags := 1, code := some k6c0 }
def k6c1 : Code := { maxStack := 5, maxLocals := 4, code := prog_4_method_2_code, exceptionTable := #[], attributes := #[] }
def k6m1 : Method := { name := "add", desc := "(ILcom/example/diligent_tariff/diligenttariff/billing/Comparison;)V", sig := { parameters := [.int, (.object "com/example/diligent_tariff/diligenttariff/billing/Comparison")], returnType := none }, accessFlags := 1, code := some k6c1 }
def k6c2 : Code := { maxStack := 4, maxLocals := 1, code := prog_4_method_5_code, exceptionTable := #[], attributes := #[] }
def k6m2 : Method := { name := "getComparison", desc := "()Lcom/example/diligent_tariff/diligenttariff/billing/Comparison;", sig := { parameters := [], returnType := some (.object "com/example/diligent_tariff/diligenttariff/billing/Comparison") }, accessFlags := 1, code := some k6c2 }
/-- com/example/diligent_tariff/diligenttariff/billing/ClassImpact -/
def k6 : Class := { plain "com/example/diligent_tariff/diligenttariff/billing/ClassImpact" (some 0) with
  accessFlags := 49
  interfaces := #[]
  cf := some (fileOf pool6 18 #[] #[{ accessFlags := 1, nameIndex := 5, descriptorIndex := 6, attributes := #[] }, { accessFlags := 1, nameIndex := 48, descriptorIndex := 67, attributes := #[] }, { accessFlags := 1, nameIndex := 72, descriptorIndex := 73, attributes := #[] }] 49 2 #[] #[{ accessFlags := 2, nameIndex := 37, descriptorIndex := 38, attributes := #[] }, { accessFlags := 2, nameIndex := 41, descriptorIndex := 42, attributes := #[] }, { accessFlags := 2, nameIndex := 21, descriptorIndex := 12, attributes := #[] }, { accessFlags := 2, nameIndex := 24, descriptorIndex := 12, attributes := #[] }, { accessFlags := 2, nameIndex := 55, descriptorIndex := 38, attributes := #[] }, { accessFlags := 2, nameIndex := 58, descriptorIndex := 38, attributes := #[] }, { accessFlags := 2, nameIndex := 61, descriptorIndex := 38, attributes := #[] }])
  fields := #[{ name := "accounts", type := .int, accessFlags := 2, slot := 0, constantValue := 0 }, { name := "bills", type := .long, accessFlags := 2, slot := 1, constantValue := 0 }, { name := "current", type := (.object "java/math/BigDecimal"), accessFlags := 2, slot := 2, constantValue := 0 }, { name := "proposed", type := (.object "java/math/BigDecimal"), accessFlags := 2, slot := 3, constantValue := 0 }, { name := "higher", type := .int, accessFlags := 2, slot := 4, constantValue := 0 }, { name := "unchanged", type := .int, accessFlags := 2, slot := 5, constantValue := 0 }, { name := "lower", type := .int, accessFlags := 2, slot := 6, constantValue := 0 }]
  methods := #[k6m0, k6m1, k6m2]
  instanceTypes := #[.int, .long, (.object "java/math/BigDecimal"), (.object "java/math/BigDecimal"), .int, .int, .int]
  staticTypes := #[]
  resolved := Array.replicate 79 none
  statics := none }

def pool7 : Array CpInfo := pool [(1, .class_ 2), (0, u "java/lang/constant/Constable"), (0, .class_ 4), (0, u "java/lang/Object")] 6

/-- java/lang/constant/Constable -/
def k7 : Class := { plain "java/lang/constant/Constable" (some 0) with
  accessFlags := 1537
  interfaces := #[]
  cf := some (fileOf pool7 1 #[] #[] 1537 3 #[] #[])
  fields := #[]
  methods := #[]
  instanceTypes := #[]
  staticTypes := #[]
  resolved := Array.replicate 11 none
  statics := none }

def pool8 : Array CpInfo := pool [(1, .class_ 2), (0, u "java/lang/constant/ConstantDesc"), (0, .class_ 4), (0, u "java/lang/Object")] 32

/-- java/lang/constant/ConstantDesc -/
def k8 : Class := { plain "java/lang/constant/ConstantDesc" (some 0) with
  accessFlags := 1537
  interfaces := #[]
  cf := some (fileOf pool8 1 #[] #[] 1537 3 #[] #[])
  fields := #[]
  methods := #[]
  instanceTypes := #[]
  staticTypes := #[]
  resolved := Array.replicate 37 none
  statics := none }

def pool9 : Array CpInfo := pool [(1, .class_ 2), (0, u "java/lang/Long"), (98, u "(J)I"), (133, .class_ 237), (1, u "java/lang/Long$LongCache"), (33, .class_ 272), (0, u "java/lang/Number"), (2, u "value"), (0, u "J"), (84, u "TYPE"), (0, u "Ljava/lang/Class;"), (0, .class_ 364), (0, u "java/lang/Comparable"), (0, .class_ 366), (0, u "java/lang/constant/Constable"), (0, .class_ 368), (0, u "java/lang/constant/ConstantDesc"), (0, u "MIN_VALUE"), (1, u "MAX_VALUE"), (4, u "SIZE"), (0, u "I"), (1, u "BYTES"), (1, u "serialVersionUID"), (115, u "signum")] 26

def k9c0 : Code := { maxStack := 5, maxLocals := 2, code := jdk_35_method_57_code, exceptionTable := #[], attributes := #[] }
def k9m0 : Method := { name := "signum", desc := "(J)I", sig := { parameters := [.long], returnType := some .int }, accessFlags := 9, code := some k9c0 }
/-- java/lang/Long -/
def k9 : Class := { plain "java/lang/Long" (some 3) with
  accessFlags := 49
  interfaces := #[4, 7, 8]
  cf := some (fileOf pool9 1 #[.nestMembers #[235]] #[{ accessFlags := 9, nameIndex := 497, descriptorIndex := 101, attributes := #[] }] 49 271 #[363, 365, 367] #[{ accessFlags := 25, nameIndex := 369, descriptorIndex := 276, attributes := #[] }, { accessFlags := 25, nameIndex := 371, descriptorIndex := 276, attributes := #[] }, { accessFlags := 25, nameIndex := 361, descriptorIndex := 362, attributes := #[] }, { accessFlags := 18, nameIndex := 275, descriptorIndex := 276, attributes := #[] }, { accessFlags := 25, nameIndex := 376, descriptorIndex := 377, attributes := #[] }, { accessFlags := 25, nameIndex := 379, descriptorIndex := 377, attributes := #[] }, { accessFlags := 26, nameIndex := 381, descriptorIndex := 276, attributes := #[] }])
  fields := #[{ name := "MIN_VALUE", type := .long, accessFlags := 25, slot := 0, constantValue := 0 }, { name := "MAX_VALUE", type := .long, accessFlags := 25, slot := 1, constantValue := 0 }, { name := "TYPE", type := (.object "java/lang/Class"), accessFlags := 25, slot := 2, constantValue := 0 }, { name := "value", type := .long, accessFlags := 18, slot := 0, constantValue := 0 }, { name := "SIZE", type := .int, accessFlags := 25, slot := 3, constantValue := 0 }, { name := "BYTES", type := .int, accessFlags := 25, slot := 4, constantValue := 0 }, { name := "serialVersionUID", type := .long, accessFlags := 26, slot := 5, constantValue := 0 }]
  methods := #[k9m0]
  instanceTypes := #[.long]
  staticTypes := #[.long, .long, (.object "java/lang/Class"), .int, .int, .long]
  resolved := Array.replicate 524 none
  statics := none }

def pool10 : Array CpInfo := pool [(1, .methodref 2 3), (0, .class_ 4), (0, .nameAndType 5 6), (0, u "java/lang/Object"), (0, u "<init>"), (0, u "()V"), (0, .methodref 8 9), (0, .class_ 10), (0, .nameAndType 11 12), (0, u "java/util/Objects"), (0, u "requireNonNull"), (0, u "(Ljava/lang/Object;)Ljava/lang/Object;"), (0, .class_ 14), (0, u "java/math/BigDecimal"), (0, .fieldref 16 17), (0, .class_ 18), (0, .nameAndType 19 20), (0, u "com/example/diligent_tariff/diligenttariff/billing/Comparison"), (0, u "current"), (0, u "Ljava/math/BigDecimal;"), (0, .fieldref 16 22), (0, .nameAndType 23 20), (0, u "proposed"), (0, .methodref 13 25), (0, .nameAndType 26 27), (0, u "subtract"), (0, u "(Ljava/math/BigDecimal;)Ljava/math/BigDecimal;"), (2, u "getDifference"), (0, u "()Ljava/math/BigDecimal;"), (23, u "HUNDRED"), (5, u "HALF_AWAY_FROM_ZERO"), (0, u "Ljava/math/RoundingMode;"), (15, u "PERCENT_DECIMALS"), (0, u "I"), (2, u "(Ljava/math/BigDecimal;Ljava/math/BigDecimal;)V"), (2, u "getCurrent"), (0, u "getProposed")] 7

def k10c0 : Code := { maxStack := 2, maxLocals := 3, code := prog_6_method_1_code, exceptionTable := #[], attributes := #[] }
def k10m0 : Method := { name := "<init>", desc := "(Ljava/math/BigDecimal;Ljava/math/BigDecimal;)V", sig := { parameters := [(.object "java/math/BigDecimal"), (.object "java/math/BigDecimal")], returnType := none }, accessFlags := 1, code := some k10c0 }
def k10c1 : Code := { maxStack := 1, maxLocals := 1, code := prog_6_method_2_code, exceptionTable := #[], attributes := #[] }
def k10m1 : Method := { name := "getCurrent", desc := "()Ljava/math/BigDecimal;", sig := { parameters := [], returnType := some (.object "java/math/BigDecimal") }, accessFlags := 1, code := some k10c1 }
def k10c2 : Code := { maxStack := 1, maxLocals := 1, code := prog_6_method_3_code, exceptionTable := #[], attributes := #[] }
def k10m2 : Method := { name := "getProposed", desc := "()Ljava/math/BigDecimal;", sig := { parameters := [], returnType := some (.object "java/math/BigDecimal") }, accessFlags := 1, code := some k10c2 }
def k10c3 : Code := { maxStack := 2, maxLocals := 1, code := prog_6_method_4_code, exceptionTable := #[], attributes := #[] }
def k10m3 : Method := { name := "getDifference", desc := "()Ljava/math/BigDecimal;", sig := { parameters := [], returnType := some (.object "java/math/BigDecimal") }, accessFlags := 1, code := some k10c3 }
/-- com/example/diligent_tariff/diligenttariff/billing/Comparison -/
def k10 : Class := { plain "com/example/diligent_tariff/diligenttariff/billing/Comparison" (some 0) with
  accessFlags := 49
  interfaces := #[]
  cf := some (fileOf pool10 16 #[] #[{ accessFlags := 1, nameIndex := 5, descriptorIndex := 82, attributes := #[] }, { accessFlags := 1, nameIndex := 85, descriptorIndex := 31, attributes := #[] }, { accessFlags := 1, nameIndex := 86, descriptorIndex := 31, attributes := #[] }, { accessFlags := 1, nameIndex := 30, descriptorIndex := 31, attributes := #[] }] 49 2 #[] #[{ accessFlags := 26, nameIndex := 55, descriptorIndex := 20, attributes := #[] }, { accessFlags := 26, nameIndex := 78, descriptorIndex := 79, attributes := #[] }, { accessFlags := 26, nameIndex := 61, descriptorIndex := 62, attributes := #[] }, { accessFlags := 18, nameIndex := 19, descriptorIndex := 20, attributes := #[] }, { accessFlags := 18, nameIndex := 23, descriptorIndex := 20, attributes := #[] }])
  fields := #[{ name := "HUNDRED", type := (.object "java/math/BigDecimal"), accessFlags := 26, slot := 0, constantValue := 0 }, { name := "PERCENT_DECIMALS", type := .int, accessFlags := 26, slot := 1, constantValue := 0 }, { name := "HALF_AWAY_FROM_ZERO", type := (.object "java/math/RoundingMode"), accessFlags := 26, slot := 2, constantValue := 0 }, { name := "current", type := (.object "java/math/BigDecimal"), accessFlags := 18, slot := 0, constantValue := 0 }, { name := "proposed", type := (.object "java/math/BigDecimal"), accessFlags := 18, slot := 1, constantValue := 0 }]
  methods := #[k10m0, k10m1, k10m2, k10m3]
  instanceTypes := #[(.object "java/math/BigDecimal"), (.object "java/math/BigDecimal")]
  staticTypes := #[(.object "java/math/BigDecimal"), .int, (.object "java/math/RoundingMode")]
  resolved := Array.replicate 94 none
  statics := none }

def pool11 : Array CpInfo := pool [(2, .class_ 4), (1, u "java/lang/Object"), (0, u "<init>"), (0, u "()V"), (35, .class_ 44), (1, u "java/util/Objects"), (0, u "requireNonNull"), (0, u "(Ljava/lang/Object;)Ljava/lang/Object;")] 137

def k11m0 : Method := { name := "<init>", desc := "()V", sig := { parameters := [], returnType := none }, accessFlags := 2, code := none }
def k11c1 : Code := { maxStack := 2, maxLocals := 1, code := jdk_31_method_10_code, exceptionTable := #[], attributes := #[] }
def k11m1 : Method := { name := "requireNonNull", desc := "(Ljava/lang/Object;)Ljava/lang/Object;", sig := { parameters := [(.object "java/lang/Object")], returnType := some (.object "java/lang/Object") }, accessFlags := 9, code := some k11c1 }
/-- java/util/Objects -/
def k11 : Class := { plain "java/util/Objects" (some 0) with
  accessFlags := 49
  interfaces := #[]
  cf := some (fileOf pool11 42 #[] #[{ accessFlags := 2, nameIndex := 5, descriptorIndex := 6, attributes := #[] }, { accessFlags := 9, nameIndex := 45, descriptorIndex := 46, attributes := #[] }] 49 2 #[] #[])
  fields := #[]
  methods := #[k11m0, k11m1]
  instanceTypes := #[]
  staticTypes := #[]
  resolved := Array.replicate 184 none
  statics := none }

def pool12 : Array CpInfo := pool [(4, .class_ 6), (1, u "java/lang/Number"), (16, .class_ 25), (1, u "java/math/BigInteger"), (0, u "ZERO"), (0, u "Ljava/math/BigInteger;"), (2, u "mag"), (0, u "[I"), (2, u "signum"), (0, u "I"), (59, u "bitsPerDigit"), (0, u "[J"), (9, u "digitsPerInt"), (12, u "intRadix"), (60, u "SMALL_PRIME_PRODUCT"), (79, u "ONE"), (6, u "TWO"), (43, u "$assertionsDisabled"), (0, u "Z"), (36, u "posConst"), (0, u "[Ljava/math/BigInteger;"), (4, u "negConst"), (116, .class_ 474), (1, u "java/math/BigInteger$RecursiveOp"), (106, u "NEGATIVE_ONE"), (91, u "bnExpModThreshTable"), (72, u "lowestSetBitPlusTwo"), (2, u "bitLengthPlusOne"), (2, u "bitCountPlusOne"), (6, u "LOG_TWO"), (0, u "D"), (2, u "logCache"), (0, u "[D"), (13, u "NUM_ZEROS"), (2, u "ZEROS"), (0, u "Ljava/lang/String;"), (9, u "longRadix"), (5, u "digitsPerLong"), (22, u "powerCache"), (0, u "[[Ljava/math/BigInteger;"), (45, u "firstNonzeroIntNumPlusTwo"), (38, .class_ 909), (1, u "java/math/BigInteger$UnsafeHolder"), (141, u "TEN"), (106, u "serialPersistentFields"), (0, u "[Ljava/io/ObjectStreamField;"), (0, .class_ 1161), (0, u "java/lang/Comparable"), (0, u "LONG_MASK"), (0, u "J"), (1, u "MAX_MAG_LENGTH"), (0, u "PRIME_SEARCH_BIT_LENGTH_LIMIT"), (1, u "KARATSUBA_THRESHOLD"), (1, u "TOOM_COOK_THRESHOLD"), (1, u "KARATSUBA_SQUARE_THRESHOLD"), (1, u "TOOM_COOK_SQUARE_THRESHOLD"), (1, u "BURNIKEL_ZIEGLER_THRESHOLD"), (0, u "BURNIKEL_ZIEGLER_OFFSET"), (1, u "SCHOENHAGE_BASE_CONVERSION_THRESHOLD"), (1, u "MULTIPLY_SQUARE_THRESHOLD"), (0, u "MONTGOMERY_INTRINSIC_THRESHOLD"), (1, u "SMALL_PRIME_THRESHOLD"), (1, u "DEFAULT_PRIME_CERTAINTY"), (1, u "MAX_CONSTANT"), (3, u "serialVersionUID"), (338, .class_ 1532), (0, u "java/math/BigInteger$RecursiveOp$RecursiveSquare"), (0, .class_ 1534), (0, u "java/math/BigInteger$RecursiveOp$RecursiveMultiply")] 7

/-- java/math/BigInteger -/
def k12 : Class := { plain "java/math/BigInteger" (some 3) with
  accessFlags := 33
  interfaces := #[4]
  cf := some (fileOf pool12 23 #[.nestMembers #[907, 472, 1531, 1533]] #[] 33 4 #[1160] #[{ accessFlags := 16, nameIndex := 34, descriptorIndex := 35, attributes := #[] }, { accessFlags := 16, nameIndex := 30, descriptorIndex := 31, attributes := #[] }, { accessFlags := 2, nameIndex := 752, descriptorIndex := 35, attributes := #[] }, { accessFlags := 2, nameIndex := 749, descriptorIndex := 35, attributes := #[] }, { accessFlags := 2, nameIndex := 746, descriptorIndex := 35, attributes := #[] }, { accessFlags := 2, nameIndex := 868, descriptorIndex := 35, attributes := #[] }, { accessFlags := 24, nameIndex := 1162, descriptorIndex := 1163, attributes := #[] }, { accessFlags := 26, nameIndex := 1165, descriptorIndex := 35, attributes := #[] }, { accessFlags := 26, nameIndex := 1166, descriptorIndex := 35, attributes := #[] }, { accessFlags := 26, nameIndex := 1168, descriptorIndex := 35, attributes := #[] }, { accessFlags := 26, nameIndex := 1170, descriptorIndex := 35, attributes := #[] }, { accessFlags := 26, nameIndex := 1172, descriptorIndex := 35, attributes := #[] }, { accessFlags := 26, nameIndex := 1174, descriptorIndex := 35, attributes := #[] }, { accessFlags := 24, nameIndex := 1176, descriptorIndex := 35, attributes := #[] }, { accessFlags := 24, nameIndex := 1177, descriptorIndex := 35, attributes := #[] }, { accessFlags := 26, nameIndex := 1179, descriptorIndex := 35, attributes := #[] }, { accessFlags := 26, nameIndex := 1181, descriptorIndex := 35, attributes := #[] }, { accessFlags := 26, nameIndex := 1182, descriptorIndex := 35, attributes := #[] }, { accessFlags := 10, nameIndex := 95, descriptorIndex := 96, attributes := #[] }, { accessFlags := 26, nameIndex := 1184, descriptorIndex := 35, attributes := #[] }, { accessFlags := 26, nameIndex := 1186, descriptorIndex := 35, attributes := #[] }, { accessFlags := 26, nameIndex := 180, descriptorIndex := 27, attributes := #[] }, { accessFlags := 26, nameIndex := 1188, descriptorIndex := 35, attributes := #[] }, { accessFlags := 26, nameIndex := 349, descriptorIndex := 350, attributes := #[] }, { accessFlags := 26, nameIndex := 355, descriptorIndex := 350, attributes := #[] }, { accessFlags := 74, nameIndex := 821, descriptorIndex := 822, attributes := #[] }, { accessFlags := 26, nameIndex := 763, descriptorIndex := 764, attributes := #[] }, { accessFlags := 26, nameIndex := 759, descriptorIndex := 760, attributes := #[] }, { accessFlags := 25, nameIndex := 26, descriptorIndex := 27, attributes := #[] }, { accessFlags := 25, nameIndex := 260, descriptorIndex := 27, attributes := #[] }, { accessFlags := 25, nameIndex := 267, descriptorIndex := 27, attributes := #[] }, { accessFlags := 26, nameIndex := 581, descriptorIndex := 27, attributes := #[] }, { accessFlags := 25, nameIndex := 1051, descriptorIndex := 27, attributes := #[] }, { accessFlags := 8, nameIndex := 673, descriptorIndex := 31, attributes := #[] }, { accessFlags := 10, nameIndex := 778, descriptorIndex := 35, attributes := #[] }, { accessFlags := 26, nameIndex := 781, descriptorIndex := 782, attributes := #[] }, { accessFlags := 10, nameIndex := 798, descriptorIndex := 31, attributes := #[] }, { accessFlags := 10, nameIndex := 792, descriptorIndex := 350, attributes := #[] }, { accessFlags := 10, nameIndex := 106, descriptorIndex := 31, attributes := #[] }, { accessFlags := 10, nameIndex := 119, descriptorIndex := 31, attributes := #[] }, { accessFlags := 26, nameIndex := 1192, descriptorIndex := 1163, attributes := #[] }, { accessFlags := 26, nameIndex := 1158, descriptorIndex := 1159, attributes := #[] }, { accessFlags := 4120, nameIndex := 311, descriptorIndex := 312, attributes := #[] }])
  fields := #[{ name := "signum", type := .int, accessFlags := 16, slot := 0, constantValue := 0 }, { name := "mag", type := (.array .int), accessFlags := 16, slot := 1, constantValue := 0 }, { name := "bitCountPlusOne", type := .int, accessFlags := 2, slot := 2, constantValue := 0 }, { name := "bitLengthPlusOne", type := .int, accessFlags := 2, slot := 3, constantValue := 0 }, { name := "lowestSetBitPlusTwo", type := .int, accessFlags := 2, slot := 4, constantValue := 0 }, { name := "firstNonzeroIntNumPlusTwo", type := .int, accessFlags := 2, slot := 5, constantValue := 0 }, { name := "LONG_MASK", type := .long, accessFlags := 24, slot := 0, constantValue := 0 }, { name := "MAX_MAG_LENGTH", type := .int, accessFlags := 26, slot := 1, constantValue := 0 }, { name := "PRIME_SEARCH_BIT_LENGTH_LIMIT", type := .int, accessFlags := 26, slot := 2, constantValue := 0 }, { name := "KARATSUBA_THRESHOLD", type := .int, accessFlags := 26, slot := 3, constantValue := 0 }, { name := "TOOM_COOK_THRESHOLD", type := .int, accessFlags := 26, slot := 4, constantValue := 0 }, { name := "KARATSUBA_SQUARE_THRESHOLD", type := .int, accessFlags := 26, slot := 5, constantValue := 0 }, { name := "TOOM_COOK_SQUARE_THRESHOLD", type := .int, accessFlags := 26, slot := 6, constantValue := 0 }, { name := "BURNIKEL_ZIEGLER_THRESHOLD", type := .int, accessFlags := 24, slot := 7, constantValue := 0 }, { name := "BURNIKEL_ZIEGLER_OFFSET", type := .int, accessFlags := 24, slot := 8, constantValue := 0 }, { name := "SCHOENHAGE_BASE_CONVERSION_THRESHOLD", type := .int, accessFlags := 26, slot := 9, constantValue := 0 }, { name := "MULTIPLY_SQUARE_THRESHOLD", type := .int, accessFlags := 26, slot := 10, constantValue := 0 }, { name := "MONTGOMERY_INTRINSIC_THRESHOLD", type := .int, accessFlags := 26, slot := 11, constantValue := 0 }, { name := "bitsPerDigit", type := (.array .long), accessFlags := 10, slot := 12, constantValue := 0 }, { name := "SMALL_PRIME_THRESHOLD", type := .int, accessFlags := 26, slot := 13, constantValue := 0 }, { name := "DEFAULT_PRIME_CERTAINTY", type := .int, accessFlags := 26, slot := 14, constantValue := 0 }, { name := "SMALL_PRIME_PRODUCT", type := (.object "java/math/BigInteger"), accessFlags := 26, slot := 15, constantValue := 0 }, { name := "MAX_CONSTANT", type := .int, accessFlags := 26, slot := 16, constantValue := 0 }, { name := "posConst", type := (.array (.object "java/math/BigInteger")), accessFlags := 26, slot := 17, constantValue := 0 }, { name := "negConst", type := (.array (.object "java/math/BigInteger")), accessFlags := 26, slot := 18, constantValue := 0 }, { name := "powerCache", type := (.array (.array (.object "java/math/BigInteger"))), accessFlags := 74, slot := 19, constantValue := 0 }, { name := "logCache", type := (.array .double), accessFlags := 26, slot := 20, constantValue := 0 }, { name := "LOG_TWO", type := .double, accessFlags := 26, slot := 21, constantValue := 0 }, { name := "ZERO", type := (.object "java/math/BigInteger"), accessFlags := 25, slot := 22, constantValue := 0 }, { name := "ONE", type := (.object "java/math/BigInteger"), accessFlags := 25, slot := 23, constantValue := 0 }, { name := "TWO", type := (.object "java/math/BigInteger"), accessFlags := 25, slot := 24, constantValue := 0 }, { name := "NEGATIVE_ONE", type := (.object "java/math/BigInteger"), accessFlags := 26, slot := 25, constantValue := 0 }, { name := "TEN", type := (.object "java/math/BigInteger"), accessFlags := 25, slot := 26, constantValue := 0 }, { name := "bnExpModThreshTable", type := (.array .int), accessFlags := 8, slot := 27, constantValue := 0 }, { name := "NUM_ZEROS", type := .int, accessFlags := 10, slot := 28, constantValue := 0 }, { name := "ZEROS", type := (.object "java/lang/String"), accessFlags := 26, slot := 29, constantValue := 0 }, { name := "digitsPerLong", type := (.array .int), accessFlags := 10, slot := 30, constantValue := 0 }, { name := "longRadix", type := (.array (.object "java/math/BigInteger")), accessFlags := 10, slot := 31, constantValue := 0 }, { name := "digitsPerInt", type := (.array .int), accessFlags := 10, slot := 32, constantValue := 0 }, { name := "intRadix", type := (.array .int), accessFlags := 10, slot := 33, constantValue := 0 }, { name := "serialVersionUID", type := .long, accessFlags := 26, slot := 34, constantValue := 0 }, { name := "serialPersistentFields", type := (.array (.object "java/io/ObjectStreamField")), accessFlags := 26, slot := 35, constantValue := 0 }, { name := "$assertionsDisabled", type := .boolean, accessFlags := 4120, slot := 36, constantValue := 0 }]
  methods := #[]
  instanceTypes := #[.int, (.array .int), .int, .int, .int, .int]
  staticTypes := #[.long, .int, .int, .int, .int, .int, .int, .int, .int, .int, .int, .int, (.array .long), .int, .int, (.object "java/math/BigInteger"), .int, (.array (.object "java/math/BigInteger")), (.array (.object "java/math/BigInteger")), (.array (.array (.object "java/math/BigInteger"))), (.array .double), .double, (.object "java/math/BigInteger"), (.object "java/math/BigInteger"), (.object "java/math/BigInteger"), (.object "java/math/BigInteger"), (.object "java/math/BigInteger"), (.array .int), .int, (.object "java/lang/String"), (.array .int), (.array (.object "java/math/BigInteger")), (.array .int), (.array .int), .long, (.array (.object "java/io/ObjectStreamField")), .boolean]
  resolved := Array.replicate 1542 none
  statics := some 1 }

def pool13 : Array CpInfo := pool [(1, u "java/lang/Cloneable"), (0, .class_ 1), (0, u "java/lang/Object"), (0, .class_ 3)] 3

/-- java/lang/Cloneable -/
def k13 : Class := { plain "java/lang/Cloneable" (some 0) with
  accessFlags := 1537
  interfaces := #[]
  cf := some (fileOf pool13 2 #[] #[] 1537 4 #[] #[])
  fields := #[]
  methods := #[]
  instanceTypes := #[]
  staticTypes := #[]
  resolved := Array.replicate 8 none
  statics := none }

/-- the primitive byte -/
def k14 : Class := { plain "byte" none with kind := .primitive 'B', accessFlags := 0x411 }
/-- [B -/
def k15 : Class := { plain "[B" (some 0) with kind := .array 14 .byte, interfaces := #[13, 2], accessFlags := 1041 }

/-- the primitive int -/
def k16 : Class := { plain "int" none with kind := .primitive 'I', accessFlags := 0x411 }
/-- [I -/
def k17 : Class := { plain "[I" (some 0) with kind := .array 16 .int, interfaces := #[13, 2], accessFlags := 1041 }

/-- [Ljava/math/BigDecimal; -/
def k18 : Class := { plain "[Ljava/math/BigDecimal;" (some 0) with kind := .array 5 (.object "java/math/BigDecimal"), interfaces := #[13, 2], accessFlags := 1041 }

def heap : Heap := #[{ cls := 5, slots := #[.double 0, .int 0, .int 0, .int 0, .int 0, .int 0, .int 0, .long 0, .null, .int 0, .long 0, .null, .ref 2, .long 0, .long 0, .ref 3, .null, .null, .null, .null, .null, .int 0, .int 0, .int 0, .int 0, .int 0, .int 0, .int 0, .int 0, .null, .null, .null, .null, .int 0, .int 0, .null, .long 0, .null, .int 0], vm := .statics 5 },
  { cls := 12, slots := #[.long 0, .int 0, .int 0, .int 0, .int 0, .int 0, .int 0, .int 0, .int 0, .int 0, .int 0, .int 0, .null, .int 0, .int 0, .null, .int 0, .null, .null, .null, .null, .double 0, .ref 19, .null, .null, .null, .null, .null, .int 0, .null, .null, .null, .null, .null, .long 0, .null, .int 0], vm := .statics 12 },
  { cls := 18, slots := #[.ref 3, .ref 4, .ref 5, .ref 6, .ref 7, .ref 8, .ref 9, .ref 10, .ref 11, .ref 12, .ref 13, .ref 14, .ref 15, .ref 16, .ref 17, .ref 18], vm := .none },
  { cls := 5, slots := #[.ref 19, .int 0, .int 0, .null, .long 0], vm := .none },
  { cls := 5, slots := #[.ref 19, .int 1, .int 0, .null, .long 0], vm := .none },
  { cls := 5, slots := #[.ref 19, .int 2, .int 0, .null, .long 0], vm := .none },
  { cls := 5, slots := #[.ref 19, .int 3, .int 0, .null, .long 0], vm := .none },
  { cls := 5, slots := #[.ref 19, .int 4, .int 0, .null, .long 0], vm := .none },
  { cls := 5, slots := #[.ref 19, .int 5, .int 0, .null, .long 0], vm := .none },
  { cls := 5, slots := #[.ref 19, .int 6, .int 0, .null, .long 0], vm := .none },
  { cls := 5, slots := #[.ref 19, .int 7, .int 0, .null, .long 0], vm := .none },
  { cls := 5, slots := #[.ref 19, .int 8, .int 0, .null, .long 0], vm := .none },
  { cls := 5, slots := #[.ref 19, .int 9, .int 0, .null, .long 0], vm := .none },
  { cls := 5, slots := #[.ref 19, .int 10, .int 0, .null, .long 0], vm := .none },
  { cls := 5, slots := #[.ref 19, .int 11, .int 0, .null, .long 0], vm := .none },
  { cls := 5, slots := #[.ref 19, .int 12, .int 0, .null, .long 0], vm := .none },
  { cls := 5, slots := #[.ref 19, .int 13, .int 0, .null, .long 0], vm := .none },
  { cls := 5, slots := #[.ref 19, .int 14, .int 0, .null, .long 0], vm := .none },
  { cls := 5, slots := #[.ref 19, .int 15, .int 0, .null, .long 0], vm := .none },
  { cls := 12, slots := #[.int 0, .ref 20, .int 0, .int 0, .int 0, .int 0], vm := .none },
  { cls := 17, slots := #[], vm := .none }]
def classes : Array Class := #[k0, k1, k2, k3, k4, k5, k6, k7, k8, k9, k10, k11, k12, k13, k14, k15, k16, k17, k18]
def interned : List (Array UInt16 × Addr) := []
def slotsUsed : Nat := 178
def theMethod : MethodId := ⟨1, 1⟩
def args0 : Array Value := #[.int 37, .int 7, .int 1, .int 2, .int 5]
def aboutOver (below : List Frame) : State where
  vm := { classes := classes, interned := interned.toArray }
  heap := heap
  slotsUsed := slotsUsed
  threads := #[{ frames := .invoking theMethod args0 :: below }]
def below0 : List Frame := [.native { method := ⟨0, 0⟩, args := #[] }]
def about1 : State := aboutOver below0
def p0 : Program := .bare "" "" ""
def e0 : Env := launch0.env 0 0 0
theorem w_frames : about1.frames = Frame.invoking theMethod args0 :: below0 := rfl
set_option maxRecDepth 65536 in
theorem w_args : argsFit about1.vm theMethod args0 = true := by decide +kernel
set_option maxRecDepth 65536 in
theorem w_heap : heapFits about1 = true := by decide +kernel
set_option maxRecDepth 65536 in
theorem w_runnable : about1.curStatus? = some .runnable := by decide +kernel
set_option maxRecDepth 65536 in
theorem w_alone : about1.alone = true := by decide +kernel
set_option maxRecDepth 65536 in
theorem w_named : about1.methodNamed? x = some theMethod := by decide +kernel
set_option maxRecDepth 65536 in
theorem w_hears : about1.hears theMethod below0 = true := by decide +kernel
set_option maxRecDepth 65536 in
theorem w_ripe : about1.ripe theMethod args0 below0 = true := by decide +kernel
theorem w_running : about1.status = .running := rfl
set_option maxRecDepth 65536 in
theorem w_room : about1.hasRoom e0.platform room_1 = true :=
  launch0.hasRoom_least _ room_1 (by decide +kernel) (by decide +kernel) (by decide +kernel) (by decide +kernel) (by decide +kernel) (by decide +kernel)
theorem allAtoms_all (ts : List Jvm.Cond) (a : Array Jvm.Value) (st : Jvm.State) : (allAtoms ts).before a st = ts.all (fun c => c.before a st) := by
  induction ts with
  | nil => rfl
  | cons c t ih =>
    show (Jvm.Cond.and c (allAtoms t)).before a st = _
    rw [Jvm.Cond.before_and, ih, List.all_cons]
def words1 : List Jvm.Cond := Jvm.Cond.code x code maxLocals ret :: tables_1
/-- a 'code' word, met by the world's own term for the bytes: nothing is compared byte by byte -/
theorem code_word {y : MethodName} {bytes : ByteArray} {mx : Nat} {rt : Option FieldType} {a : Array Value} {s : State} {m : MethodId} {meth : Method} {c : Code} (h1 : s.methodNamed? y = some m) (h2 : s.vm.method? m = some meth) (h3 : meth.code = some c) (h4 : c.code = bytes)
    (h5 : (c.maxLocals == mx && c.exceptionTable.isEmpty && decide (c.maxStack ≤ mostOperands) && decide (meth.sig.returnType = rt) && !meth.locks && decide (parseMethodDescriptor y.desc = some meth.sig)) = true) : (Jvm.Cond.code y bytes mx rt).before a s = true := by
  simp only [Bool.and_eq_true, beq_iff_eq, Bool.not_eq_true', decide_eq_true_eq] at h5
  obtain ⟨⟨⟨⟨⟨g1, g2⟩, g3⟩, g4⟩, g5⟩, g6⟩ := h5
  simp [Cond.before, Cond.holds, Cond.value, h1, h2, h3, h4, g1, g2, g3, g4, g5, g6]
def isCode : Jvm.Cond → Bool
  | .code _ _ _ _ => true
  | _ => false
theorem all_split {L : List Jvm.Cond} {P : Jvm.Cond → Bool} (h1 : L.all (fun c => isCode c || P c) = true) (h2 : ∀ c ∈ L.filter isCode, P c = true) : L.all P = true := by
  refine List.all_eq_true.mpr fun c hc => ?_
  have h := List.all_eq_true.mp h1 c hc
  rcases Bool.eq_false_or_eq_true (isCode c) with hi | hi
  · exact h2 c (List.mem_filter.mpr ⟨hc, hi⟩)
  · simpa [hi] using h
set_option maxRecDepth 65536 in
theorem w_c0 : (Jvm.Cond.code x code maxLocals ret).before args0 about1 = true := code_word (m := ⟨1, 1⟩) (meth := k1m1) (c := k1c1) (by decide +kernel) rfl rfl rfl (by decide +kernel)
set_option maxRecDepth 65536 in
theorem w_c1 : (Jvm.Cond.code ({ cls := "java/math/BigDecimal", name := "valueOf", desc := "(JI)Ljava/math/BigDecimal;" } : Jvm.MethodName) jdk_17_method_20_code (3 : Nat) (Option.some (Jvm.ClassFile.FieldType.object "java/math/BigDecimal"))).before args0 about1 = true := code_word (m := ⟨5, 1⟩) (meth := k5m1) (c := k5c1) (by decide +kernel) rfl rfl rfl (by decide +kernel)
set_option maxRecDepth 65536 in
theorem w_c2 : (Jvm.Cond.code ({ cls := "java/math/BigDecimal", name := "zeroValueOf", desc := "(I)Ljava/math/BigDecimal;" } : Jvm.MethodName) jdk_17_method_24_code (1 : Nat) (Option.some (Jvm.ClassFile.FieldType.object "java/math/BigDecimal"))).before args0 about1 = true := code_word (m := ⟨5, 2⟩) (meth := k5m2) (c := k5c2) (by decide +kernel) rfl rfl rfl (by decide +kernel)
set_option maxRecDepth 65536 in
theorem w_c3 : (Jvm.Cond.code ({ cls := "java/math/BigDecimal", name := "<init>", desc := "(Ljava/math/BigInteger;JII)V" } : Jvm.MethodName) jdk_17_method_1_code (6 : Nat) (Option.none : Option Jvm.ClassFile.FieldType)).before args0 about1 = true := code_word (m := ⟨5, 0⟩) (meth := k5m0) (c := k5c0) (by decide +kernel) rfl rfl rfl (by decide +kernel)
set_option maxRecDepth 65536 in
theorem w_c4 : (Jvm.Cond.code ({ cls := "java/lang/Number", name := "<init>", desc := "()V" } : Jvm.MethodName) jdk_18_method_1_code (1 : Nat) (Option.none : Option Jvm.ClassFile.FieldType)).before args0 about1 = true := code_word (m := ⟨3, 0⟩) (meth := k3m0) (c := k3c0) (by decide +kernel) rfl rfl rfl (by decide +kernel)
set_option maxRecDepth 65536 in
theorem w_c5 : (Jvm.Cond.code ({ cls := "java/lang/Object", name := "<init>", desc := "()V" } : Jvm.MethodName) object_method_1_code (1 : Nat) (Option.none : Option Jvm.ClassFile.FieldType)).before args0 about1 = true := code_word (m := ⟨0, 0⟩) (meth := k0m0) (c := k0c0) (by decide +kernel) rfl rfl rfl (by decide +kernel)
set_option maxRecDepth 65536 in
theorem w_c6 : (Jvm.Cond.code ({ cls := "com/example/diligent_tariff/diligenttariff/billing/ClassImpact", name := "<init>", desc := "()V" } : Jvm.MethodName) prog_4_method_1_code (1 : Nat) (Option.none : Option Jvm.ClassFile.FieldType)).before args0 about1 = true := code_word (m := ⟨6, 0⟩) (meth := k6m0) (c := k6c0) (by decide +kernel) rfl rfl rfl (by decide +kernel)
set_option maxRecDepth 65536 in
theorem w_c7 : (Jvm.Cond.code ({ cls := "java/math/BigDecimal", name := "setScale", desc := "(I)Ljava/math/BigDecimal;" } : Jvm.MethodName) jdk_17_method_65_code (2 : Nat) (Option.some (Jvm.ClassFile.FieldType.object "java/math/BigDecimal"))).before args0 about1 = true := code_word (m := ⟨5, 7⟩) (meth := k5m7) (c := k5c7) (by decide +kernel) rfl rfl rfl (by decide +kernel)
set_option maxRecDepth 65536 in
theorem w_c8 : (Jvm.Cond.code ({ cls := "java/math/BigDecimal", name := "setScale", desc := "(II)Ljava/math/BigDecimal;" } : Jvm.MethodName) jdk_17_method_64_code (8 : Nat) (Option.some (Jvm.ClassFile.FieldType.object "java/math/BigDecimal"))).before args0 about1 = true := code_word (m := ⟨5, 6⟩) (meth := k5m6) (c := k5c6) (by decide +kernel) rfl rfl rfl (by decide +kernel)
set_option maxRecDepth 65536 in
theorem w_c9 : (Jvm.Cond.code ({ cls := "java/math/BigDecimal", name := "signum", desc := "()I" } : Jvm.MethodName) jdk_17_method_58_code (1 : Nat) (Option.some Jvm.ClassFile.FieldType.int)).before args0 about1 = true := code_word (m := ⟨5, 5⟩) (meth := k5m5) (c := k5c5) (by decide +kernel) rfl rfl rfl (by decide +kernel)
set_option maxRecDepth 65536 in
theorem w_c10 : (Jvm.Cond.code ({ cls := "java/lang/Long", name := "signum", desc := "(J)I" } : Jvm.MethodName) jdk_35_method_57_code (2 : Nat) (Option.some Jvm.ClassFile.FieldType.int)).before args0 about1 = true := code_word (m := ⟨9, 0⟩) (meth := k9m0) (c := k9c0) (by decide +kernel) rfl rfl rfl (by decide +kernel)
set_option maxRecDepth 65536 in
theorem w_c11 : (Jvm.Cond.code ({ cls := "com/example/diligent_tariff/diligenttariff/billing/ClassImpact", name := "getComparison", desc := "()Lcom/example/diligent_tariff/diligenttariff/billing/Comparison;" } : Jvm.MethodName) prog_4_method_5_code (1 : Nat) (Option.some (Jvm.ClassFile.FieldType.object "com/example/diligent_tariff/diligenttariff/billing/Comparison"))).before args0 about1 = true := code_word (m := ⟨6, 2⟩) (meth := k6m2) (c := k6c2) (by decide +kernel) rfl rfl rfl (by decide +kernel)
set_option maxRecDepth 65536 in
theorem w_c12 : (Jvm.Cond.code ({ cls := "com/example/diligent_tariff/diligenttariff/billing/Comparison", name := "<init>", desc := "(Ljava/math/BigDecimal;Ljava/math/BigDecimal;)V" } : Jvm.MethodName) prog_6_method_1_code (3 : Nat) (Option.none : Option Jvm.ClassFile.FieldType)).before args0 about1 = true := code_word (m := ⟨10, 0⟩) (meth := k10m0) (c := k10c0) (by decide +kernel) rfl rfl rfl (by decide +kernel)
set_option maxRecDepth 65536 in
theorem w_c13 : (Jvm.Cond.code ({ cls := "java/util/Objects", name := "requireNonNull", desc := "(Ljava/lang/Object;)Ljava/lang/Object;" } : Jvm.MethodName) jdk_31_method_10_code (1 : Nat) (Option.some (Jvm.ClassFile.FieldType.object "java/lang/Object"))).before args0 about1 = true := code_word (m := ⟨11, 1⟩) (meth := k11m1) (c := k11c1) (by decide +kernel) rfl rfl rfl (by decide +kernel)
set_option maxRecDepth 65536 in
theorem w_c14 : (Jvm.Cond.code ({ cls := "com/example/diligent_tariff/diligenttariff/billing/Comparison", name := "getCurrent", desc := "()Ljava/math/BigDecimal;" } : Jvm.MethodName) prog_6_method_2_code (1 : Nat) (Option.some (Jvm.ClassFile.FieldType.object "java/math/BigDecimal"))).before args0 about1 = true := code_word (m := ⟨10, 1⟩) (meth := k10m1) (c := k10c1) (by decide +kernel) rfl rfl rfl (by decide +kernel)
set_option maxRecDepth 65536 in
theorem w_c15 : (Jvm.Cond.code ({ cls := "java/math/BigDecimal", name := "equals", desc := "(Ljava/lang/Object;)Z" } : Jvm.MethodName) jdk_17_method_72_code (7 : Nat) (Option.some Jvm.ClassFile.FieldType.boolean)).before args0 about1 = true := code_word (m := ⟨5, 8⟩) (meth := k5m8) (c := k5c8) (by decide +kernel) rfl rfl rfl (by decide +kernel)
set_option maxRecDepth 65536 in
theorem w_c16 : (Jvm.Cond.code ({ cls := "com/example/diligent_tariff/diligenttariff/billing/Comparison", name := "getProposed", desc := "()Ljava/math/BigDecimal;" } : Jvm.MethodName) prog_6_method_3_code (1 : Nat) (Option.some (Jvm.ClassFile.FieldType.object "java/math/BigDecimal"))).before args0 about1 = true := code_word (m := ⟨10, 2⟩) (meth := k10m2) (c := k10c2) (by decide +kernel) rfl rfl rfl (by decide +kernel)
set_option maxRecDepth 65536 in
theorem w_c17 : (Jvm.Cond.code ({ cls := "com/example/diligent_tariff/diligenttariff/billing/ClassImpact", name := "add", desc := "(ILcom/example/diligent_tariff/diligenttariff/billing/Comparison;)V" } : Jvm.MethodName) prog_4_method_2_code (4 : Nat) (Option.none : Option Jvm.ClassFile.FieldType)).before args0 about1 = true := code_word (m := ⟨6, 1⟩) (meth := k6m1) (c := k6c1) (by decide +kernel) rfl rfl rfl (by decide +kernel)
set_option maxRecDepth 65536 in
theorem w_c18 : (Jvm.Cond.code ({ cls := "com/example/diligent_tariff/diligenttariff/billing/Comparison", name := "getDifference", desc := "()Ljava/math/BigDecimal;" } : Jvm.MethodName) prog_6_method_4_code (1 : Nat) (Option.some (Jvm.ClassFile.FieldType.object "java/math/BigDecimal"))).before args0 about1 = true := code_word (m := ⟨10, 3⟩) (meth := k10m3) (c := k10c3) (by decide +kernel) rfl rfl rfl (by decide +kernel)
set_option maxRecDepth 65536 in
theorem w_c19 : (Jvm.Cond.code ({ cls := "java/math/BigDecimal", name := "subtract", desc := "(Ljava/math/BigDecimal;)Ljava/math/BigDecimal;" } : Jvm.MethodName) jdk_17_method_29_code (2 : Nat) (Option.some (Jvm.ClassFile.FieldType.object "java/math/BigDecimal"))).before args0 about1 = true := code_word (m := ⟨5, 4⟩) (meth := k5m4) (c := k5c4) (by decide +kernel) rfl rfl rfl (by decide +kernel)
set_option maxRecDepth 65536 in
theorem w_c20 : (Jvm.Cond.code ({ cls := "java/math/BigDecimal", name := "add", desc := "(JIJI)Ljava/math/BigDecimal;" } : Jvm.MethodName) jdk_17_method_134_code (12 : Nat) (Option.some (Jvm.ClassFile.FieldType.object "java/math/BigDecimal"))).before args0 about1 = true := code_word (m := ⟨5, 11⟩) (meth := k5m11) (c := k5c11) (by decide +kernel) rfl rfl rfl (by decide +kernel)
set_option maxRecDepth 65536 in
theorem w_c21 : (Jvm.Cond.code ({ cls := "java/math/BigDecimal", name := "add", desc := "(JJI)Ljava/math/BigDecimal;" } : Jvm.MethodName) jdk_17_method_133_code (7 : Nat) (Option.some (Jvm.ClassFile.FieldType.object "java/math/BigDecimal"))).before args0 about1 = true := code_word (m := ⟨5, 10⟩) (meth := k5m10) (c := k5c10) (by decide +kernel) rfl rfl rfl (by decide +kernel)
set_option maxRecDepth 65536 in
theorem w_c22 : (Jvm.Cond.code ({ cls := "java/math/BigDecimal", name := "add", desc := "(JJ)J" } : Jvm.MethodName) jdk_17_method_132_code (6 : Nat) (Option.some Jvm.ClassFile.FieldType.long)).before args0 about1 = true := code_word (m := ⟨5, 9⟩) (meth := k5m9) (c := k5c9) (by decide +kernel) rfl rfl rfl (by decide +kernel)
set_option maxRecDepth 65536 in
theorem w_c23 : (Jvm.Cond.code ({ cls := "java/math/BigDecimal", name := "add", desc := "(Ljava/math/BigDecimal;)Ljava/math/BigDecimal;" } : Jvm.MethodName) jdk_17_method_26_code (2 : Nat) (Option.some (Jvm.ClassFile.FieldType.object "java/math/BigDecimal"))).before args0 about1 = true := code_word (m := ⟨5, 3⟩) (meth := k5m3) (c := k5c3) (by decide +kernel) rfl rfl rfl (by decide +kernel)
def codes1 : List Jvm.Cond := [Jvm.Cond.code x code maxLocals ret, Jvm.Cond.code ({ cls := "java/math/BigDecimal", name := "valueOf", desc := "(JI)Ljava/math/BigDecimal;" } : Jvm.MethodName) jdk_17_method_20_code (3 : Nat) (Option.some (Jvm.ClassFile.FieldType.object "java/math/BigDecimal")), Jvm.Cond.code ({ cls := "java/math/BigDecimal", name := "zeroValueOf", desc := "(I)Ljava/math/BigDecimal;" } : Jvm.MethodName) jdk_17_method_24_code (1 : Nat) (Option.some (Jvm.ClassFile.FieldType.object "java/math/BigDecimal")), Jvm.Cond.code ({ cls := "java/math/BigDecimal", name := "<init>", desc := "(Ljava/math/BigInteger;JII)V" } : Jvm.MethodName) jdk_17_method_1_code (6 : Nat) (Option.none : Option Jvm.ClassFile.FieldType), Jvm.Cond.code ({ cls := "java/lang/Number", name := "<init>", desc := "()V" } : Jvm.MethodName) jdk_18_method_1_code (1 : Nat) (Option.none : Option Jvm.ClassFile.FieldType), Jvm.Cond.code ({ cls := "java/lang/Object", name := "<init>", desc := "()V" } : Jvm.MethodName) object_method_1_code (1 : Nat) (Option.none : Option Jvm.ClassFile.FieldType), Jvm.Cond.code ({ cls := "com/example/diligent_tariff/diligenttariff/billing/ClassImpact", name := "<init>", desc := "()V" } : Jvm.MethodName) prog_4_method_1_code (1 : Nat) (Option.none : Option Jvm.ClassFile.FieldType), Jvm.Cond.code ({ cls := "java/math/BigDecimal", name := "setScale", desc := "(I)Ljava/math/BigDecimal;" } : Jvm.MethodName) jdk_17_method_65_code (2 : Nat) (Option.some (Jvm.ClassFile.FieldType.object "java/math/BigDecimal")), Jvm.Cond.code ({ cls := "java/math/BigDecimal", name := "setScale", desc := "(II)Ljava/math/BigDecimal;" } : Jvm.MethodName) jdk_17_method_64_code (8 : Nat) (Option.some (Jvm.ClassFile.FieldType.object "java/math/BigDecimal")), Jvm.Cond.code ({ cls := "java/math/BigDecimal", name := "signum", desc := "()I" } : Jvm.MethodName) jdk_17_method_58_code (1 : Nat) (Option.some Jvm.ClassFile.FieldType.int), Jvm.Cond.code ({ cls := "java/lang/Long", name := "signum", desc := "(J)I" } : Jvm.MethodName) jdk_35_method_57_code (2 : Nat) (Option.some Jvm.ClassFile.FieldType.int), Jvm.Cond.code ({ cls := "com/example/diligent_tariff/diligenttariff/billing/ClassImpact", name := "getComparison", desc := "()Lcom/example/diligent_tariff/diligenttariff/billing/Comparison;" } : Jvm.MethodName) prog_4_method_5_code (1 : Nat) (Option.some (Jvm.ClassFile.FieldType.object "com/example/diligent_tariff/diligenttariff/billing/Comparison")), Jvm.Cond.code ({ cls := "com/example/diligent_tariff/diligenttariff/billing/Comparison", name := "<init>", desc := "(Ljava/math/BigDecimal;Ljava/math/BigDecimal;)V" } : Jvm.MethodName) prog_6_method_1_code (3 : Nat) (Option.none : Option Jvm.ClassFile.FieldType), Jvm.Cond.code ({ cls := "java/util/Objects", name := "requireNonNull", desc := "(Ljava/lang/Object;)Ljava/lang/Object;" } : Jvm.MethodName) jdk_31_method_10_code (1 : Nat) (Option.some (Jvm.ClassFile.FieldType.object "java/lang/Object")), Jvm.Cond.code ({ cls := "com/example/diligent_tariff/diligenttariff/billing/Comparison", name := "getCurrent", desc := "()Ljava/math/BigDecimal;" } : Jvm.MethodName) prog_6_method_2_code (1 : Nat) (Option.some (Jvm.ClassFile.FieldType.object "java/math/BigDecimal")), Jvm.Cond.code ({ cls := "java/math/BigDecimal", name := "equals", desc := "(Ljava/lang/Object;)Z" } : Jvm.MethodName) jdk_17_method_72_code (7 : Nat) (Option.some Jvm.ClassFile.FieldType.boolean), Jvm.Cond.code ({ cls := "com/example/diligent_tariff/diligenttariff/billing/Comparison", name := "getProposed", desc := "()Ljava/math/BigDecimal;" } : Jvm.MethodName) prog_6_method_3_code (1 : Nat) (Option.some (Jvm.ClassFile.FieldType.object "java/math/BigDecimal")), Jvm.Cond.code ({ cls := "com/example/diligent_tariff/diligenttariff/billing/ClassImpact", name := "add", desc := "(ILcom/example/diligent_tariff/diligenttariff/billing/Comparison;)V" } : Jvm.MethodName) prog_4_method_2_code (4 : Nat) (Option.none : Option Jvm.ClassFile.FieldType), Jvm.Cond.code ({ cls := "com/example/diligent_tariff/diligenttariff/billing/Comparison", name := "getDifference", desc := "()Ljava/math/BigDecimal;" } : Jvm.MethodName) prog_6_method_4_code (1 : Nat) (Option.some (Jvm.ClassFile.FieldType.object "java/math/BigDecimal")), Jvm.Cond.code ({ cls := "java/math/BigDecimal", name := "subtract", desc := "(Ljava/math/BigDecimal;)Ljava/math/BigDecimal;" } : Jvm.MethodName) jdk_17_method_29_code (2 : Nat) (Option.some (Jvm.ClassFile.FieldType.object "java/math/BigDecimal")), Jvm.Cond.code ({ cls := "java/math/BigDecimal", name := "add", desc := "(JIJI)Ljava/math/BigDecimal;" } : Jvm.MethodName) jdk_17_method_134_code (12 : Nat) (Option.some (Jvm.ClassFile.FieldType.object "java/math/BigDecimal")), Jvm.Cond.code ({ cls := "java/math/BigDecimal", name := "add", desc := "(JJI)Ljava/math/BigDecimal;" } : Jvm.MethodName) jdk_17_method_133_code (7 : Nat) (Option.some (Jvm.ClassFile.FieldType.object "java/math/BigDecimal")), Jvm.Cond.code ({ cls := "java/math/BigDecimal", name := "add", desc := "(JJ)J" } : Jvm.MethodName) jdk_17_method_132_code (6 : Nat) (Option.some Jvm.ClassFile.FieldType.long), Jvm.Cond.code ({ cls := "java/math/BigDecimal", name := "add", desc := "(Ljava/math/BigDecimal;)Ljava/math/BigDecimal;" } : Jvm.MethodName) jdk_17_method_26_code (2 : Nat) (Option.some (Jvm.ClassFile.FieldType.object "java/math/BigDecimal"))]
set_option maxRecDepth 65536 in
theorem codes_eq : words1.filter isCode = codes1 := rfl
theorem w_codes : ∀ c ∈ words1.filter isCode, c.before args0 about1 = true := by
  rw [codes_eq]
  intro c hc
  simp only [codes1, List.mem_cons, List.not_mem_nil, or_false] at hc
  rcases hc with rfl | rfl | rfl | rfl | rfl | rfl | rfl | rfl | rfl | rfl | rfl | rfl | rfl | rfl | rfl | rfl | rfl | rfl | rfl | rfl | rfl | rfl | rfl | rfl
  · exact w_c0
  · exact w_c1
  · exact w_c2
  · exact w_c3
  · exact w_c4
  · exact w_c5
  · exact w_c6
  · exact w_c7
  · exact w_c8
  · exact w_c9
  · exact w_c10
  · exact w_c11
  · exact w_c12
  · exact w_c13
  · exact w_c14
  · exact w_c15
  · exact w_c16
  · exact w_c17
  · exact w_c18
  · exact w_c19
  · exact w_c20
  · exact w_c21
  · exact w_c22
  · exact w_c23
set_option maxRecDepth 65536 in
theorem w_t1 : (words1.take 24).all (fun c => isCode c || c.before args0 about1) = true := by decide +kernel
set_option maxRecDepth 65536 in
theorem w_t2 : ((words1.drop 24).take 24).all (fun c => isCode c || c.before args0 about1) = true := by decide +kernel
set_option maxRecDepth 65536 in
theorem w_t3 : (((words1.drop 24).drop 24).take 24).all (fun c => isCode c || c.before args0 about1) = true := by decide +kernel
set_option maxRecDepth 65536 in
theorem w_t4 : ((((words1.drop 24).drop 24).drop 24).take 24).all (fun c => isCode c || c.before args0 about1) = true := by decide +kernel
set_option maxRecDepth 65536 in
theorem w_t5 : (((((words1.drop 24).drop 24).drop 24).drop 24).take 24).all (fun c => isCode c || c.before args0 about1) = true := by decide +kernel
set_option maxRecDepth 65536 in
theorem w_t6 : ((((((words1.drop 24).drop 24).drop 24).drop 24).drop 24).take 24).all (fun c => isCode c || c.before args0 about1) = true := by decide +kernel
set_option maxRecDepth 65536 in
theorem w_t7 : ((((((words1.drop 24).drop 24).drop 24).drop 24).drop 24).drop 24).all (fun c => isCode c || c.before args0 about1) = true := by decide +kernel
theorem w_tables : (allAtoms (Jvm.Cond.code x code maxLocals ret :: tables_1)).before args0 about1 = true := by
  rw [allAtoms_all]
  show words1.all (fun c => c.before args0 about1) = true
  refine all_split ?_ w_codes
  rw [← List.take_append_drop 24 words1, List.all_append, w_t1, ← List.take_append_drop 24 (words1.drop 24), List.all_append, w_t2, ← List.take_append_drop 24 ((words1.drop 24).drop 24), List.all_append, w_t3, ← List.take_append_drop 24 (((words1.drop 24).drop 24).drop 24), List.all_append, w_t4, ← List.take_append_drop 24 ((((words1.drop 24).drop 24).drop 24).drop 24), List.all_append, w_t5, ← List.take_append_drop 24 (((((words1.drop 24).drop 24).drop 24).drop 24).drop 24), List.all_append, w_t6, w_t7]
  rfl
set_option maxRecDepth 65536 in
theorem w_rest : rest_1_c.before args0 about1 = true := by decide +kernel
set_option maxRecDepth 65536 in
theorem w_case : (Jvm.Cond.and given_1 narrow_1).before args0 about1 = true := by decide +kernel
theorem w_applies : (headSpec (Jvm.Cond.code x code maxLocals ret :: tables_1) room_1).applies x e0.platform about1 = true :=
  (Spec.applies_iff w_frames).mpr ⟨w_running, w_runnable, w_alone, w_named, w_hears, w_ripe, w_room, w_tables⟩
theorem atStart : AtStart classFile x code maxLocals ret World_1 tables_1 room_1 Calls_1 rest_1 Pre_1 launch0 p0 e0 about1 theMethod args0 below0 :=
  ⟨lists_1, trivial, launch0.admits_env _ _ _, launch0.least_env, fairChoices_fair.cas, fairChoices_fair.clock, w_frames, w_args, w_heap, w_applies, trivial, w_rest, w_case⟩
end start1
theorem witness_1 : WitnessClaimed_1 := ⟨start1.p0, start1.e0, start1.about1, start1.theMethod, start1.args0, start1.below0, start1.atStart⟩
end Jvm.Pilot.@@N@@
