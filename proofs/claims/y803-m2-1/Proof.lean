import JvmDerived
import JvmDerived.Pilot.@@N@@Statement
import JvmDerived.Pilot.@@N@@Code
set_option linter.unusedVariables false
set_option linter.unusedSimpArgs false
namespace Jvm.Pilot.@@N@@
open Jvm Jvm.ClassFile Sem Op Lib Jvm.Free Jvm.Stand Jvm.LawKit Jvm.RoadKit Bundle Jvm.Pilot.@@N@@.Jvm.D
abbrev un : Slot := .unset
theorem ow {Z : State} {a0 : Array Value} {d : Jvm.Cond} (hw : ∀ d ∈ tables_1, d.before a0 Z = true) (i : Nat) (h : tables_1[i]? = some d) : d.before a0 Z = true := hw d (List.mem_of_getElem? h)
section OwnGo
variable {p : Program} {l : Launch} {e : Env} {R : Room} {s : State} {m : MethodId} {args : Array Value} {below : List Frame} {meth : Method} {c : Code} {T T' : State} {locs : List Loc} {cells slots : Nat} {Q : Option Value → Heap → List Loc → Prop} {C S : Nat} {g g' : JFrame} {F : Outcome → State → Prop}
/-- from this state and frame the body comes to an end of which F holds -/
def Go (p : Program) (e : Env) (below : List Frame) (F : Outcome → State → Prop) (T : State) (g : JFrame) : Prop :=
  ∃ s₂ o, Steps p.tables e below (T.setTop g) s₂ ∧ s₂.status = .running ∧ Ended s₂ below o ∧ F o s₂
/-- it returned, Q holds, and nothing else has moved than L and so many new cells and slots -/
abbrev EndN (s : State) (Q : Option Value → Heap → List Loc → Prop) (C S : Nat) (o : Outcome) (t : State) : Prop := ∃ v L, o = .returned v ∧ Q v t.heap L ∧ FrameEnd s o t L C S
theorem Go.enter (q : g = g') (k : Go p e below F T g') : ∃ s₂ o, Steps p.tables e below (T.setTop g) s₂ ∧ s₂.status = .running ∧ Ended s₂ below o ∧ F o s₂ := by
  subst q
  exact k
theorem Go.by (h : ∀ t, Steps p.tables e below (T'.setTop g') t → Steps p.tables e below (T.setTop g) t) (k : Go p e below F T' g') : Go p e below F T g := by
  obtain ⟨s₂, o, h1, h2⟩ := k
  exact ⟨s₂, o, h _ h1, h2⟩
theorem Go.to (h : Steps p.tables e below (T.setTop g) (T'.setTop g')) (k : Go p e below F T' g') : Go p e below F T g := by
  obtain ⟨s₂, o, h1, h2⟩ := k
  exact ⟨s₂, o, h.trans h1, h2⟩
abbrev own_retKind (i : Instr) (t : FieldType) (w : Value) : Prop := (i = .ireturn ∧ (t = .int ∨ t = .boolean ∨ t = .byte ∨ t = .char ∨ t = .short) ∧ ∃ z, w = .int z) ∨ (i = .lreturn ∧ t = .long ∧ ∃ z, w = .long z) ∨ (i = .dreturn ∧ t = .double ∧ ∃ z, w = .double z) ∨ (i = .freturn ∧ t = .float ∧ ∃ z, w = .float z) ∨ (i = .areturn ∧ t.isReference = true ∧ w.isRef = true)
theorem Go.ret (X : Stand p l e R s m args below meth c T locs cells slots) (hx : p.tables.exec = Jvm.exec) (hlocks : meth.locks = false) {pc : Nat} {Ls : Array Slot} {w : Value} {t : FieldType} {i : Instr} {rest : List Value} (hret : meth.sig.returnType = some t) (hn : narrow t w = w)
    (hi : own_retKind i t w) (hd : decode c.code pc = .ok (i, 1)) (hq : Q (some w) T.heap locs) (hc : cells ≤ C) (hs : slots ≤ S) : Go p e below (EndN s Q C S) T (mkF m pc Ls (w :: rest)) := by
  obtain ⟨fs, hr, hrun, hended, hW, hsame⟩ := X.leave (v := some w) (fun h => by rw [hret] at h; cases h) hlocks
  exact ⟨_, _, retOut X hx hret hn hi hd hr, hrun, hended, _, _, rfl, hq, ⟨_, rfl⟩, hW, hsame.mono hc hs⟩
theorem Go.retI (X : Stand p l e R s m args below meth c T locs cells slots) (hx : p.tables.exec = Jvm.exec) (hlocks : meth.locks = false) {pc : Nat} {Ls : Array Slot} {w : Int32} {t : FieldType} {rest : List Value} (hret : meth.sig.returnType = some t) (hn : narrow t (.int w) = .int w)
    (ht : t = .int ∨ t = .boolean ∨ t = .byte ∨ t = .char ∨ t = .short) (hd : decode c.code pc = .ok (.ireturn, 1)) (hq : Q (some (.int w)) T.heap locs) (hc : cells ≤ C) (hs : slots ≤ S) : Go p e below (EndN s Q C S) T (mkF m pc Ls (.int w :: rest)) :=
  Go.ret X hx hlocks hret hn (Or.inl ⟨rfl, ht, _, rfl⟩) hd hq hc hs
theorem Go.retJ (X : Stand p l e R s m args below meth c T locs cells slots) (hx : p.tables.exec = Jvm.exec) (hlocks : meth.locks = false) {pc : Nat} {Ls : Array Slot} {w : Int64} {rest : List Value} (hret : meth.sig.returnType = some .long)
    (hd : decode c.code pc = .ok (.lreturn, 1)) (hq : Q (some (.long w)) T.heap locs) (hc : cells ≤ C) (hs : slots ≤ S) : Go p e below (EndN s Q C S) T (mkF m pc Ls (.long w :: rest)) :=
  Go.ret X hx hlocks hret rfl (Or.inr (Or.inl ⟨rfl, rfl, _, rfl⟩)) hd hq hc hs
theorem own_narR (t : FieldType) {w : Value} (ht : t.isReference = true) (hw : w.isRef = true) : narrow t w = w := by
  cases t <;> first | (simp [FieldType.isReference] at ht; done) | (rcases ref_cases hw with rfl | ⟨_, rfl⟩ <;> rfl)
theorem own_fitR (t : FieldType) {w : Value} (ht : t.isReference = true) (hw : w.isRef = true) : fits t w = true := by
  cases t <;> first | (simp [FieldType.isReference] at ht; done) | (rcases ref_cases hw with rfl | ⟨_, rfl⟩ <;> rfl)
theorem Go.retA (X : Stand p l e R s m args below meth c T locs cells slots) (hx : p.tables.exec = Jvm.exec) (hlocks : meth.locks = false) {pc : Nat} {Ls : Array Slot} {w : Value} {t : FieldType} {rest : List Value} (hret : meth.sig.returnType = some t) (ht : t.isReference = true) (hw : w.isRef = true)
    (hd : decode c.code pc = .ok (.areturn, 1)) (hq : Q (some w) T.heap locs) (hc : cells ≤ C) (hs : slots ≤ S) : Go p e below (EndN s Q C S) T (mkF m pc Ls (w :: rest)) :=
  Go.ret X hx hlocks hret (own_narR t ht hw) (Or.inr (Or.inr (Or.inr (Or.inr ⟨rfl, ht, hw⟩)))) hd hq hc hs
theorem Go.retV (X : Stand p l e R s m args below meth c T locs cells slots) (hx : p.tables.exec = Jvm.exec) (hlocks : meth.locks = false) {pc : Nat} {Ls : Array Slot} (hret : meth.sig.returnType = none)
    (hd : decode c.code pc = .ok (.return_, 1)) (hq : Q none T.heap locs) (hc : cells ≤ C) (hs : slots ≤ S) : Go p e below (EndN s Q C S) T (mkF m pc Ls []) := by
  obtain ⟨fs, hr, hrun, hended, hW, hsame⟩ := X.leave (v := none) (fun _ => rfl) hlocks
  exact ⟨_, _, X.returnOut hx hret hd hr, hrun, hended, _, _, rfl, hq, ⟨_, rfl⟩, hW, hsame.mono hc hs⟩
/-- two or more roads that meet: what comes behind is shown once, for every x that P allows -/
theorem Go.join {α : Type} {P : α → Prop} {fr : α → JFrame} (h : ∀ x, P x → Go p e below F T (fr x)) (k : (∀ x, P x → Go p e below F T (fr x)) → Go p e below F T g) : Go p e below F T g := k h
def own_at (X : Stand p l e R s m args below meth c T locs cells slots) (h : Heap) (T' : State) : Prop := Stand p l e R s m args below meth c T' locs cells slots ∧ T'.heap = h
theorem Go.joinT {α : Type} {St : State → Prop} {P : α → Prop} {fr : α → JFrame} (h : ∀ T', St T' → ∀ x, P x → Go p e below F T' (fr x)) (k : (∀ T', St T' → ∀ x, P x → Go p e below F T' (fr x)) → Go p e below F T g) : Go p e below F T g := k h
end OwnGo
section OwnSteps
variable {p : Program} {l : Launch} {e : Env} {R : Room} {s : State} {m : MethodId} {args : Array Value} {below : List Frame} {meth : Method} {c : Code} {T : State} {locs : List Loc} {cells slots : Nat} {F : Outcome → State → Prop}
theorem Go.iload1 (q : Nat) (X : Stand p l e R s m args below meth c T locs cells slots) (hx : p.tables.exec = Jvm.exec) {pc : Nat} {Ls : Array Slot} {k : Fin 4} {v : Int32} {St : List Value} (hd : decode c.code pc = .ok (.iload_n k, 1)) (hl : Ls[k.val]? = some (.val (.int v))) (hq : pc + 1 = q) (K : Go p e below F T (mkF m q Ls (.int v :: St))) : Go p e below F T (mkF m pc Ls St) := by
  subst hq
  exact Go.by (fun _ gk => XS.iloadN X.here hx rfl hd hl gk) K
theorem Go.iload2 (q : Nat) (X : Stand p l e R s m args below meth c T locs cells slots) (hx : p.tables.exec = Jvm.exec) {pc : Nat} {Ls : Array Slot} {k : Nat} {v : Int32} {St : List Value} (hd : decode c.code pc = .ok (.iload k, 2)) (hl : Ls[k]? = some (.val (.int v))) (hq : pc + 2 = q) (K : Go p e below F T (mkF m q Ls (.int v :: St))) : Go p e below F T (mkF m pc Ls St) := by
  subst hq
  exact Go.by (fun _ gk => XS.iload X.here hx rfl hd hl gk) K
theorem Go.istore1 (q : Nat) (X : Stand p l e R s m args below meth c T locs cells slots) (hx : p.tables.exec = Jvm.exec) {pc : Nat} {Ls : Array Slot} {k : Fin 4} {x : Int32} {St : List Value} {L' : Array Slot} (hd : decode c.code pc = .ok (.istore_n k, 1)) (hl : storeLocals Ls k.val (.int x) = some L') (hq : pc + 1 = q) (K : Go p e below F T (mkF m q L' St)) : Go p e below F T (mkF m pc Ls (.int x :: St)) := by
  subst hq
  exact Go.by (fun _ gk => XS.istoreN X.here hx rfl hd rfl hl gk) K
theorem Go.istore2 (q : Nat) (X : Stand p l e R s m args below meth c T locs cells slots) (hx : p.tables.exec = Jvm.exec) {pc : Nat} {Ls : Array Slot} {k : Nat} {x : Int32} {St : List Value} {L' : Array Slot} (hd : decode c.code pc = .ok (.istore k, 2)) (hl : storeLocals Ls k (.int x) = some L') (hq : pc + 2 = q) (K : Go p e below F T (mkF m q L' St)) : Go p e below F T (mkF m pc Ls (.int x :: St)) := by
  subst hq
  exact Go.by (fun _ gk => XS.istore X.here hx rfl hd rfl hl gk) K
theorem Go.lload1 (q : Nat) (X : Stand p l e R s m args below meth c T locs cells slots) (hx : p.tables.exec = Jvm.exec) {pc : Nat} {Ls : Array Slot} {k : Fin 4} {v : Int64} {St : List Value} (hd : decode c.code pc = .ok (.lload_n k, 1)) (hl : Ls[k.val]? = some (.val (.long v))) (hq : pc + 1 = q) (K : Go p e below F T (mkF m q Ls (.long v :: St))) : Go p e below F T (mkF m pc Ls St) := by
  subst hq
  exact Go.by (fun _ gk => XT.lloadN X.here hx rfl hd hl gk) K
theorem Go.lload2 (q : Nat) (X : Stand p l e R s m args below meth c T locs cells slots) (hx : p.tables.exec = Jvm.exec) {pc : Nat} {Ls : Array Slot} {k : Nat} {v : Int64} {St : List Value} (hd : decode c.code pc = .ok (.lload k, 2)) (hl : Ls[k]? = some (.val (.long v))) (hq : pc + 2 = q) (K : Go p e below F T (mkF m q Ls (.long v :: St))) : Go p e below F T (mkF m pc Ls St) := by
  subst hq
  exact Go.by (fun _ gk => XT.lload X.here hx rfl hd hl gk) K
theorem Go.lstore1 (q : Nat) (X : Stand p l e R s m args below meth c T locs cells slots) (hx : p.tables.exec = Jvm.exec) {pc : Nat} {Ls : Array Slot} {k : Fin 4} {x : Int64} {St : List Value} {L' : Array Slot} (hd : decode c.code pc = .ok (.lstore_n k, 1)) (hl : storeLocals Ls k.val (.long x) = some L') (hq : pc + 1 = q) (K : Go p e below F T (mkF m q L' St)) : Go p e below F T (mkF m pc Ls (.long x :: St)) := by
  subst hq
  exact Go.by (fun _ gk => XT.lstoreN X.here hx rfl hd rfl hl gk) K
theorem Go.lstore2 (q : Nat) (X : Stand p l e R s m args below meth c T locs cells slots) (hx : p.tables.exec = Jvm.exec) {pc : Nat} {Ls : Array Slot} {k : Nat} {x : Int64} {St : List Value} {L' : Array Slot} (hd : decode c.code pc = .ok (.lstore k, 2)) (hl : storeLocals Ls k (.long x) = some L') (hq : pc + 2 = q) (K : Go p e below F T (mkF m q L' St)) : Go p e below F T (mkF m pc Ls (.long x :: St)) := by
  subst hq
  exact Go.by (fun _ gk => XT.lstore X.here hx rfl hd rfl hl gk) K
theorem Go.aload1 (q : Nat) (X : Stand p l e R s m args below meth c T locs cells slots) (hx : p.tables.exec = Jvm.exec) {pc : Nat} {Ls : Array Slot} {k : Fin 4} {v : Value} {St : List Value} (hd : decode c.code pc = .ok (.aload_n k, 1)) (hl : Ls[k.val]? = some (.val v)) (hv : v.isRef = true) (hq : pc + 1 = q) (K : Go p e below F T (mkF m q Ls (v :: St))) : Go p e below F T (mkF m pc Ls St) := by
  subst hq
  exact Go.by (fun _ gk => XS.aloadN X.here hx rfl hd hl hv gk) K
theorem Go.aload2 (q : Nat) (X : Stand p l e R s m args below meth c T locs cells slots) (hx : p.tables.exec = Jvm.exec) {pc : Nat} {Ls : Array Slot} {k : Nat} {v : Value} {St : List Value} (hd : decode c.code pc = .ok (.aload k, 2)) (hl : Ls[k]? = some (.val v)) (hv : v.isRef = true) (hq : pc + 2 = q) (K : Go p e below F T (mkF m q Ls (v :: St))) : Go p e below F T (mkF m pc Ls St) := by
  subst hq
  exact Go.by (fun _ gk => XS.aload X.here hx rfl hd hl hv gk) K
theorem Go.astore1 (q : Nat) (X : Stand p l e R s m args below meth c T locs cells slots) (hx : p.tables.exec = Jvm.exec) {pc : Nat} {Ls : Array Slot} {k : Fin 4} {x : Value} {St : List Value} {L' : Array Slot} (hd : decode c.code pc = .ok (.astore_n k, 1)) (hv : x.isRef = true) (hl : storeLocals Ls k.val x = some L') (hq : pc + 1 = q) (K : Go p e below F T (mkF m q L' St)) : Go p e below F T (mkF m pc Ls (x :: St)) := by
  subst hq
  exact Go.by (fun _ gk => XS.astoreN X.here hx rfl hd rfl hv hl gk) K
theorem Go.astore2 (q : Nat) (X : Stand p l e R s m args below meth c T locs cells slots) (hx : p.tables.exec = Jvm.exec) {pc : Nat} {Ls : Array Slot} {k : Nat} {x : Value} {St : List Value} {L' : Array Slot} (hd : decode c.code pc = .ok (.astore k, 2)) (hv : x.isRef = true) (hl : storeLocals Ls k x = some L') (hq : pc + 2 = q) (K : Go p e below F T (mkF m q L' St)) : Go p e below F T (mkF m pc Ls (x :: St)) := by
  subst hq
  exact Go.by (fun _ gk => XS.astore X.here hx rfl hd rfl hv hl gk) K
theorem Go.iconst (q : Nat) (X : Stand p l e R s m args below meth c T locs cells slots) (hx : p.tables.exec = Jvm.exec) {pc : Nat} {Ls : Array Slot} {i : Int} (v : Int32) {St : List Value} (hd : decode c.code pc = .ok (.iconst i, 1)) (hv : Int32.ofInt i = v) (hq : pc + 1 = q) (K : Go p e below F T (mkF m q Ls (.int v :: St))) : Go p e below F T (mkF m pc Ls St) := by
  subst hq
  exact Go.by (fun _ gk => XT.iconstV X.here hx rfl v hd hv gk) K
theorem Go.bipush (q : Nat) (X : Stand p l e R s m args below meth c T locs cells slots) (hx : p.tables.exec = Jvm.exec) {pc : Nat} {Ls : Array Slot} {i : Int} (v : Int32) {St : List Value} (hd : decode c.code pc = .ok (.bipush i, 2)) (hv : (Int8.ofInt i).toInt32 = v) (hq : pc + 2 = q) (K : Go p e below F T (mkF m q Ls (.int v :: St))) : Go p e below F T (mkF m pc Ls St) := by
  subst hq
  exact Go.by (fun _ gk => XT.bipushV X.here hx rfl v hd hv gk) K
theorem Go.sipush (q : Nat) (X : Stand p l e R s m args below meth c T locs cells slots) (hx : p.tables.exec = Jvm.exec) {pc : Nat} {Ls : Array Slot} {i : Int} (v : Int32) {St : List Value} (hd : decode c.code pc = .ok (.sipush i, 3)) (hv : (Int16.ofInt i).toInt32 = v) (hq : pc + 3 = q) (K : Go p e below F T (mkF m q Ls (.int v :: St))) : Go p e below F T (mkF m pc Ls St) := by
  subst hq
  exact Go.by (fun _ gk => XT.sipushV X.here hx rfl v hd hv gk) K
theorem Go.lconst (q : Nat) (X : Stand p l e R s m args below meth c T locs cells slots) (hx : p.tables.exec = Jvm.exec) {pc : Nat} {Ls : Array Slot} {k : Fin 2} (v : Int64) {St : List Value} (hd : decode c.code pc = .ok (.lconst k, 1)) (hv : Int64.ofNat k = v) (hq : pc + 1 = q) (K : Go p e below F T (mkF m q Ls (.long v :: St))) : Go p e below F T (mkF m pc Ls St) := by
  subst hq
  exact Go.by (fun _ gk => XT.lconstV X.here hx rfl v hd hv gk) K
theorem Go.aconst_null (q : Nat) (X : Stand p l e R s m args below meth c T locs cells slots) (hx : p.tables.exec = Jvm.exec) {pc : Nat} {Ls : Array Slot} {St : List Value} (hd : decode c.code pc = .ok (.aconst_null, 1)) (hq : pc + 1 = q) (K : Go p e below F T (mkF m q Ls (.null :: St))) : Go p e below F T (mkF m pc Ls St) := by
  subst hq
  exact Go.by (fun _ gk => XS.aconstNull X.here hx rfl hd gk) K
theorem Go.iadd (q : Nat) (X : Stand p l e R s m args below meth c T locs cells slots) (hx : p.tables.exec = Jvm.exec) {pc : Nat} {Ls : Array Slot} {x y : Int32} {St : List Value} (hd : decode c.code pc = .ok (.iadd, 1)) (hq : pc + 1 = q) (K : Go p e below F T (mkF m q Ls (.int (x + y) :: St))) : Go p e below F T (mkF m pc Ls (.int y :: .int x :: St)) := by
  subst hq
  exact Go.by (fun _ gk => XS.iadd X.here hx rfl hd rfl gk) K
theorem Go.isub (q : Nat) (X : Stand p l e R s m args below meth c T locs cells slots) (hx : p.tables.exec = Jvm.exec) {pc : Nat} {Ls : Array Slot} {x y : Int32} {St : List Value} (hd : decode c.code pc = .ok (.isub, 1)) (hq : pc + 1 = q) (K : Go p e below F T (mkF m q Ls (.int (x - y) :: St))) : Go p e below F T (mkF m pc Ls (.int y :: .int x :: St)) := by
  subst hq
  exact Go.by (fun _ gk => XS.isub X.here hx rfl hd rfl gk) K
theorem Go.imul (q : Nat) (X : Stand p l e R s m args below meth c T locs cells slots) (hx : p.tables.exec = Jvm.exec) {pc : Nat} {Ls : Array Slot} {x y : Int32} {St : List Value} (hd : decode c.code pc = .ok (.imul, 1)) (hq : pc + 1 = q) (K : Go p e below F T (mkF m q Ls (.int (x * y) :: St))) : Go p e below F T (mkF m pc Ls (.int y :: .int x :: St)) := by
  subst hq
  exact Go.by (fun _ gk => XS.imul X.here hx rfl hd rfl gk) K
theorem Go.iand (q : Nat) (X : Stand p l e R s m args below meth c T locs cells slots) (hx : p.tables.exec = Jvm.exec) {pc : Nat} {Ls : Array Slot} {x y : Int32} {St : List Value} (hd : decode c.code pc = .ok (.iand, 1)) (hq : pc + 1 = q) (K : Go p e below F T (mkF m q Ls (.int (x &&& y) :: St))) : Go p e below F T (mkF m pc Ls (.int y :: .int x :: St)) := by
  subst hq
  exact Go.by (fun _ gk => XS.iand X.here hx rfl hd rfl gk) K
theorem Go.ior (q : Nat) (X : Stand p l e R s m args below meth c T locs cells slots) (hx : p.tables.exec = Jvm.exec) {pc : Nat} {Ls : Array Slot} {x y : Int32} {St : List Value} (hd : decode c.code pc = .ok (.ior, 1)) (hq : pc + 1 = q) (K : Go p e below F T (mkF m q Ls (.int (x ||| y) :: St))) : Go p e below F T (mkF m pc Ls (.int y :: .int x :: St)) := by
  subst hq
  exact Go.by (fun _ gk => XT.ior X.here hx rfl hd rfl gk) K
theorem Go.ixor (q : Nat) (X : Stand p l e R s m args below meth c T locs cells slots) (hx : p.tables.exec = Jvm.exec) {pc : Nat} {Ls : Array Slot} {x y : Int32} {St : List Value} (hd : decode c.code pc = .ok (.ixor, 1)) (hq : pc + 1 = q) (K : Go p e below F T (mkF m q Ls (.int (x ^^^ y) :: St))) : Go p e below F T (mkF m pc Ls (.int y :: .int x :: St)) := by
  subst hq
  exact Go.by (fun _ gk => XT.ixor X.here hx rfl hd rfl gk) K
theorem Go.ishl (q : Nat) (X : Stand p l e R s m args below meth c T locs cells slots) (hx : p.tables.exec = Jvm.exec) {pc : Nat} {Ls : Array Slot} {x y : Int32} {St : List Value} (hd : decode c.code pc = .ok (.ishl, 1)) (hq : pc + 1 = q) (K : Go p e below F T (mkF m q Ls (.int (x <<< (y &&& 31)) :: St))) : Go p e below F T (mkF m pc Ls (.int y :: .int x :: St)) := by
  subst hq
  exact Go.by (fun _ gk => XT.ishl X.here hx rfl hd rfl gk) K
theorem Go.ishr (q : Nat) (X : Stand p l e R s m args below meth c T locs cells slots) (hx : p.tables.exec = Jvm.exec) {pc : Nat} {Ls : Array Slot} {x y : Int32} {St : List Value} (hd : decode c.code pc = .ok (.ishr, 1)) (hq : pc + 1 = q) (K : Go p e below F T (mkF m q Ls (.int (x >>> (y &&& 31)) :: St))) : Go p e below F T (mkF m pc Ls (.int y :: .int x :: St)) := by
  subst hq
  exact Go.by (fun _ gk => XT.ishr X.here hx rfl hd rfl gk) K
theorem Go.iushr (q : Nat) (X : Stand p l e R s m args below meth c T locs cells slots) (hx : p.tables.exec = Jvm.exec) {pc : Nat} {Ls : Array Slot} {x y : Int32} {St : List Value} (hd : decode c.code pc = .ok (.iushr, 1)) (hq : pc + 1 = q) (K : Go p e below F T (mkF m q Ls (.int (XT.ushr x y) :: St))) : Go p e below F T (mkF m pc Ls (.int y :: .int x :: St)) := by
  subst hq
  exact Go.by (fun _ gk => XT.iushr X.here hx rfl hd rfl gk) K
theorem Go.ladd (q : Nat) (X : Stand p l e R s m args below meth c T locs cells slots) (hx : p.tables.exec = Jvm.exec) {pc : Nat} {Ls : Array Slot} {x y : Int64} {St : List Value} (hd : decode c.code pc = .ok (.ladd, 1)) (hq : pc + 1 = q) (K : Go p e below F T (mkF m q Ls (.long (x + y) :: St))) : Go p e below F T (mkF m pc Ls (.long y :: .long x :: St)) := by
  subst hq
  exact Go.by (fun _ gk => XT.ladd X.here hx rfl hd rfl gk) K
theorem Go.lsub (q : Nat) (X : Stand p l e R s m args below meth c T locs cells slots) (hx : p.tables.exec = Jvm.exec) {pc : Nat} {Ls : Array Slot} {x y : Int64} {St : List Value} (hd : decode c.code pc = .ok (.lsub, 1)) (hq : pc + 1 = q) (K : Go p e below F T (mkF m q Ls (.long (x - y) :: St))) : Go p e below F T (mkF m pc Ls (.long y :: .long x :: St)) := by
  subst hq
  exact Go.by (fun _ gk => XT.lsub X.here hx rfl hd rfl gk) K
theorem Go.lmul (q : Nat) (X : Stand p l e R s m args below meth c T locs cells slots) (hx : p.tables.exec = Jvm.exec) {pc : Nat} {Ls : Array Slot} {x y : Int64} {St : List Value} (hd : decode c.code pc = .ok (.lmul, 1)) (hq : pc + 1 = q) (K : Go p e below F T (mkF m q Ls (.long (x * y) :: St))) : Go p e below F T (mkF m pc Ls (.long y :: .long x :: St)) := by
  subst hq
  exact Go.by (fun _ gk => XT.lmul X.here hx rfl hd rfl gk) K
theorem Go.land (q : Nat) (X : Stand p l e R s m args below meth c T locs cells slots) (hx : p.tables.exec = Jvm.exec) {pc : Nat} {Ls : Array Slot} {x y : Int64} {St : List Value} (hd : decode c.code pc = .ok (.land, 1)) (hq : pc + 1 = q) (K : Go p e below F T (mkF m q Ls (.long (x &&& y) :: St))) : Go p e below F T (mkF m pc Ls (.long y :: .long x :: St)) := by
  subst hq
  exact Go.by (fun _ gk => XT.land X.here hx rfl hd rfl gk) K
theorem Go.lor (q : Nat) (X : Stand p l e R s m args below meth c T locs cells slots) (hx : p.tables.exec = Jvm.exec) {pc : Nat} {Ls : Array Slot} {x y : Int64} {St : List Value} (hd : decode c.code pc = .ok (.lor, 1)) (hq : pc + 1 = q) (K : Go p e below F T (mkF m q Ls (.long (x ||| y) :: St))) : Go p e below F T (mkF m pc Ls (.long y :: .long x :: St)) := by
  subst hq
  exact Go.by (fun _ gk => XT.lor X.here hx rfl hd rfl gk) K
theorem Go.lxor (q : Nat) (X : Stand p l e R s m args below meth c T locs cells slots) (hx : p.tables.exec = Jvm.exec) {pc : Nat} {Ls : Array Slot} {x y : Int64} {St : List Value} (hd : decode c.code pc = .ok (.lxor, 1)) (hq : pc + 1 = q) (K : Go p e below F T (mkF m q Ls (.long (x ^^^ y) :: St))) : Go p e below F T (mkF m pc Ls (.long y :: .long x :: St)) := by
  subst hq
  exact Go.by (fun _ gk => XT.lxor X.here hx rfl hd rfl gk) K
theorem Go.lshl (q : Nat) (X : Stand p l e R s m args below meth c T locs cells slots) (hx : p.tables.exec = Jvm.exec) {pc : Nat} {Ls : Array Slot} {x : Int64} {y : Int32} {St : List Value} (hd : decode c.code pc = .ok (.lshl, 1)) (hq : pc + 1 = q) (K : Go p e below F T (mkF m q Ls (.long (x <<< (y.toInt64 &&& 63)) :: St))) : Go p e below F T (mkF m pc Ls (.int y :: .long x :: St)) := by
  subst hq
  exact Go.by (fun _ gk => XT.lshl X.here hx rfl hd rfl gk) K
theorem Go.lshr (q : Nat) (X : Stand p l e R s m args below meth c T locs cells slots) (hx : p.tables.exec = Jvm.exec) {pc : Nat} {Ls : Array Slot} {x : Int64} {y : Int32} {St : List Value} (hd : decode c.code pc = .ok (.lshr, 1)) (hq : pc + 1 = q) (K : Go p e below F T (mkF m q Ls (.long (x >>> (y.toInt64 &&& 63)) :: St))) : Go p e below F T (mkF m pc Ls (.int y :: .long x :: St)) := by
  subst hq
  exact Go.by (fun _ gk => XT.lshr X.here hx rfl hd rfl gk) K
theorem Go.lushr (q : Nat) (X : Stand p l e R s m args below meth c T locs cells slots) (hx : p.tables.exec = Jvm.exec) {pc : Nat} {Ls : Array Slot} {x : Int64} {y : Int32} {St : List Value} (hd : decode c.code pc = .ok (.lushr, 1)) (hq : pc + 1 = q) (K : Go p e below F T (mkF m q Ls (.long (XT.ushrL x y) :: St))) : Go p e below F T (mkF m pc Ls (.int y :: .long x :: St)) := by
  subst hq
  exact Go.by (fun _ gk => XT.lushr X.here hx rfl hd rfl gk) K
theorem Go.idiv (q : Nat) (X : Stand p l e R s m args below meth c T locs cells slots) (hx : p.tables.exec = Jvm.exec) {pc : Nat} {Ls : Array Slot} {x y : Int32} {St : List Value} (hd : decode c.code pc = .ok (.idiv, 1)) (hy : y ≠ 0) (hq : pc + 1 = q) (K : Go p e below F T (mkF m q Ls (.int (x / y) :: St))) : Go p e below F T (mkF m pc Ls (.int y :: .int x :: St)) := by
  subst hq
  exact Go.by (fun _ gk => XS.idiv X.here hx rfl hd rfl hy gk) K
theorem Go.irem (q : Nat) (X : Stand p l e R s m args below meth c T locs cells slots) (hx : p.tables.exec = Jvm.exec) {pc : Nat} {Ls : Array Slot} {x y : Int32} {St : List Value} (hd : decode c.code pc = .ok (.irem, 1)) (hy : y ≠ 0) (hq : pc + 1 = q) (K : Go p e below F T (mkF m q Ls (.int (x - (x / y) * y) :: St))) : Go p e below F T (mkF m pc Ls (.int y :: .int x :: St)) := by
  subst hq
  exact Go.by (fun _ gk => XS.irem X.here hx rfl hd rfl hy gk) K
theorem Go.ldiv (q : Nat) (X : Stand p l e R s m args below meth c T locs cells slots) (hx : p.tables.exec = Jvm.exec) {pc : Nat} {Ls : Array Slot} {x y : Int64} {St : List Value} (hd : decode c.code pc = .ok (.ldiv, 1)) (hy : y ≠ 0) (hq : pc + 1 = q) (K : Go p e below F T (mkF m q Ls (.long (x / y) :: St))) : Go p e below F T (mkF m pc Ls (.long y :: .long x :: St)) := by
  subst hq
  exact Go.by (fun _ gk => XT.ldiv X.here hx rfl hd rfl hy gk) K
theorem Go.lrem (q : Nat) (X : Stand p l e R s m args below meth c T locs cells slots) (hx : p.tables.exec = Jvm.exec) {pc : Nat} {Ls : Array Slot} {x y : Int64} {St : List Value} (hd : decode c.code pc = .ok (.lrem, 1)) (hy : y ≠ 0) (hq : pc + 1 = q) (K : Go p e below F T (mkF m q Ls (.long (x - (x / y) * y) :: St))) : Go p e below F T (mkF m pc Ls (.long y :: .long x :: St)) := by
  subst hq
  exact Go.by (fun _ gk => XT.lrem X.here hx rfl hd rfl hy gk) K
theorem Go.ineg (q : Nat) (X : Stand p l e R s m args below meth c T locs cells slots) (hx : p.tables.exec = Jvm.exec) {pc : Nat} {Ls : Array Slot} {x : Int32} {St : List Value} (hd : decode c.code pc = .ok (.ineg, 1)) (hq : pc + 1 = q) (K : Go p e below F T (mkF m q Ls (.int (-x) :: St))) : Go p e below F T (mkF m pc Ls (.int x :: St)) := by
  subst hq
  exact Go.by (fun _ gk => XS.ineg X.here hx rfl hd rfl gk) K
theorem Go.lneg (q : Nat) (X : Stand p l e R s m args below meth c T locs cells slots) (hx : p.tables.exec = Jvm.exec) {pc : Nat} {Ls : Array Slot} {x : Int64} {St : List Value} (hd : decode c.code pc = .ok (.lneg, 1)) (hq : pc + 1 = q) (K : Go p e below F T (mkF m q Ls (.long (-x) :: St))) : Go p e below F T (mkF m pc Ls (.long x :: St)) := by
  subst hq
  exact Go.by (fun _ gk => XT.lneg X.here hx rfl hd rfl gk) K
theorem Go.i2l (q : Nat) (X : Stand p l e R s m args below meth c T locs cells slots) (hx : p.tables.exec = Jvm.exec) {pc : Nat} {Ls : Array Slot} {x : Int32} {St : List Value} (hd : decode c.code pc = .ok (.i2l, 1)) (hq : pc + 1 = q) (K : Go p e below F T (mkF m q Ls (.long (x.toInt64) :: St))) : Go p e below F T (mkF m pc Ls (.int x :: St)) := by
  subst hq
  exact Go.by (fun _ gk => XT.i2l X.here hx rfl hd rfl gk) K
theorem Go.l2i (q : Nat) (X : Stand p l e R s m args below meth c T locs cells slots) (hx : p.tables.exec = Jvm.exec) {pc : Nat} {Ls : Array Slot} {x : Int64} {St : List Value} (hd : decode c.code pc = .ok (.l2i, 1)) (hq : pc + 1 = q) (K : Go p e below F T (mkF m q Ls (.int (x.toInt32) :: St))) : Go p e below F T (mkF m pc Ls (.long x :: St)) := by
  subst hq
  exact Go.by (fun _ gk => XT.l2i X.here hx rfl hd rfl gk) K
theorem Go.i2b (q : Nat) (X : Stand p l e R s m args below meth c T locs cells slots) (hx : p.tables.exec = Jvm.exec) {pc : Nat} {Ls : Array Slot} {x : Int32} {St : List Value} (hd : decode c.code pc = .ok (.i2b, 1)) (hq : pc + 1 = q) (K : Go p e below F T (mkF m q Ls (.int (x.toInt8.toInt32) :: St))) : Go p e below F T (mkF m pc Ls (.int x :: St)) := by
  subst hq
  exact Go.by (fun _ gk => XT.i2b X.here hx rfl hd rfl gk) K
theorem Go.i2s (q : Nat) (X : Stand p l e R s m args below meth c T locs cells slots) (hx : p.tables.exec = Jvm.exec) {pc : Nat} {Ls : Array Slot} {x : Int32} {St : List Value} (hd : decode c.code pc = .ok (.i2s, 1)) (hq : pc + 1 = q) (K : Go p e below F T (mkF m q Ls (.int (x.toInt16.toInt32) :: St))) : Go p e below F T (mkF m pc Ls (.int x :: St)) := by
  subst hq
  exact Go.by (fun _ gk => XT.i2s X.here hx rfl hd rfl gk) K
theorem Go.i2c (q : Nat) (X : Stand p l e R s m args below meth c T locs cells slots) (hx : p.tables.exec = Jvm.exec) {pc : Nat} {Ls : Array Slot} {x : Int32} {St : List Value} (hd : decode c.code pc = .ok (.i2c, 1)) (hq : pc + 1 = q) (K : Go p e below F T (mkF m q Ls (.int (x.toUInt32.toUInt16.toUInt32.toInt32) :: St))) : Go p e below F T (mkF m pc Ls (.int x :: St)) := by
  subst hq
  exact Go.by (fun _ gk => XT.i2c X.here hx rfl hd rfl gk) K
theorem Go.lcmp (q : Nat) (X : Stand p l e R s m args below meth c T locs cells slots) (hx : p.tables.exec = Jvm.exec) {pc : Nat} {Ls : Array Slot} {x y : Int64} {St : List Value} (hd : decode c.code pc = .ok (.lcmp, 1)) (hq : pc + 1 = q) (K : Go p e below F T (mkF m q Ls (.int (XT.cmpL x y) :: St))) : Go p e below F T (mkF m pc Ls (.long y :: .long x :: St)) := by
  subst hq
  exact Go.by (fun _ gk => XT.lcmp X.here hx rfl hd rfl gk) K
theorem Go.dup (q : Nat) (X : Stand p l e R s m args below meth c T locs cells slots) (hx : p.tables.exec = Jvm.exec) {pc : Nat} {Ls : Array Slot} {x : Value} {St : List Value} (hd : decode c.code pc = .ok (.dup, 1)) (hc : x.category = 1) (hq : pc + 1 = q) (K : Go p e below F T (mkF m q Ls (x :: x :: St))) : Go p e below F T (mkF m pc Ls (x :: St)) := by
  subst hq
  exact Go.by (fun _ gk => XS.dup X.here hx rfl hd rfl hc gk) K
theorem Go.pop (q : Nat) (X : Stand p l e R s m args below meth c T locs cells slots) (hx : p.tables.exec = Jvm.exec) {pc : Nat} {Ls : Array Slot} {x : Value} {St : List Value} (hd : decode c.code pc = .ok (.pop, 1)) (hc : x.category = 1) (hq : pc + 1 = q) (K : Go p e below F T (mkF m q Ls St)) : Go p e below F T (mkF m pc Ls (x :: St)) := by
  subst hq
  exact Go.by (fun _ gk => XT.pop X.here hx rfl hd rfl hc gk) K
theorem Go.dup_x1 (q : Nat) (X : Stand p l e R s m args below meth c T locs cells slots) (hx : p.tables.exec = Jvm.exec) {pc : Nat} {Ls : Array Slot} {x y : Value} {St : List Value} (hd : decode c.code pc = .ok (.dup_x1, 1)) (hc : x.category = 1) (hc' : y.category = 1) (hq : pc + 1 = q) (K : Go p e below F T (mkF m q Ls (x :: y :: x :: St))) : Go p e below F T (mkF m pc Ls (x :: y :: St)) := by
  subst hq
  exact Go.by (fun _ gk => XT.dupX1 X.here hx rfl hd rfl hc hc' gk) K
theorem Go.dup2 (q : Nat) (X : Stand p l e R s m args below meth c T locs cells slots) (hx : p.tables.exec = Jvm.exec) {pc : Nat} {Ls : Array Slot} {x y : Value} {St : List Value} (hd : decode c.code pc = .ok (.dup2, 1)) (hc : x.category = 1) (hc' : y.category = 1) (hq : pc + 1 = q) (K : Go p e below F T (mkF m q Ls (x :: y :: x :: y :: St))) : Go p e below F T (mkF m pc Ls (x :: y :: St)) := by
  subst hq
  exact Go.by (fun _ gk => XT.dup2 X.here hx rfl hd rfl hc hc' gk) K
theorem Go.dup2L (q : Nat) (X : Stand p l e R s m args below meth c T locs cells slots) (hx : p.tables.exec = Jvm.exec) {pc : Nat} {Ls : Array Slot} {x : Int64} {St : List Value} (hd : decode c.code pc = .ok (.dup2, 1)) (hq : pc + 1 = q) (K : Go p e below F T (mkF m q Ls (.long x :: .long x :: St))) : Go p e below F T (mkF m pc Ls (.long x :: St)) := by
  subst hq
  exact Go.by (fun _ gk => XT.dup2L X.here hx rfl hd rfl gk) K
theorem Go.iinc (q : Nat) (X : Stand p l e R s m args below meth c T locs cells slots) (hx : p.tables.exec = Jvm.exec) {pc : Nat} {Ls : Array Slot} {k : Nat} {cst : Int} {x : Int32} (v : Int32) {St : List Value} {L' : Array Slot} (hd : decode c.code pc = .ok (.iinc k cst, 3)) (hv : Int32.ofInt cst = v) (hl : Ls[k]? = some (.val (.int x))) (hl' : storeLocals Ls k (.int (x + v)) = some L') (hq : pc + 3 = q) (K : Go p e below F T (mkF m q L' St)) : Go p e below F T (mkF m pc Ls St) := by
  subst hq
  exact Go.by (fun _ gk => XT.iincV X.here hx rfl v hd hv hl hl' gk) K
theorem Go.goto (q : Nat) (X : Stand p l e R s m args below meth c T locs cells slots) (hx : p.tables.exec = Jvm.exec) {pc : Nat} {Ls : Array Slot} {o : Int} {St : List Value} (hd : decode c.code pc = .ok (.goto o, 3)) (ho : 0 ≤ (pc : Int) + o) (hq : ((pc : Int) + o).toNat = q) (K : Go p e below F T (mkF m q Ls St)) : Go p e below F T (mkF m pc Ls St) :=
  Go.by (fun _ gk => XS.goto X.here hx rfl rfl hd ho hq gk) K
theorem Go.ifY (q : Nat) (X : Stand p l e R s m args below meth c T locs cells slots) (hx : p.tables.exec = Jvm.exec) {pc : Nat} {Ls : Array Slot} {cd : ClassFile.Cond} {x : Int32} {o : Int} {St : List Value} (hd : decode c.code pc = .ok (.ifCond cd o, 3)) (hc : ifCond.holds cd x = true) (ho : 0 ≤ (pc : Int) + o) (hq : ((pc : Int) + o).toNat = q) (K : Go p e below F T (mkF m q Ls St)) : Go p e below F T (mkF m pc Ls (.int x :: St)) :=
  Go.by (fun _ gk => XS.ifYes X.here hx rfl rfl hd rfl hc ho hq gk) K
theorem Go.ifN (q : Nat) (X : Stand p l e R s m args below meth c T locs cells slots) (hx : p.tables.exec = Jvm.exec) {pc : Nat} {Ls : Array Slot} {cd : ClassFile.Cond} {x : Int32} {o : Int} {St : List Value} (hd : decode c.code pc = .ok (.ifCond cd o, 3)) (hc : ifCond.holds cd x = false) (hq : pc + 3 = q) (K : Go p e below F T (mkF m q Ls St)) : Go p e below F T (mkF m pc Ls (.int x :: St)) := by
  subst hq
  exact Go.by (fun _ gk => XS.ifNo X.here hx rfl hd rfl hc gk) K
theorem Go.icmpY (q : Nat) (X : Stand p l e R s m args below meth c T locs cells slots) (hx : p.tables.exec = Jvm.exec) {pc : Nat} {Ls : Array Slot} {cd : ClassFile.Cond} {x y : Int32} {o : Int} {St : List Value} (hd : decode c.code pc = .ok (.if_icmp cd o, 3)) (hc : if_icmp.holds cd x y = true) (ho : 0 ≤ (pc : Int) + o) (hq : ((pc : Int) + o).toNat = q) (K : Go p e below F T (mkF m q Ls St)) : Go p e below F T (mkF m pc Ls (.int y :: .int x :: St)) :=
  Go.by (fun _ gk => XS.icmpYes X.here hx rfl rfl hd rfl hc ho hq gk) K
theorem Go.icmpN (q : Nat) (X : Stand p l e R s m args below meth c T locs cells slots) (hx : p.tables.exec = Jvm.exec) {pc : Nat} {Ls : Array Slot} {cd : ClassFile.Cond} {x y : Int32} {o : Int} {St : List Value} (hd : decode c.code pc = .ok (.if_icmp cd o, 3)) (hc : if_icmp.holds cd x y = false) (hq : pc + 3 = q) (K : Go p e below F T (mkF m q Ls St)) : Go p e below F T (mkF m pc Ls (.int y :: .int x :: St)) := by
  subst hq
  exact Go.by (fun _ gk => XS.icmpNo X.here hx rfl hd rfl hc gk) K
end OwnSteps
section OwnWide
variable {p : Program} {l : Launch} {e : Env} {R : Room} {s : State} {m : MethodId} {args : Array Value} {below : List Frame} {meth : Method} {c : Code} {T T' : State} {locs : List Loc} {cells slots : Nat} {Q : Option Value → Heap → List Loc → Prop} {C S n : Nat} {Z : State} {a0 : Array Value} {EL : List (String × Nat)} {vm : Vm} {h : Heap}
/-- it returned, Q holds, the held literals go on, and nothing else has moved than L, so many new cells and slots, and literals interned -/
abbrev EndW (Z : State) (EL : List (String × Nat)) (s : State) (Q : Option Value → Heap → List Loc → Prop) (C S : Nat) (o : Outcome) (t : State) : Prop := ∃ v L, o = .returned v ∧ Q v t.heap L ∧ CHr Z EL s.vm s.heap t.vm t.heap ∧ ReturnedEndW s o t L C S
theorem Go.retW (X : Stand p l e R (s.setVm vm) m args below meth c T locs cells slots) (hx : p.tables.exec = Jvm.exec) (hlocks : meth.locks = false) (hS : s.Since vm n) (hk : n ≤ T.heap.size) (hZ : Z.Warmed39 vm) (hEL : EW Z a0 EL) (hCH : CHr Z EL s.vm s.heap vm T.heap) {pc : Nat} {Ls : Array Slot} {w : Value} {t : FieldType} {i : Instr} {rest : List Value}
    (hret : meth.sig.returnType = some t) (hn : narrow t w = w) (hi : own_retKind i t w) (hd : decode c.code pc = .ok (i, 1)) (hq : Q (some w) T.heap locs) (hc : cells ≤ C) (hs : slots ≤ S) : Go p e below (EndW Z EL s Q C S) T (mkF m pc Ls (w :: rest)) := by
  obtain ⟨fs, hr, hrun, hended, h1, h2, h3, h4⟩ := X.leaveW hS hk (v := some w) (fun h => by rw [hret] at h; cases h) hlocks
  have hA : CHr Z EL s.vm s.heap T.vm T.heap := hCH.trans (CHv.at X hZ hEL hCH.1)
  exact ⟨_, _, retOut X hx hret hn hi hd hr, hrun, hended, _, _, rfl, hq, hA, h1, h2, h3, h4.mono hc hs⟩
theorem Go.retIW (X : Stand p l e R (s.setVm vm) m args below meth c T locs cells slots) (hx : p.tables.exec = Jvm.exec) (hlocks : meth.locks = false) (hS : s.Since vm n) (hk : n ≤ T.heap.size) (hZ : Z.Warmed39 vm) (hEL : EW Z a0 EL) (hCH : CHr Z EL s.vm s.heap vm T.heap) {pc : Nat} {Ls : Array Slot} {w : Int32} {t : FieldType} {rest : List Value}
    (hret : meth.sig.returnType = some t) (hn : narrow t (.int w) = .int w) (ht : t = .int ∨ t = .boolean ∨ t = .byte ∨ t = .char ∨ t = .short) (hd : decode c.code pc = .ok (.ireturn, 1)) (hq : Q (some (.int w)) T.heap locs) (hc : cells ≤ C) (hs : slots ≤ S) : Go p e below (EndW Z EL s Q C S) T (mkF m pc Ls (.int w :: rest)) :=
  Go.retW X hx hlocks hS hk hZ hEL hCH hret hn (Or.inl ⟨rfl, ht, _, rfl⟩) hd hq hc hs
theorem Go.retAW (X : Stand p l e R (s.setVm vm) m args below meth c T locs cells slots) (hx : p.tables.exec = Jvm.exec) (hlocks : meth.locks = false) (hS : s.Since vm n) (hk : n ≤ T.heap.size) (hZ : Z.Warmed39 vm) (hEL : EW Z a0 EL) (hCH : CHr Z EL s.vm s.heap vm T.heap) {pc : Nat} {Ls : Array Slot} {w : Value} {t : FieldType} {rest : List Value}
    (hret : meth.sig.returnType = some t) (ht : t.isReference = true) (hw : w.isRef = true) (hd : decode c.code pc = .ok (.areturn, 1)) (hq : Q (some w) T.heap locs) (hc : cells ≤ C) (hs : slots ≤ S) : Go p e below (EndW Z EL s Q C S) T (mkF m pc Ls (w :: rest)) :=
  Go.retW X hx hlocks hS hk hZ hEL hCH hret (own_narR t ht hw) (Or.inr (Or.inr (Or.inr (Or.inr ⟨rfl, ht, hw⟩)))) hd hq hc hs
theorem Go.retVW (X : Stand p l e R (s.setVm vm) m args below meth c T locs cells slots) (hx : p.tables.exec = Jvm.exec) (hlocks : meth.locks = false) (hS : s.Since vm n) (hk : n ≤ T.heap.size) (hZ : Z.Warmed39 vm) (hEL : EW Z a0 EL) (hCH : CHr Z EL s.vm s.heap vm T.heap) {pc : Nat} {Ls : Array Slot}
    (hret : meth.sig.returnType = none) (hd : decode c.code pc = .ok (.return_, 1)) (hq : Q none T.heap locs) (hc : cells ≤ C) (hs : slots ≤ S) : Go p e below (EndW Z EL s Q C S) T (mkF m pc Ls []) := by
  obtain ⟨fs, hr, hrun, hended, h1, h2, h3, h4⟩ := X.leaveW hS hk (v := none) (fun _ => rfl) hlocks
  have hA : CHr Z EL s.vm s.heap T.vm T.heap := hCH.trans (CHv.at X hZ hEL hCH.1)
  exact ⟨_, _, X.returnOut hx hret hd hr, hrun, hended, _, _, rfl, hq, hA, h1, h2, h3, h4.mono hc hs⟩
end OwnWide
open Jvm.Free.SB Jvm.Free.SBG in
/-- a String whose value is still null is no held literal -/
theorem own_safe {Z : State} {vm : Vm} {EL : List (String × Nat)} {h : Heap} {x : Addr} (hal : Z.vm.Alike vm) (E : Exa Z h x "java/lang/String") (F : Fld Z h x "java/lang/String" "value" "[B" .null) : Safe Z EL vm h x := fun B => by
  obtain ⟨p, -, u, a, -, q, -, G, rfl | rfl⟩ := B
  · obtain ⟨cell, cf, k, i, f, h1, h2, h3, h4, h5, h6, h7⟩ := F
    cases (show h[q.sa]? = some q.sC from G.ha).symm.trans h1
    obtain ⟨cS, ⟨⟨s1, s2, s3, ⟨cv, kv, iv, s4, s4'⟩, -, s6, s7, s8, -⟩, -, -⟩, -⟩ := G
    obtain ⟨kv', z4⟩ := ff_back (Z := Z) (U := Wst Z vm h) hal s4
    cases h2.symm.trans z4
    cases h7.symm.trans s8
  · obtain ⟨cell, k, e1, e2, e3, -, -⟩ := E
    cases (show h[q.sd]? = some q.SA from G.hd).symm.trans e1
    obtain ⟨cS, -, -, f, -⟩ := G
    have f' : Z.vm.findClass "[B" = some q.SA.cls := by rw [← hal.findClass]; exact f
    exact ids_ne e2 f' (by decide) rfl

abbrev own_EL : List (String × Nat) := [("com/example/entries_to_nodes/entriestonodes/xml/XsBoolean", 7), ("com/example/entries_to_nodes/entriestonodes/xml/XsBoolean", 15), ("com/example/entries_to_nodes/entriestonodes/xml/XsBoolean", 23), ("com/example/entries_to_nodes/entriestonodes/xml/XsBoolean", 25), ("java/lang/String", 7)]
theorem own_EW {Z : State} {a0 : Array Value} (hw : ∀ d ∈ tables_1, d.before a0 Z = true) : EW Z a0 own_EL := (EW.cons (ow hw 30 rfl) (by decide) (EW.cons (ow hw 42 rfl) (by decide) (EW.cons (ow hw 43 rfl) (by decide) (EW.cons (ow hw 44 rfl) (by decide) (EW.cons (ow hw 18 rfl) (by decide) EW.nil)))))
theorem own_SA {Z : State} {a0 : Array Value} (hw : ∀ d ∈ tables_1, d.before a0 Z = true) : ∀ a ∈ Bundle.stringAtoms, a.before a0 Z = true := fun d hd => hw d ((by decide +kernel : ∀ d ∈ Bundle.stringAtoms, d ∈ tables_1) d hd)
theorem own_masked (x : Int32) : ¬ (x &&& 2147483647) < 0 := by
  have h := (c_and x (2147483647 : Int32) (by decide)).1
  rw [XT.negI32]
  omega
theorem own_irem (x y : Int32) : x - x / y * y = x % y := irem_eq_mod x y
theorem own_rem {x d k : Int32} (n : Nat) (hx : ¬ x < 0) (hd : d.toInt = n) (hn : 0 < n) (hk : k = x - x / d * d) : ∃ j : Nat, j < n ∧ k = Int32.ofNat j := by
  rw [own_irem] at hk
  rw [XT.negI32] at hx
  have h1 := (c_irem x d n hd).1 (by omega)
  have h2 := Int.emod_nonneg x.toInt (b := (n : Int)) (by omega)
  have h3 := Int.emod_lt_of_pos x.toInt (b := (n : Int)) (by omega)
  refine ⟨k.toInt.toNat, by rw [hk, h1]; omega, ?_⟩
  apply Int32.toInt_inj.mp
  have h4 := rng32 k
  rw [← hk] at h1
  rw [Int32.toInt_ofNat_of_lt (by omega)]
  omega

/-- a char's low byte, signed -/
def own_b (c : Int32) : Int32 := c.toInt8.toInt32
theorem own_bn (c : Int32) : nar .byte c.toInt8.toInt32 = own_b c := by
  show c.toInt8.toInt32.toInt8.toInt32 = c.toInt8.toInt32
  simp
theorem own_b_inj {c d : Int32} (h1 : ¬ c < 0) (h2 : ¬ (255 : Int32) < c) (h3 : ¬ d < 0) (h4 : ¬ (255 : Int32) < d) (h : own_b c = own_b d) : c = d := by
  have e1 := c_i2b c
  have e2 := c_i2b d
  have e3 : c.toInt8.toInt32.toInt = d.toInt8.toInt32.toInt := congrArg Int32.toInt h
  rw [Int32.lt_iff_toInt_lt] at h1 h2 h3 h4
  simp at h1 h2 h3 h4
  apply Int32.toInt_inj.mp
  omega
theorem own_nc (x : Int32) : nar .char (x &&& 255) = x &&& 255 := i2c_mask x
theorem own_255 (x : Int32) : ¬ (255 : Int32) < x &&& 255 := by
  have h := c_and x (255 : Int32) (by decide)
  rw [Int32.lt_iff_toInt_lt]
  have : (255 : Int32).toInt = 255 := by decide
  omega
theorem own_0 (x : Int32) : ¬ (x &&& 255) < 0 := by
  have h := c_and x (255 : Int32) (by decide)
  rw [XT.negI32]
  omega

def own_str (n a b : Int32) : List Value := if n = 0 then [] else if n = 1 then [(.int (own_b a))] else [(.int (own_b a)), (.int (own_b b))]
theorem own_str_0 (a b : Int32) : own_str 0 a b = [] := by simp [own_str]
theorem own_str_1 (a b : Int32) : own_str 1 a b = [(.int (own_b a))] := by simp [own_str]
theorem own_str_2 (a b : Int32) : own_str 2 a b = [(.int (own_b a)), (.int (own_b b))] := by simp [own_str]
/-- the two Strings of up to two signs say the same -/
def own_eq (n xa xb m ya yb : Int32) : Prop := n = m ∧ (n = 0 ∨ own_b xa = own_b ya) ∧ (¬ n = 2 ∨ own_b xb = own_b yb)
theorem own_fld_same {Z : State} {h : Heap} {a : Addr} {C n d : String} {v w : Value} (F : Fld Z h a C n d v) (G : Fld Z h a C n d w) : v = w :=
  Classical.byContradiction fun q => Fld.ne F G q rfl
theorem own_arv_same {Z : State} {h : Heap} {a : Addr} {k k' : ClassId} {ty ty' : FieldType} {z z' : Int32} {vs ws : List Value} {d d' : Value} (A : Arv Z h a k ty z vs d) (B : Arv Z h a k' ty' z' ws d') (i : Nat) (hi : i < z.toNatClampNeg) : vs.getD i d = ws.getD i d' := by
  obtain ⟨c1, a1, -, s1, -, h1, -⟩ := A
  obtain ⟨c2, b1, -, s2, -, h2, -⟩ := B
  cases a1.1.symm.trans b1.1
  exact Option.some.inj ((h1 i (by omega)).symm.trans (h2 i (by omega)))
theorem own_str_ne {Z : State} {h : Heap} {a b av bv : Addr} {ka kb : ClassId} {n m : Int32} {vs ws : List Value} {C f d : String} (F : Fld Z h a C f d (.ref av)) (G : Fld Z h b C f d (.ref bv)) (A : Arv Z h av ka .byte n vs (.int 0)) (B : Arv Z h bv kb .byte m ws (.int 0)) (hn : n.toNatClampNeg ≠ m.toNatClampNeg) : a ≠ b := by
  rintro rfl
  have e := Value.ref.inj (own_fld_same F G)
  exact arv_ne A B (Or.inl hn) e
theorem own_ncb {t : Int32} (h1 : ¬ t < 0) (h2 : ¬ (255 : Int32) < t) : nar .char t = t := by
  have e : t = t &&& 255 := by
    apply Int32.toInt_inj.mp
    have := c_mask t 255 8 (by decide) (by decide)
    rw [Int32.lt_iff_toInt_lt] at h1 h2
    have l0 : (0 : Int32).toInt = 0 := by decide
    have l1 : (255 : Int32).toInt = 255 := by decide
    rw [this]
    omega
  rw [e]
  exact i2c_mask t

theorem own_bd {c x : Int32} (h : c = x &&& 255) : ¬ c < 0 ∧ ¬ (255 : Int32) < c := by
  subst h
  exact ⟨own_0 x, own_255 x⟩
theorem own_lit {t : Int32} (h : ¬ t < 0 ∧ ¬ (255 : Int32) < t) (k : Int32) (hk : ¬ k < 0 ∧ ¬ (255 : Int32) < k) : own_b t = own_b k ↔ t = k := ⟨own_b_inj h.1 h.2 hk.1 hk.2, fun q => q ▸ rfl⟩
theorem own_and7 (x : Int32) : ¬ (x &&& 7) < 0 := by
  have h := (c_and x (7 : Int32) (by decide)).1
  rw [XT.negI32]
  omega
theorem own_m7 {x k : Int32} (h : k = (x &&& 7) - (x &&& 7) / 7 * 7) : k = 0 ∨ k = 1 ∨ k = 2 ∨ k = 3 ∨ k = 4 ∨ k = 5 ∨ k = 6 := by
  obtain ⟨j, hj, rfl⟩ := own_rem 7 (own_and7 x) (d := 7) rfl (by decide) h
  rcases (by omega : j = 0 ∨ j = 1 ∨ j = 2 ∨ j = 3 ∨ j = 4 ∨ j = 5 ∨ j = 6) with rfl | rfl | rfl | rfl | rfl | rfl | rfl <;> simp
theorem own_m4 {x k : Int32} (h : k = (x &&& 7) - (x &&& 7) / 4 * 4) : k = 0 ∨ k = 1 ∨ k = 2 ∨ k = 3 := by
  obtain ⟨j, hj, rfl⟩ := own_rem 4 (own_and7 x) (d := 4) rfl (by decide) h
  rcases (by omega : j = 0 ∨ j = 1 ∨ j = 2 ∨ j = 3) with rfl | rfl | rfl | rfl <;> simp
theorem own_m5 {x k : Int32} (h : k = (x &&& 7) - (x &&& 7) / 5 * 5) : k = 0 ∨ k = 1 ∨ k = 2 ∨ k = 3 ∨ k = 4 := by
  obtain ⟨j, hj, rfl⟩ := own_rem 5 (own_and7 x) (d := 5) rfl (by decide) h
  rcases (by omega : j = 0 ∨ j = 1 ∨ j = 2 ∨ j = 3 ∨ j = 4) with rfl | rfl | rfl | rfl | rfl <;> simp
theorem own_m1 {x k : Int32} (h : k = (x &&& 7) - (x &&& 7) / 1 * 1) : k = 0 := by
  obtain ⟨j, hj, rfl⟩ := own_rem 1 (own_and7 x) (d := 1) rfl (by decide) h
  rcases (by omega : j = 0) with rfl
  simp
theorem own_a3 (x : Int32) : x &&& 3 = 0 ∨ x &&& 3 = 1 ∨ x &&& 3 = 2 ∨ x &&& 3 = 3 := by
  have h := c_and x (3 : Int32) (by decide)
  have h3 : (3 : Int32).toInt = 3 := by decide
  have e : ∀ k : Int32, (x &&& 3).toInt = k.toInt → x &&& 3 = k := fun k q => Int32.toInt_inj.mp q
  rcases (by omega : (x &&& 3).toInt = 0 ∨ (x &&& 3).toInt = 1 ∨ (x &&& 3).toInt = 2 ∨ (x &&& 3).toInt = 3) with q | q | q | q
  · exact Or.inl (e 0 q)
  · exact Or.inr (Or.inl (e 1 q))
  · exact Or.inr (Or.inr (Or.inl (e 2 q)))
  · exact Or.inr (Or.inr (Or.inr (e 3 q)))
theorem pn_1 : plainName "java/lang/String" = true := by first | (simp [plainName, overriddenIn]; done) | decide +kernel
theorem ef_2 (m : MethodId) (x0 : Addr) (x1 : Addr) (x2 : Int32) (x3 : Int32) : entryFrame m #[(.ref x0), (.ref x1), (.int x2), (.int x3), .null] 6 = mkF m 0 #[rv x0, rv x1, iv x2, iv x3, .val .null, un] [] := by (first | (simp [entryFrame, mkF, argsToLocals, Value.category]; done) | rfl)
theorem d3_0 : decode jdk_42_method_149_code 0 = .ok (.aload_n 0, 1) := by decide +kernel
theorem d3_1 : decode jdk_42_method_149_code 1 = .ok (.invokespecial 1, 3) := by decide +kernel
theorem d3_4 : decode jdk_42_method_149_code 4 = .ok (.iload_n 3, 1) := by decide +kernel
theorem d3_5 : decode jdk_42_method_149_code 5 = .ok (.ifCond .ne 22, 3) := by decide +kernel
theorem d3_8 : decode jdk_42_method_149_code 8 = .ok (.aload_n 0, 1) := by decide +kernel
theorem d3_9 : decode jdk_42_method_149_code 9 = .ok (.ldc 7, 2) := by decide +kernel
theorem d3_11 : decode jdk_42_method_149_code 11 = .ok (.getfield 9, 3) := by decide +kernel
theorem d3_14 : decode jdk_42_method_149_code 14 = .ok (.putfield 9, 3) := by decide +kernel
theorem d3_17 : decode jdk_42_method_149_code 17 = .ok (.aload_n 0, 1) := by decide +kernel
theorem d3_18 : decode jdk_42_method_149_code 18 = .ok (.ldc 7, 2) := by decide +kernel
theorem d3_20 : decode jdk_42_method_149_code 20 = .ok (.getfield 15, 3) := by decide +kernel
theorem d3_23 : decode jdk_42_method_149_code 23 = .ok (.putfield 15, 3) := by decide +kernel
theorem d3_26 : decode jdk_42_method_149_code 26 = .ok (.return_, 1) := by decide +kernel
def Q_rmS4_e (Z : State) (a : Addr) (va : Addr) (h0 : Heap) (n0 : Nat) (v : Option Value) (h : Heap) (L : List Loc) : Prop := ∃ b : Addr, ∃ kb : ClassId, v = none ∧ Fr n0 L ∧ Keep h0 h [a] ∧ Exa Z h a "java/lang/String" ∧ Fld Z h a "java/lang/String" "coder" "B" (.int 0) ∧ Fld Z h a "java/lang/String" "value" "[B" (.ref b) ∧ Arv Z h b kb .byte (0 : Int32) ([]) (.int 0)
set_option maxRecDepth 65536 in
set_option maxHeartbeats 40000000 in
theorem rmS4_e (l : Launch) (Z : State) (a0 : Array Value) (hw : ∀ d ∈ tables_1, d.before a0 Z = true) (ws : List Jvm.Cond) (a : Addr) (va : Addr) (h0 : Heap) (n0 : Nat) (Z0 : n0 ≤ h0.size) (O0 : Old Z n0 h0) (E_a : Exa Z h0 a "java/lang/String") (F_a_value : Fld Z h0 a "java/lang/String" "value" "[B" .null) (F_a_coder : Fld Z h0 a "java/lang/String" "coder" "B" (.int 0)) (g_a : n0 ≤ a) :
    MetFree l (⟨"java/lang/String", "<init>", "([CIILjava/lang/Void;)V"⟩ : MethodName) (head1 (Jvm.Cond.code (⟨"java/lang/String", "<init>", "([CIILjava/lang/Void;)V"⟩ : MethodName) jdk_42_method_149_code 6 none :: ws) ({ frames := 1, cells := 4, slots := 8, locals := 12 } : Room)) (fun as' U => as' = #[(.ref a), (.ref va), (.int 0), (.int 0), .null] ∧ Z.Warmed39 U.vm ∧ U.heap = h0 ∧ CHv Z own_EL U.vm h0) (fun _ _ _ _ _ => True) (fun _ U o U' => ∃ v L, o = .returned v ∧ Q_rmS4_e Z a va h0 n0 v U'.heap L ∧ CHr Z own_EL U.vm U.heap U'.vm U'.heap ∧ ReturnedEndW U o U' L ({ frames := 1, cells := 4, slots := 8, locals := 12 } : Room).cells ({ frames := 1, cells := 4, slots := 8, locals := 12 } : Room).slots) := by
  refine MetFree.of_bodySF (plainFor_of_name pn_1) hisR ?_
  intro p e s m args below meth c s₁ Bd hml0 hP hK
  obtain ⟨rfl, hZ, hh, hH⟩ := hP
  have hx := Bd.exec
  have hby := Bd.bytes
  have hml : c.maxLocals = 6 := hml0
  have hown : s.vm.findClass "java/lang/String" = some m.cls := findClass_of_methodNamed Bd.named
  have hnm := (name_of_methodNamed Bd.named Bd.method).1
  have X0 : Stand p l e ({ frames := 1, cells := 4, slots := 8, locals := 12 } : Room) (s.setVm s.vm) m #[(.ref a), (.ref va), (.int 0), (.int 0), .null] below meth c s₁ [] 0 0 := Stand.of_body Bd
  have e0 : s₁.heap = h0 := by rw [← hh, Bd.state]; rfl
  have N0 := Fr.nil n0
  have hS0 : s.Since s.vm s.heap.size := (State.WarmedH.refl s).since _
  have hk0 : s.heap.size ≤ h0.size := Nat.le_of_eq (by rw [hh])
  have C0 : CHr Z own_EL s.vm h0 s.vm h0 := CHr.refl hH
  have hEL := own_EW hw
  have hSA := own_SA hw
  refine Go.enter (F := EndW Z own_EL s (Q_rmS4_e Z a va h0 n0) ({ frames := 1, cells := 4, slots := 8, locals := 12 } : Room).cells ({ frames := 1, cells := 4, slots := 8, locals := 12 } : Room).slots) (ef_2 m a va (0 : Int32) (0 : Int32)) ?_
  have Sf1 : Safe Z own_EL s.vm h0 a := own_safe hZ.alike E_a F_a_value
  show Go _ _ _ _ s₁ (mkF m 0 #[rv a, rv va, iv 0, iv 0, .val .null, un] [])
  refine Go.aload1 1 X0 hx (hb hby d3_0) rfl rfl rfl ?_
  obtain ⟨T2, X2, e2, st2⟩ := initO X0 hx hZ hown (ow hw 15 rfl) (ow hw 16 rfl) (ow hw 17 rfl) e0 (g := (mkF m 1 #[rv a, rv va, iv 0, iv 0, .val .null, un] [(.ref a)])) rfl (by rw [hml]; rfl) rfl (hb hby d3_1) (by decide) (W := 0) (by show 2 * 0 + _ ≤ _; exact Nat.le_of_eq rfl) (by decide)
  refine Go.by st2 ?_
  show Go _ _ _ _ T2 (mkF m 4 #[rv a, rv va, iv 0, iv 0, .val .null, un] [])
  refine Go.iload1 5 X2 hx (hb hby d3_4) rfl rfl ?_
  refine Go.ifN 8 X2 hx (hb hby d3_5) (XT.i0_ne_f rfl) rfl ?_
  refine Go.aload1 9 X2 hx (hb hby d3_8) rfl rfl rfl ?_
  obtain ⟨q1, T3, h3, kq3, q1b, k3, X3, e3, E3, hS3, hk3, hZ3, hown3, Ea3, Fc3, Fv3, Va3, -, -, CH3, -, sf3, st3⟩ := ldcCH X2 hx hZ hown (ow hw 18 rfl) hSA e2 hS0 hk0 hEL (List.mem_of_getElem? (i := 4) rfl) C0.1 (vs := []) (z := (0 : Int32)) ⟨by decide, by decide⟩ (by decide) rfl (g := (mkF m 9 #[rv a, rv va, iv 0, iv 0, .val .null, un] [(.ref a)])) rfl (hb hby d3_9) (n := 0) (by decide) (by decide) (by decide) (by decide)
  have C4 : CHr Z own_EL s.vm h0 T3.vm h3 := C0.trans CH3
  have Sf5 : Safe Z own_EL T3.vm h3 a := CH3.safe E_a.lt Sf1
  obtain ⟨ne_a_q1, ne_a_q1b⟩ := sf3 _ Sf5
  refine Go.by st3 ?_
  show Go _ _ _ _ T3 (mkF m 11 #[rv a, rv va, iv 0, iv 0, .val .null, un] [(.ref q1), (.ref a)])
  obtain ⟨T6, X6, e6, st6⟩ := getF X3 hx hZ3 hown3 (host := "") (Or.inl (ow hw 24 rfl)) Via.refl e3 Fv3 (g := (mkF m 11 #[rv a, rv va, iv 0, iv 0, .val .null, un] [(.ref q1), (.ref a)])) rfl rfl (hb hby d3_11)
  refine Go.by st6 ?_
  show Go _ _ _ _ T6 (mkF m 14 #[rv a, rv va, iv 0, iv 0, .val .null, un] [(.ref q1b), (.ref a)])
  have F7 : Fld Z h3 a "java/lang/String" "value" "[B" .null := F_a_value.ext E3
  have F8 : Exa Z h3 a "java/lang/String" := E_a.ext E3
  obtain ⟨T9, h9, X9, e9, W9, st9⟩ := putF X6 hx hZ3 hown3 (host := "") (Or.inl (ow hw 24 rfl)) Via.refl e6 F7 F8 (Or.inr ⟨(ow hw 20 rfl), rfl, hnm⟩) (ow hw 6 rfl) (ty := (.array .byte)) (by decide) rfl rfl (g := (mkF m 14 #[rv a, rv va, iv 0, iv 0, .val .null, un] [(.ref q1b), (.ref a)])) rfl rfl (hb hby d3_14)
  have C10 : CHr Z own_EL s.vm h0 T3.vm h9 := C4.trans (CHr.wr W9 Sf5 C4.1)
  have Sf11 : Safe Z own_EL T3.vm h9 a := Safe.wr W9 Sf5 C4.1 Sf5
  have N9 := Fr.snoc X9 N0 g_a
  have Fw9 : Fld Z h9 a "java/lang/String" "value" "[B" (.ref q1b) := F7.same W9
  refine Go.by st9 ?_
  show Go _ _ _ _ T9 (mkF m 17 #[rv a, rv va, iv 0, iv 0, .val .null, un] [])
  refine Go.aload1 18 X9 hx (hb hby d3_17) rfl rfl rfl ?_
  have F13 : kq3 ≤ h9.size := Nat.le_trans hk3 (Nat.le_of_eq (Wr.size W9).symm)
  have F14 : Exa Z h9 a "java/lang/String" := F8.wr W9
  obtain ⟨q2, T12, h12, kq12, q2b, k12, X12, e12, E12, hS12, hk12, hZ12, hown12, Ea12, Fc12, Fv12, Va12, -, -, CH12, -, sf12, st12⟩ := ldcCH X9 hx hZ3 hown3 (ow hw 18 rfl) hSA e9 hS3 F13 hEL (List.mem_of_getElem? (i := 4) rfl) C10.1 (vs := []) (z := (0 : Int32)) ⟨by decide, by decide⟩ (by decide) rfl (g := (mkF m 18 #[rv a, rv va, iv 0, iv 0, .val .null, un] [(.ref a)])) rfl (hb hby d3_18) (n := 0) (by decide) (by decide) (by decide) (by decide)
  have C15 : CHr Z own_EL s.vm h0 T12.vm h12 := C10.trans CH12
  have Sf16 : Safe Z own_EL T12.vm h12 a := CH12.safe F14.lt Sf11
  obtain ⟨ne_a_q2, ne_a_q2b⟩ := sf12 _ Sf16
  refine Go.by st12 ?_
  show Go _ _ _ _ T12 (mkF m 20 #[rv a, rv va, iv 0, iv 0, .val .null, un] [(.ref q2), (.ref a)])
  obtain ⟨T17, X17, e17, st17⟩ := getF X12 hx hZ12 hown12 (host := "") (Or.inl (ow hw 25 rfl)) Via.refl e12 Fc12 (g := (mkF m 20 #[rv a, rv va, iv 0, iv 0, .val .null, un] [(.ref q2), (.ref a)])) rfl rfl (hb hby d3_20)
  refine Go.by st17 ?_
  show Go _ _ _ _ T17 (mkF m 23 #[rv a, rv va, iv 0, iv 0, .val .null, un] [(.int 0), (.ref a)])
  have F18 : Fld Z h3 a "java/lang/String" "coder" "B" (.int 0) := F_a_coder.ext E3
  have F19 : Fld Z h9 a "java/lang/String" "coder" "B" (.int 0) := F18.other W9 (Or.inr (slot_ne (Or.inr (ow hw 21 rfl)) (Or.inr (ow hw 20 rfl)) (by decide) (t := .byte) (t' := (.array .byte)) (by decide) (by decide)))
  have F20 : Fld Z h12 a "java/lang/String" "coder" "B" (.int 0) := F19.ext E12
  have F21 : Exa Z h12 a "java/lang/String" := F14.ext E12
  obtain ⟨T22, h22, X22, e22, W22, st22⟩ := putFN X17 hx hZ12 hown12 (ow hw 25 rfl) Via.refl e17 F20 F21 (Or.inr ⟨(ow hw 21 rfl), rfl, hnm⟩) (ow hw 6 rfl) (ty := .byte) (v' := (.int 0)) (by decide) rfl rfl (g := (mkF m 23 #[rv a, rv va, iv 0, iv 0, .val .null, un] [(.int 0), (.ref a)])) rfl rfl (hb hby d3_23)
  have C23 : CHr Z own_EL s.vm h0 T12.vm h22 := C15.trans (CHr.wr W22 Sf16 C15.1)
  have Sf24 : Safe Z own_EL T12.vm h22 a := Safe.wr W22 Sf16 C15.1 Sf16
  have N22 := Fr.snoc X22 N9 g_a
  have Fw22 : Fld Z h22 a "java/lang/String" "coder" "B" (.int 0) := F20.same W22
  refine Go.by st22 ?_
  show Go _ _ _ _ T22 (mkF m 26 #[rv a, rv va, iv 0, iv 0, .val .null, un] [])
  have F25 : Keep h0 h3 [a] := (Keep.refl h0 [a]).ext E3
  have F26 : Keep h0 h9 [a] := F25.wr W9 (Or.inl (List.mem_of_getElem? (i := 0) rfl))
  have F27 : Keep h0 h12 [a] := F26.ext E12
  have F28 : Keep h0 h22 [a] := F27.wr W22 (Or.inl (List.mem_of_getElem? (i := 0) rfl))
  have F29 : Exa Z h22 a "java/lang/String" := F21.wr W22
  have F30 : Fld Z h12 a "java/lang/String" "value" "[B" (.ref q1b) := Fw9.ext E12
  have F31 : Fld Z h22 a "java/lang/String" "value" "[B" (.ref q1b) := F30.other W22 (Or.inr (slot_ne (Or.inr (ow hw 20 rfl)) (Or.inr (ow hw 21 rfl)) (by decide) (t := (.array .byte)) (t' := .byte) (by decide) (by decide)))
  have F32 : Arv Z h9 q1b k3 .byte (0 : Int32) [] (.int 0) := Va3.other W9 (Ne.symm ne_a_q1b)
  have F33 : Arv Z h12 q1b k3 .byte (0 : Int32) [] (.int 0) := F32.ext E12
  have F34 : Arv Z h22 q1b k3 .byte (0 : Int32) [] (.int 0) := F33.other W22 (Ne.symm ne_a_q1b)
  have F35 : kq12 ≤ h22.size := Nat.le_trans hk12 (Nat.le_of_eq (Wr.size W22).symm)
  exact Go.retVW X22 hx Bd.notSynchronized hS12 (by rw [e22]; exact F35) hZ12 hEL (by rw [hh, e22]; exact C23) Bd.returns (hb hby d3_26) (by rw [e22]; exact ⟨q1b, k3, rfl, N22, F28, F29, Fw22, F31, F34⟩) (by decide) (by decide)
theorem ef_16 (m : MethodId) (x0 : Addr) (x1 : Addr) : entryFrame m #[(.ref x0), (.ref x1)] 2 = mkF m 0 #[rv x0, rv x1] [] := by (first | (simp [entryFrame, mkF, argsToLocals, Value.category]; done) | rfl)
theorem d2_0 : decode jdk_42_method_3_code 0 = .ok (.aload_n 0, 1) := by decide +kernel
theorem d2_1 : decode jdk_42_method_3_code 1 = .ok (.aload_n 1, 1) := by decide +kernel
theorem d2_2 : decode jdk_42_method_3_code 2 = .ok (.iconst 0, 1) := by decide +kernel
theorem d2_3 : decode jdk_42_method_3_code 3 = .ok (.aload_n 1, 1) := by decide +kernel
theorem d2_4 : decode jdk_42_method_3_code 4 = .ok (.arraylength, 1) := by decide +kernel
theorem d2_5 : decode jdk_42_method_3_code 5 = .ok (.aconst_null, 1) := by decide +kernel
theorem pd_23 : parseMethodDescriptor "([CIILjava/lang/Void;)V" = some ⟨[(.array .char), .int, .int, (.object "java/lang/Void")], none⟩ := by decide +kernel
theorem d2_6 : decode jdk_42_method_3_code 6 = .ok (.invokespecial 27, 3) := by decide +kernel
theorem d2_9 : decode jdk_42_method_3_code 9 = .ok (.return_, 1) := by decide +kernel
def Q_rmS1_e (Z : State) (a : Addr) (va : Addr) (kv : ClassId) (h0 : Heap) (n0 : Nat) (v : Option Value) (h : Heap) (L : List Loc) : Prop := ∃ b : Addr, ∃ kb : ClassId, v = none ∧ Fr n0 L ∧ Keep h0 h [a] ∧ Exa Z h a "java/lang/String" ∧ Fld Z h a "java/lang/String" "coder" "B" (.int 0) ∧ Fld Z h a "java/lang/String" "value" "[B" (.ref b) ∧ Arv Z h b kb .byte (0 : Int32) ([]) (.int 0)
set_option maxRecDepth 65536 in
set_option maxHeartbeats 40000000 in
theorem rmS1_e (l : Launch) (Z : State) (a0 : Array Value) (hw : ∀ d ∈ tables_1, d.before a0 Z = true) (ws : List Jvm.Cond) (a : Addr) (va : Addr) (kv : ClassId) (h0 : Heap) (n0 : Nat) (Z0 : n0 ≤ h0.size) (O0 : Old Z n0 h0) (E_a : Exa Z h0 a "java/lang/String") (F_a_value : Fld Z h0 a "java/lang/String" "value" "[B" .null) (F_a_coder : Fld Z h0 a "java/lang/String" "coder" "B" (.int 0)) (g_a : n0 ≤ a) (V_va : Arv Z h0 va kv .char (0 : Int32) ([]) (.int 0)) :
    MetFree l (⟨"java/lang/String", "<init>", "([C)V"⟩ : MethodName) (head1 (Jvm.Cond.code (⟨"java/lang/String", "<init>", "([C)V"⟩ : MethodName) jdk_42_method_3_code 2 none :: ws) ({ frames := 2, cells := 4, slots := 8, locals := 29 } : Room)) (fun as' U => as' = #[(.ref a), (.ref va)] ∧ Z.Warmed39 U.vm ∧ U.heap = h0 ∧ CHv Z own_EL U.vm h0) (fun _ _ _ _ _ => True) (fun _ U o U' => ∃ v L, o = .returned v ∧ Q_rmS1_e Z a va kv h0 n0 v U'.heap L ∧ CHr Z own_EL U.vm U.heap U'.vm U'.heap ∧ ReturnedEndW U o U' L ({ frames := 2, cells := 4, slots := 8, locals := 29 } : Room).cells ({ frames := 2, cells := 4, slots := 8, locals := 29 } : Room).slots) := by
  refine MetFree.of_bodySF (plainFor_of_name pn_1) hisR ?_
  intro p e s m args below meth c s₁ Bd hml0 hP hK
  obtain ⟨rfl, hZ, hh, hH⟩ := hP
  have hx := Bd.exec
  have hby := Bd.bytes
  have hml : c.maxLocals = 2 := hml0
  have hown : s.vm.findClass "java/lang/String" = some m.cls := findClass_of_methodNamed Bd.named
  have hnm := (name_of_methodNamed Bd.named Bd.method).1
  have X0 : Stand p l e ({ frames := 2, cells := 4, slots := 8, locals := 29 } : Room) (s.setVm s.vm) m #[(.ref a), (.ref va)] below meth c s₁ [] 0 0 := Stand.of_body Bd
  have e0 : s₁.heap = h0 := by rw [← hh, Bd.state]; rfl
  have N0 := Fr.nil n0
  have hS0 : s.Since s.vm s.heap.size := (State.WarmedH.refl s).since _
  have hk0 : s.heap.size ≤ h0.size := Nat.le_of_eq (by rw [hh])
  have C0 : CHr Z own_EL s.vm h0 s.vm h0 := CHr.refl hH
  have hEL := own_EW hw
  have hSA := own_SA hw
  refine Go.enter (F := EndW Z own_EL s (Q_rmS1_e Z a va kv h0 n0) ({ frames := 2, cells := 4, slots := 8, locals := 29 } : Room).cells ({ frames := 2, cells := 4, slots := 8, locals := 29 } : Room).slots) (ef_16 m a va) ?_
  have Sf1 : Safe Z own_EL s.vm h0 a := own_safe hZ.alike E_a F_a_value
  show Go _ _ _ _ s₁ (mkF m 0 #[rv a, rv va] [])
  refine Go.aload1 1 X0 hx (hb hby d2_0) rfl rfl rfl ?_
  refine Go.aload1 2 X0 hx (hb hby d2_1) rfl rfl rfl ?_
  refine Go.iconst 3 X0 hx (0 : Int32) (hb hby d2_2) (by decide) rfl ?_
  refine Go.aload1 4 X0 hx (hb hby d2_3) rfl rfl rfl ?_
  obtain ⟨cl2, Ar2, -, S2, M2, -, -⟩ := id V_va
  refine Go.by (fun _ gk => X0.arraylength hx (by rw [e0]; exact Ar2.1) (State.isArrayOf_alike hZ.alike Ar2.2.1) (g := (mkF m 4 #[rv a, rv va] [(.ref va), (.int 0), (.ref va), (.ref a)])) rfl rfl (hb hby d2_4) _ gk) ?_
  rw [len_of S2 M2]
  show Go _ _ _ _ s₁ (mkF m 5 #[rv a, rv va] [(.int 0), (.int 0), (.ref va), (.ref a)])
  refine Go.aconst_null 6 X0 hx (hb hby d2_5) rfl ?_
  obtain ⟨_, _, ⟨T3, L3, k3, n3⟩, -, Xq3, hSq3, hgr3, ⟨Lc3, hQ3, l3, y3, z3, CH3⟩, st3⟩ := X0.specialBackS hx (y := (⟨"java/lang/String", "<init>", "([CIILjava/lang/Void;)V"⟩ : MethodName)) rfl hown (mvT hZ (ow hw 11 rfl)) (mvT hZ (ow hw 12 rfl)) (mvT hZ (ow hw 14 rfl)) (by decide) (backOfSH (W := 0) (rmS4_e l Z a0 hw [] a va h0 n0 Z0 O0 E_a F_a_value F_a_coder g_a) hZ (ow hw 14 rfl) (ow hw 7 rfl) (by decide) (by decide) hEL C0.1) (g := (mkF m 6 #[rv a, rv va] [.null, (.int 0), (.int 0), (.ref va), (.ref a)])) rfl (by rw [hml]; rfl) (Steps.refl _) (a := a) (argsL := [(.ref va), (.int 0), (.int 0), .null]) (rest := []) (lenOf pd_23 rfl) rfl (by show 2 * 0 + _ ≤ _; exact Nat.le_of_eq rfl) (hb hby d2_6) (fun _ _ => ⟨rfl, e0, (by decide : 0 + 4 ≤ _), (by decide : 0 + 8 ≤ _)⟩)
  dsimp only [Pt.U, Pt.locs, Pt.cells, Pt.slots] at Xq3 hSq3 hgr3 l3 y3 z3 st3 hQ3 CH3
  subst l3 y3 z3
  obtain ⟨b, kb, rfl, N3q, K3, Q3_0, Q3_1, Q3_2, Q3_3⟩ := hQ3
  have N3 := Fr.app N0 N3q
  obtain ⟨X3, hS3, hZ3, hown3⟩ := rebS hS0 (by rw [e0]; exact hk0) Xq3 hSq3 hgr3 hZ hown
  have C4 : CHr Z own_EL s.vm h0 T3.vm T3.heap := C0.trans CH3
  have Sf5 : Safe Z own_EL T3.vm T3.heap a := CH3.safe E_a.lt Sf1
  refine Go.to st3 ?_
  show Go _ _ _ _ T3 (mkF m 9 #[rv a, rv va] [])
  have F6 : Keep h0 T3.heap [a] := (Keep.refl h0 [a]).trans K3 (allS (Or.inl (List.mem_of_getElem? (i := 0) rfl)) all0)
  exact Go.retVW X3 hx Bd.notSynchronized hS3 (by exact (Nat.le_refl T3.heap.size)) hZ3 hEL (by rw [hh]; exact C4) Bd.returns (hb hby d2_9) ⟨b, kb, rfl, N3, F6, Q3_0, Q3_1, Q3_2, Q3_3⟩ (by decide) (by decide)
theorem pn_26 : plainName "com/example/entries_to_nodes/entriestonodes/xml/XsBooleanReadPinLaw" = true := by first | (simp [plainName, overriddenIn]; done) | decide +kernel
theorem ef_27 (m : MethodId) (x0 : Addr) (x1 : Int32) : entryFrame m #[(.ref x0), (.int x1)] 2 = mkF m 0 #[rv x0, iv x1] [] := by (first | (simp [entryFrame, mkF, argsToLocals, Value.category]; done) | rfl)
theorem d1_0 : decode method_3_code 0 = .ok (.iload_n 1, 1) := by decide +kernel
theorem d1_1 : decode method_3_code 1 = .ok (.ifCond .ne 14, 3) := by decide +kernel
theorem d1_4 : decode method_3_code 4 = .ok (.new 25, 3) := by decide +kernel
theorem d1_7 : decode method_3_code 7 = .ok (.dup, 1) := by decide +kernel
theorem d1_8 : decode method_3_code 8 = .ok (.iconst 0, 1) := by decide +kernel
theorem d1_9 : decode method_3_code 9 = .ok (.newarray .char, 2) := by decide +kernel
theorem pd_34 : parseMethodDescriptor "([C)V" = some ⟨[(.array .char)], none⟩ := by decide +kernel
theorem d1_11 : decode method_3_code 11 = .ok (.invokespecial 27, 3) := by decide +kernel
theorem d1_14 : decode method_3_code 14 = .ok (.areturn, 1) := by decide +kernel
def Q_rmStr0 (Z : State) (ta : Addr) (kt : ClassId) (t0 : Int32) (t1 : Int32) (t2 : Int32) (t3 : Int32) (t4 : Int32) (t5 : Int32) (cs : Int32) (h0 : Heap) (n0 : Nat) (v : Option Value) (h : Heap) (L : List Loc) : Prop := ∃ st : Addr, ∃ sb : Addr, ∃ kb : ClassId, v = some (.ref st) ∧ Fr n0 L ∧ Keep h0 h [] ∧ Exa Z h st "java/lang/String" ∧ Fld Z h st "java/lang/String" "coder" "B" (.int 0) ∧ Fld Z h st "java/lang/String" "value" "[B" (.ref sb) ∧ Arv Z h sb kb .byte (0 : Int32) ([]) (.int 0) ∧ h0.size ≤ st
set_option maxRecDepth 65536 in
set_option maxHeartbeats 40000000 in
theorem rmStr0 (l : Launch) (Z : State) (a0 : Array Value) (hw : ∀ d ∈ tables_1, d.before a0 Z = true) (ws : List Jvm.Cond) (ta : Addr) (kt : ClassId) (t0 : Int32) (t1 : Int32) (t2 : Int32) (t3 : Int32) (t4 : Int32) (t5 : Int32) (cs : Int32) (h0 : Heap) (n0 : Nat) (Z0 : n0 ≤ h0.size) (O0 : Old Z n0 h0) (V_ta : Arv Z h0 ta kt .char (6 : Int32) ([(.int t0), (.int t1), (.int t2), (.int t3), (.int t4), (.int t5)]) (.int 0)) (S_cs : Sta Z Z.heap "java/lang/String" "COMPACT_STRINGS" "Z" (.int cs)) (n_cs : ¬ cs = 0) :
    MetFree l (⟨"com/example/entries_to_nodes/entriestonodes/xml/XsBooleanReadPinLaw", "str", "([CI)Ljava/lang/String;"⟩ : MethodName) (head1 (Jvm.Cond.code (⟨"com/example/entries_to_nodes/entriestonodes/xml/XsBooleanReadPinLaw", "str", "([CI)Ljava/lang/String;"⟩ : MethodName) method_3_code 2 (some (.object "java/lang/String")) :: ws) ({ frames := 3, cells := 6, slots := 12, locals := 43 } : Room)) (fun as' U => as' = #[(.ref ta), (.int 0)] ∧ Z.Warmed39 U.vm ∧ U.heap = h0 ∧ CHv Z own_EL U.vm h0) (fun _ _ _ _ _ => True) (fun _ U o U' => ∃ v L, o = .returned v ∧ Q_rmStr0 Z ta kt t0 t1 t2 t3 t4 t5 cs h0 n0 v U'.heap L ∧ CHr Z own_EL U.vm U.heap U'.vm U'.heap ∧ ReturnedEndW U o U' L ({ frames := 3, cells := 6, slots := 12, locals := 43 } : Room).cells ({ frames := 3, cells := 6, slots := 12, locals := 43 } : Room).slots) := by
  refine MetFree.of_bodySF (plainFor_of_name pn_26) hisR ?_
  intro p e s m args below meth c s₁ Bd hml0 hP hK
  obtain ⟨rfl, hZ, hh, hH⟩ := hP
  have hx := Bd.exec
  have hby := Bd.bytes
  have hml : c.maxLocals = 2 := hml0
  have hown : s.vm.findClass "com/example/entries_to_nodes/entriestonodes/xml/XsBooleanReadPinLaw" = some m.cls := findClass_of_methodNamed Bd.named
  have hnm := (name_of_methodNamed Bd.named Bd.method).1
  have X0 : Stand p l e ({ frames := 3, cells := 6, slots := 12, locals := 43 } : Room) (s.setVm s.vm) m #[(.ref ta), (.int 0)] below meth c s₁ [] 0 0 := Stand.of_body Bd
  have e0 : s₁.heap = h0 := by rw [← hh, Bd.state]; rfl
  have N0 := Fr.nil n0
  have hS0 : s.Since s.vm s.heap.size := (State.WarmedH.refl s).since _
  have hk0 : s.heap.size ≤ h0.size := Nat.le_of_eq (by rw [hh])
  have C0 : CHr Z own_EL s.vm h0 s.vm h0 := CHr.refl hH
  have hEL := own_EW hw
  have hSA := own_SA hw
  refine Go.enter (F := EndW Z own_EL s (Q_rmStr0 Z ta kt t0 t1 t2 t3 t4 t5 cs h0 n0) ({ frames := 3, cells := 6, slots := 12, locals := 43 } : Room).cells ({ frames := 3, cells := 6, slots := 12, locals := 43 } : Room).slots) (ef_27 m ta (0 : Int32)) ?_
  show Go _ _ _ _ s₁ (mkF m 0 #[rv ta, iv 0] [])
  refine Go.iload1 1 X0 hx (hb hby d1_0) rfl rfl ?_
  refine Go.ifN 4 X0 hx (hb hby d1_1) (XT.i0_ne_f rfl) rfl ?_
  obtain ⟨st, g1⟩ : ∃ z, z = h0.size := ⟨_, rfl⟩
  have ge_st : n0 ≤ st := Nat.le_trans Z0 (Nat.le_of_eq g1.symm)
  have sz_st : h0.size ≤ st := Nat.le_trans (Keep.refl h0 []).1 (Nat.le_of_eq g1.symm)
  have ne_ta_st : ta ≠ st := Nat.ne_of_lt (Nat.lt_of_lt_of_le V_ta.lt (Nat.le_of_eq g1.symm))
  obtain ⟨T1, h1, X1, e1, E1, A1, D1, -, st1⟩ := newO X0 hx hZ hown (ow hw 5 rfl) (ow hw 6 rfl) (ow hw 7 rfl) e0 (g := (mkF m 4 #[rv ta, iv 0] [])) rfl (hb hby d1_4) (by decide) (by decide)
  rw [← g1] at A1 D1 st1
  have C2 : CHr Z own_EL s.vm h0 s.vm h1 := C0.trans (CHr.ext E1 C0.1)
  have Sf3 : Safe Z own_EL s.vm h1 st := Safe.ext E1 C0.1 (Safe.new (Nat.le_of_eq g1.symm))
  have F_value_st : Fld Z h1 st "java/lang/String" "value" "[B" .null := D1 (Or.inr (ow hw 20 rfl)) (ty := (.array .byte)) (by decide)
  have F_coder_st : Fld Z h1 st "java/lang/String" "coder" "B" (.int 0) := D1 (Or.inr (ow hw 21 rfl)) (ty := .byte) (by decide)
  refine Go.by st1 ?_
  show Go _ _ _ _ T1 (mkF m 7 #[rv ta, iv 0] [(.ref st)])
  refine Go.dup 8 X1 hx (hb hby d1_7) rfl rfl ?_
  refine Go.iconst 9 X1 hx (0 : Int32) (hb hby d1_8) (by decide) rfl ?_
  obtain ⟨ca, g4⟩ : ∃ z, z = h1.size := ⟨_, rfl⟩
  have F5 : n0 ≤ h1.size := Nat.le_trans Z0 E1.1
  have ge_ca : n0 ≤ ca := Nat.le_trans F5 (Nat.le_of_eq g4.symm)
  have F6 : Keep h0 h1 [] := (Keep.refl h0 []).ext E1
  have sz_ca : h0.size ≤ ca := Nat.le_trans F6.1 (Nat.le_of_eq g4.symm)
  have ne_st_ca : st ≠ ca := Nat.ne_of_lt (Nat.lt_of_lt_of_le A1.lt (Nat.le_of_eq g4.symm))
  have F7 : Arv Z h1 ta kt .char (6 : Int32) [(.int t0), (.int t1), (.int t2), (.int t3), (.int t4), (.int t5)] (.int 0) := V_ta.ext E1
  have ne_ta_ca : ta ≠ ca := Nat.ne_of_lt (Nat.lt_of_lt_of_le F7.lt (Nat.le_of_eq g4.symm))
  obtain ⟨T4, h4, k4, X4, e4, E4, A4, Ea4, st4⟩ := newPE X1 hx hZ (ow hw 0 rfl) e1 (g := (mkF m 9 #[rv ta, iv 0] [(.int 0), (.ref st), (.ref st)])) rfl (hb hby d1_9) rfl (by decide) (cap := 0) (by decide) (by decide) (by decide) (by decide) (ad := "[C") rfl
  rw [← g4] at A4 Ea4 st4
  have C8 : CHr Z own_EL s.vm h0 s.vm h4 := C2.trans (CHr.ext E4 C2.1)
  have Sf9 : Safe Z own_EL s.vm h4 st := Safe.ext E4 C2.1 Sf3
  have Sf10 : Safe Z own_EL s.vm h4 ca := Safe.ext E4 C2.1 (Safe.new (Nat.le_of_eq g4.symm))
  have V_ca : Arv Z h4 ca k4 .char (0 : Int32) [] (.int 0) := (Arv.new A4 (by decide)).pad (pad_rep [] (.int 0) 0)
  refine Go.by st4 ?_
  show Go _ _ _ _ T4 (mkF m 11 #[rv ta, iv 0] [(.ref ca), (.ref st), (.ref st)])
  have F11 : Old Z n0 h1 := O0.ext E1
  have F12 : Old Z n0 h4 := F11.ext E4
  have F13 : Exa Z h4 st "java/lang/String" := A1.ext E4
  have F14 : Fld Z h4 st "java/lang/String" "value" "[B" .null := F_value_st.ext E4
  have F15 : Fld Z h4 st "java/lang/String" "coder" "B" (.int 0) := F_coder_st.ext E4
  have F16 : n0 ≤ h4.size := Nat.le_trans F5 E4.1
  have F18 : s.heap.size ≤ h1.size := Nat.le_trans hk0 E1.1
  have F19 : s.heap.size ≤ h4.size := Nat.le_trans F18 E4.1
  obtain ⟨_, _, ⟨T17, L17, k17, n17⟩, -, Xq17, hSq17, hgr17, ⟨Lc17, hQ17, l17, y17, z17, CH17⟩, st17⟩ := X4.specialBackS hx (y := (⟨"java/lang/String", "<init>", "([C)V"⟩ : MethodName)) rfl hown (mvT hZ (ow hw 8 rfl)) (mvT hZ (ow hw 9 rfl)) (mvT hZ (ow hw 10 rfl)) (by decide) (backOfSH (W := 1) (rmS1_e l Z a0 hw [] st ca k4 h4 n0 F16 F12 F13 F14 F15 ge_st V_ca) hZ (ow hw 10 rfl) (ow hw 7 rfl) (by decide) (by decide) hEL C8.1) (g := (mkF m 11 #[rv ta, iv 0] [(.ref ca), (.ref st), (.ref st)])) rfl (by rw [hml]; rfl) (Steps.refl _) (a := st) (argsL := [(.ref ca)]) (rest := [(.ref st)]) (lenOf pd_34 rfl) rfl (by show 2 * 0 + _ ≤ _; exact Nat.le_of_eq rfl) (hb hby d1_11) (fun _ _ => ⟨rfl, e4, (by decide : 2 + 4 ≤ _), (by decide : 4 + 8 ≤ _)⟩)
  dsimp only [Pt.U, Pt.locs, Pt.cells, Pt.slots] at Xq17 hSq17 hgr17 l17 y17 z17 st17 hQ17 CH17
  subst l17 y17 z17
  obtain ⟨sb, kb, rfl, N17q, K17, Q17_0, Q17_1, Q17_2, Q17_3⟩ := hQ17
  have N17 := Fr.app N0 N17q
  obtain ⟨X17, hS17, hZ17, hown17⟩ := rebS hS0 (by rw [e4]; exact F19) Xq17 hSq17 hgr17 hZ hown
  have C20 : CHr Z own_EL s.vm h0 T17.vm T17.heap := C8.trans CH17
  have Sf21 : Safe Z own_EL T17.vm T17.heap st := CH17.safe F13.lt Sf9
  have Sf22 : Safe Z own_EL T17.vm T17.heap ca := CH17.safe Ea4.lt Sf10
  refine Go.to st17 ?_
  show Go _ _ _ _ T17 (mkF m 14 #[rv ta, iv 0] [(.ref st)])
  have F23 : Keep h0 h4 [] := F6.ext E4
  have F24 : Keep h0 T17.heap [] := F23.trans K17 (allS (Or.inr sz_st) all0)
  exact Go.retAW X17 hx Bd.notSynchronized hS17 (by exact (Nat.le_refl T17.heap.size)) hZ17 hEL (by rw [hh]; exact C20) Bd.returns rfl rfl (hb hby d1_14) ⟨st, sb, kb, rfl, N17, F24, Q17_0, Q17_1, Q17_2, Q17_3, sz_st⟩ (by decide) (by decide)
theorem pn_37 : plainName "java/lang/StringUTF16" = true := by first | (simp [plainName, overriddenIn]; done) | decide +kernel
theorem ef_38 (m : MethodId) (x0 : Addr) (x1 : Int32) (x2 : Addr) (x3 : Int32) (x4 : Int32) : entryFrame m #[(.ref x0), (.int x1), (.ref x2), (.int x3), (.int x4)] 7 = mkF m 0 #[rv x0, iv x1, rv x2, iv x3, iv x4, un, un] [] := by (first | (simp [entryFrame, mkF, argsToLocals, Value.category]; done) | rfl)
theorem d9_0 : decode jdk_52_method_21_code 0 = .ok (.iconst 0, 1) := by decide +kernel
theorem d9_1 : decode jdk_52_method_21_code 1 = .ok (.istore 5, 2) := by decide +kernel
theorem d9_3 : decode jdk_52_method_21_code 3 = .ok (.iload 5, 2) := by decide +kernel
theorem d9_5 : decode jdk_52_method_21_code 5 = .ok (.iload 4, 2) := by decide +kernel
theorem d9_7 : decode jdk_52_method_21_code 7 = .ok (.if_icmp .ge 37, 3) := by decide +kernel
theorem d9_10 : decode jdk_52_method_21_code 10 = .ok (.aload_n 0, 1) := by decide +kernel
theorem d9_11 : decode jdk_52_method_21_code 11 = .ok (.iload_n 1, 1) := by decide +kernel
theorem d9_12 : decode jdk_52_method_21_code 12 = .ok (.caload, 1) := by decide +kernel
theorem d9_13 : decode jdk_52_method_21_code 13 = .ok (.istore 6, 2) := by decide +kernel
theorem d9_15 : decode jdk_52_method_21_code 15 = .ok (.iload 6, 2) := by decide +kernel
theorem d9_17 : decode jdk_52_method_21_code 17 = .ok (.sipush 255, 3) := by decide +kernel
theorem d9_20 : decode jdk_52_method_21_code 20 = .ok (.if_icmp .le 6, 3) := by decide +kernel
theorem d9_26 : decode jdk_52_method_21_code 26 = .ok (.aload_n 2, 1) := by decide +kernel
theorem d9_27 : decode jdk_52_method_21_code 27 = .ok (.iload_n 3, 1) := by decide +kernel
theorem d9_28 : decode jdk_52_method_21_code 28 = .ok (.iload 6, 2) := by decide +kernel
theorem d9_30 : decode jdk_52_method_21_code 30 = .ok (.i2b, 1) := by decide +kernel
theorem d9_31 : decode jdk_52_method_21_code 31 = .ok (.bastore, 1) := by decide +kernel
theorem d9_32 : decode jdk_52_method_21_code 32 = .ok (.iinc 1 1, 3) := by decide +kernel
theorem d9_35 : decode jdk_52_method_21_code 35 = .ok (.iinc 3 1, 3) := by decide +kernel
theorem d9_38 : decode jdk_52_method_21_code 38 = .ok (.iinc 5 1, 3) := by decide +kernel
theorem d9_41 : decode jdk_52_method_21_code 41 = .ok (.goto (-38), 3) := by decide +kernel
theorem d9_44 : decode jdk_52_method_21_code 44 = .ok (.iload 4, 2) := by decide +kernel
theorem d9_46 : decode jdk_52_method_21_code 46 = .ok (.ireturn, 1) := by decide +kernel
def Q_rmC5_1 (Z : State) (va : Addr) (da : Addr) (kv : ClassId) (kd : ClassId) (c0 : Int32) (h0 : Heap) (n0 : Nat) (v : Option Value) (h : Heap) (L : List Loc) : Prop := v = some (.int 1) ∧ Fr n0 L ∧ Keep h0 h [da] ∧ Arv Z h da kd .byte (1 : Int32) ([(.int (own_b c0))]) (.int 0)
set_option maxRecDepth 65536 in
set_option maxHeartbeats 40000000 in
theorem rmC5_1 (l : Launch) (Z : State) (a0 : Array Value) (hw : ∀ d ∈ tables_1, d.before a0 Z = true) (ws : List Jvm.Cond) (va : Addr) (da : Addr) (kv : ClassId) (kd : ClassId) (c0 : Int32) (h0 : Heap) (n0 : Nat) (Z0 : n0 ≤ h0.size) (V_va : Arv Z h0 va kv .char (1 : Int32) ([(.int c0)]) (.int 0)) (V_da : Arv Z h0 da kd .byte (1 : Int32) ([(.int 0)]) (.int 0)) (g_da : n0 ≤ da) (ne_va_da : va ≠ da) (hc0 : (¬ (255 : Int32) < c0)) :
    MetFree l (⟨"java/lang/StringUTF16", "compress", "([CI[BII)I"⟩ : MethodName) (head1 (Jvm.Cond.code (⟨"java/lang/StringUTF16", "compress", "([CI[BII)I"⟩ : MethodName) jdk_52_method_21_code 7 (some .int) :: ws) ({ frames := 0, cells := 0, slots := 0, locals := 0 } : Room)) (fun as' U => as' = #[(.ref va), (.int 0), (.ref da), (.int 0), (.int 1)] ∧ Z.Warmed39 U.vm ∧ U.heap = h0) (fun _ _ _ _ _ => True) (fun _ U o U' => ∃ v L, o = .returned v ∧ Q_rmC5_1 Z va da kv kd c0 h0 n0 v U'.heap L ∧ FrameEnd U o U' L ({ frames := 0, cells := 0, slots := 0, locals := 0 } : Room).cells ({ frames := 0, cells := 0, slots := 0, locals := 0 } : Room).slots) := by
  refine MetFree.of_bodySF (plainFor_of_name pn_37) hisR ?_
  intro p e s m args below meth c s₁ Bd hml0 hP hK
  obtain ⟨rfl, hZ, hh⟩ := hP
  have hx := Bd.exec
  have hby := Bd.bytes
  have hml : c.maxLocals = 7 := hml0
  have hown : s.vm.findClass "java/lang/StringUTF16" = some m.cls := findClass_of_methodNamed Bd.named
  have hnm := (name_of_methodNamed Bd.named Bd.method).1
  have X0 : Stand p l e ({ frames := 0, cells := 0, slots := 0, locals := 0 } : Room) s m #[(.ref va), (.int 0), (.ref da), (.int 0), (.int 1)] below meth c s₁ [] 0 0 := Stand.of_body Bd
  have e0 : s₁.heap = h0 := by rw [← hh, Bd.state]; rfl
  have N0 := Fr.nil n0
  refine Go.enter (F := EndN s (Q_rmC5_1 Z va da kv kd c0 h0 n0) ({ frames := 0, cells := 0, slots := 0, locals := 0 } : Room).cells ({ frames := 0, cells := 0, slots := 0, locals := 0 } : Room).slots) (ef_38 m va (0 : Int32) da (0 : Int32) (1 : Int32)) ?_
  show Go _ _ _ _ s₁ (mkF m 0 #[rv va, iv 0, rv da, iv 0, iv 1, un, un] [])
  refine Go.iconst 1 X0 hx (0 : Int32) (hb hby d9_0) (by decide) rfl ?_
  refine Go.istore2 3 X0 hx (L' := #[rv va, iv 0, rv da, iv 0, iv 1, iv 0, un]) (hb hby d9_1) rfl rfl ?_
  refine Go.iload2 5 X0 hx (hb hby d9_3) rfl rfl ?_
  refine Go.iload2 7 X0 hx (hb hby d9_5) rfl rfl ?_
  refine Go.icmpN 10 X0 hx (hb hby d9_7) (XT.ii_ge_f (by decide)) rfl ?_
  refine Go.aload1 11 X0 hx (hb hby d9_10) rfl rfl rfl ?_
  refine Go.iload1 12 X0 hx (hb hby d9_11) rfl rfl ?_
  obtain ⟨cl1, Ar1, -, S1, M1, H1, -⟩ := id V_va
  have hin1 : ¬ ((0 : Int32) < 0 ∨ cl1.slots.size ≤ (0 : Int32).toNatClampNeg) := inb_of S1 ⟨by decide, by decide⟩
  refine Go.by (fun _ gk => X0.caload hx (j := (0 : Int32)) (v := (.int c0)) (by rw [e0]; exact Ar1.1) (State.isArrayOf_alike hZ.alike Ar1.2.1) Ar1.2.2 hin1 (Has.at H1 hin1 rfl) (g := (mkF m 12 #[rv va, iv 0, rv da, iv 0, iv 1, iv 0, un] [(.int 0), (.ref va)])) rfl rfl (hb hby d9_12) _ gk) ?_
  show Go _ _ _ _ s₁ (mkF m 13 #[rv va, iv 0, rv da, iv 0, iv 1, iv 0, un] [(.int c0)])
  refine Go.istore2 15 X0 hx (L' := #[rv va, iv 0, rv da, iv 0, iv 1, iv 0, iv c0]) (hb hby d9_13) rfl rfl ?_
  refine Go.iload2 17 X0 hx (hb hby d9_15) rfl rfl ?_
  refine Go.sipush 20 X0 hx (255 : Int32) (hb hby d9_17) (by decide) rfl ?_
  refine Go.icmpY 26 X0 hx (hb hby d9_20) (XT.ii_le_t hc0) (by decide) (by decide) ?_
  refine Go.aload1 27 X0 hx (hb hby d9_26) rfl rfl rfl ?_
  refine Go.iload1 28 X0 hx (hb hby d9_27) rfl rfl ?_
  refine Go.iload2 30 X0 hx (hb hby d9_28) rfl rfl ?_
  refine Go.i2b 31 X0 hx (hb hby d9_30) rfl ?_
  obtain ⟨cl2, Ar2, q2, S2, M2, H2, G2⟩ := id V_da
  have hin2 : ¬ ((0 : Int32) < 0 ∨ cl2.slots.size ≤ (0 : Int32).toNatClampNeg) := inb_of S2 ⟨by decide, by decide⟩
  obtain ⟨T2, h2, X2, e2, W2, st2⟩ := stB X0 hx hZ e0 Ar2 (j := (0 : Int32)) hin2 (g := (mkF m 31 #[rv va, iv 0, rv da, iv 0, iv 1, iv 0, iv c0] [(.int (c0.toInt8.toInt32)), (.int 0), (.ref da)])) rfl rfl (hb hby d9_31)
  have N2 := Fr.snoc X2 N0 g_da
  have V2 : Arv Z h2 da kd .byte (1 : Int32) [(.int (nar .byte (c0.toInt8.toInt32)))] (.int 0) := Arv.set Ar2 q2 S2 M2 H2 G2 (fits_nar_byte _) W2 0 rfl (Nat.le_of_ble_eq_true rfl)
  refine Go.by st2 ?_
  show Go _ _ _ _ T2 (mkF m 32 #[rv va, iv 0, rv da, iv 0, iv 1, iv 0, iv c0] [])
  rw [own_bn] at V2
  refine Go.iinc 35 X2 hx (1 : Int32) (L' := #[rv va, iv 1, rv da, iv 0, iv 1, iv 0, iv c0]) (hb hby d9_32) (by decide) rfl rfl rfl ?_
  refine Go.iinc 38 X2 hx (1 : Int32) (L' := #[rv va, iv 1, rv da, iv 1, iv 1, iv 0, iv c0]) (hb hby d9_35) (by decide) rfl rfl rfl ?_
  refine Go.iinc 41 X2 hx (1 : Int32) (L' := #[rv va, iv 1, rv da, iv 1, iv 1, iv 1, iv c0]) (hb hby d9_38) (by decide) rfl rfl rfl ?_
  refine Go.goto 3 X2 hx (hb hby d9_41) (by decide) (by decide) ?_
  refine Go.iload2 5 X2 hx (hb hby d9_3) rfl rfl ?_
  refine Go.iload2 7 X2 hx (hb hby d9_5) rfl rfl ?_
  refine Go.icmpY 44 X2 hx (hb hby d9_7) (XT.ii_ge_t (by decide)) (by decide) (by decide) ?_
  refine Go.iload2 46 X2 hx (hb hby d9_44) rfl rfl ?_
  have F3 : Keep h0 h2 [da] := (Keep.refl h0 [da]).wr W2 (Or.inl (List.mem_of_getElem? (i := 0) rfl))
  exact Go.retI X2 hx Bd.notSynchronized Bd.returns rfl (by simp) (hb hby d9_46) (by rw [e2]; exact ⟨rfl, N2, F3, V2⟩) (by decide) (by decide)
theorem ef_62 (m : MethodId) (x0 : Addr) (x1 : Int32) (x2 : Int32) : entryFrame m #[(.ref x0), (.int x1), (.int x2)] 6 = mkF m 0 #[rv x0, iv x1, iv x2, un, un, un] [] := by (first | (simp [entryFrame, mkF, argsToLocals, Value.category]; done) | rfl)
theorem d8_0 : decode jdk_52_method_16_code 0 = .ok (.iload_n 2, 1) := by decide +kernel
theorem d8_1 : decode jdk_52_method_16_code 1 = .ok (.newarray .byte, 2) := by decide +kernel
theorem d8_3 : decode jdk_52_method_16_code 3 = .ok (.astore_n 3, 1) := by decide +kernel
theorem d8_4 : decode jdk_52_method_16_code 4 = .ok (.aload_n 0, 1) := by decide +kernel
theorem d8_5 : decode jdk_52_method_16_code 5 = .ok (.iload_n 1, 1) := by decide +kernel
theorem d8_6 : decode jdk_52_method_16_code 6 = .ok (.aload_n 3, 1) := by decide +kernel
theorem d8_7 : decode jdk_52_method_16_code 7 = .ok (.iconst 0, 1) := by decide +kernel
theorem d8_8 : decode jdk_52_method_16_code 8 = .ok (.iload_n 2, 1) := by decide +kernel
theorem pd_71 : parseMethodDescriptor "([CI[BII)I" = some ⟨[(.array .char), .int, (.array .byte), .int, .int], some .int⟩ := by decide +kernel
theorem d8_9 : decode jdk_52_method_16_code 9 = .ok (.invokestatic 115, 3) := by decide +kernel
theorem d8_12 : decode jdk_52_method_16_code 12 = .ok (.istore 4, 2) := by decide +kernel
theorem d8_14 : decode jdk_52_method_16_code 14 = .ok (.iload 4, 2) := by decide +kernel
theorem d8_16 : decode jdk_52_method_16_code 16 = .ok (.iload_n 2, 1) := by decide +kernel
theorem d8_17 : decode jdk_52_method_16_code 17 = .ok (.if_icmp .eq 40, 3) := by decide +kernel
theorem d8_57 : decode jdk_52_method_16_code 57 = .ok (.aload_n 3, 1) := by decide +kernel
theorem d8_58 : decode jdk_52_method_16_code 58 = .ok (.areturn, 1) := by decide +kernel
def Q_rmC3_1 (Z : State) (va : Addr) (kv : ClassId) (c0 : Int32) (h0 : Heap) (n0 : Nat) (v : Option Value) (h : Heap) (L : List Loc) : Prop := ∃ da : Addr, ∃ kd : ClassId, v = some (.ref da) ∧ Fr n0 L ∧ Keep h0 h [] ∧ Arv Z h da kd .byte (1 : Int32) ([(.int (own_b c0))]) (.int 0) ∧ h0.size ≤ da
set_option maxRecDepth 65536 in
set_option maxHeartbeats 40000000 in
theorem rmC3_1 (l : Launch) (Z : State) (a0 : Array Value) (hw : ∀ d ∈ tables_1, d.before a0 Z = true) (ws : List Jvm.Cond) (va : Addr) (kv : ClassId) (c0 : Int32) (h0 : Heap) (n0 : Nat) (Z0 : n0 ≤ h0.size) (V_va : Arv Z h0 va kv .char (1 : Int32) ([(.int c0)]) (.int 0)) (hc0 : (¬ (255 : Int32) < c0)) :
    MetFree l (⟨"java/lang/StringUTF16", "compress", "([CII)[B"⟩ : MethodName) (head1 (Jvm.Cond.code (⟨"java/lang/StringUTF16", "compress", "([CII)[B"⟩ : MethodName) jdk_52_method_16_code 6 (some (.array .byte)) :: ws) ({ frames := 1, cells := 1, slots := 1, locals := 18 } : Room)) (fun as' U => as' = #[(.ref va), (.int 0), (.int 1)] ∧ Z.Warmed39 U.vm ∧ U.heap = h0) (fun _ _ _ _ _ => True) (fun _ U o U' => ∃ v L, o = .returned v ∧ Q_rmC3_1 Z va kv c0 h0 n0 v U'.heap L ∧ FrameEnd U o U' L ({ frames := 1, cells := 1, slots := 1, locals := 18 } : Room).cells ({ frames := 1, cells := 1, slots := 1, locals := 18 } : Room).slots) := by
  refine MetFree.of_bodySF (plainFor_of_name pn_37) hisR ?_
  intro p e s m args below meth c s₁ Bd hml0 hP hK
  obtain ⟨rfl, hZ, hh⟩ := hP
  have hx := Bd.exec
  have hby := Bd.bytes
  have hml : c.maxLocals = 6 := hml0
  have hown : s.vm.findClass "java/lang/StringUTF16" = some m.cls := findClass_of_methodNamed Bd.named
  have hnm := (name_of_methodNamed Bd.named Bd.method).1
  have X0 : Stand p l e ({ frames := 1, cells := 1, slots := 1, locals := 18 } : Room) s m #[(.ref va), (.int 0), (.int 1)] below meth c s₁ [] 0 0 := Stand.of_body Bd
  have e0 : s₁.heap = h0 := by rw [← hh, Bd.state]; rfl
  have N0 := Fr.nil n0
  refine Go.enter (F := EndN s (Q_rmC3_1 Z va kv c0 h0 n0) ({ frames := 1, cells := 1, slots := 1, locals := 18 } : Room).cells ({ frames := 1, cells := 1, slots := 1, locals := 18 } : Room).slots) (ef_62 m va (0 : Int32) (1 : Int32)) ?_
  show Go _ _ _ _ s₁ (mkF m 0 #[rv va, iv 0, iv 1, un, un, un] [])
  refine Go.iload1 1 X0 hx (hb hby d8_0) rfl rfl ?_
  obtain ⟨da, g1⟩ : ∃ z, z = h0.size := ⟨_, rfl⟩
  have ge_da : n0 ≤ da := Nat.le_trans Z0 (Nat.le_of_eq g1.symm)
  have sz_da : h0.size ≤ da := Nat.le_trans (Keep.refl h0 []).1 (Nat.le_of_eq g1.symm)
  have ne_va_da : va ≠ da := Nat.ne_of_lt (Nat.lt_of_lt_of_le V_va.lt (Nat.le_of_eq g1.symm))
  obtain ⟨T1, h1, k1, X1, e1, E1, A1, Ea1, st1⟩ := newPE X0 hx hZ (ow hw 19 rfl) e0 (g := (mkF m 1 #[rv va, iv 0, iv 1, un, un, un] [(.int 1)])) rfl (hb hby d8_1) rfl (by decide) (cap := 1) (by decide) (by decide) (by decide) (by decide) (ad := "[B") rfl
  rw [← g1] at A1 Ea1 st1
  have V_da : Arv Z h1 da k1 .byte (1 : Int32) [(.int 0)] (.int 0) := (Arv.new A1 (by decide)).pad (pad_rep [] (.int 0) 1)
  refine Go.by st1 ?_
  show Go _ _ _ _ T1 (mkF m 3 #[rv va, iv 0, iv 1, un, un, un] [(.ref da)])
  refine Go.astore1 4 X1 hx (L' := #[rv va, iv 0, iv 1, rv da, un, un]) (hb hby d8_3) rfl rfl rfl ?_
  refine Go.aload1 5 X1 hx (hb hby d8_4) rfl rfl rfl ?_
  refine Go.iload1 6 X1 hx (hb hby d8_5) rfl rfl ?_
  refine Go.aload1 7 X1 hx (hb hby d8_6) rfl rfl rfl ?_
  refine Go.iconst 8 X1 hx (0 : Int32) (hb hby d8_7) (by decide) rfl ?_
  refine Go.iload1 9 X1 hx (hb hby d8_8) rfl rfl ?_
  have F2 : Arv Z h1 va kv .char (1 : Int32) [(.int c0)] (.int 0) := V_va.ext E1
  have F3 : n0 ≤ h1.size := Nat.le_trans Z0 E1.1
  obtain ⟨_, _, ⟨T4, L4, k4, n4⟩, -, X4, ⟨Lc4, hQ4, l4, y4, z4⟩, st4⟩ := Jvm.LawKit.callS X1 hx (y := (⟨"java/lang/StringUTF16", "compress", "([CI[BII)I"⟩ : MethodName)) hown (mvT hZ (ow hw 49 rfl)) (mvT hZ (ow hw 50 rfl)) (mvT hZ (ow hw 47 rfl)) (mvT hZ (ow hw 51 rfl)) (by decide) (backOf (W := 0) (rmC5_1 l Z a0 hw [] va da kv k1 c0 h1 n0 F3 F2 V_da ge_da ne_va_da hc0) hZ (ow hw 51 rfl) (ow hw 47 rfl) (by decide) (by decide)) (g := (mkF m 9 #[rv va, iv 0, iv 1, rv da, un, un] [(.int 1), (.int 0), (.ref da), (.int 0), (.ref va)])) rfl (by rw [hml]; rfl) (argsL := [(.ref va), (.int 0), (.ref da), (.int 0), (.int 1)]) (rest := []) (lenOf pd_71 rfl) rfl (by show 2 * 0 + _ ≤ _; exact Nat.le_of_eq rfl) (hb hby d8_9) (fun _ _ => ⟨rfl, e1, (by decide : 1 + 0 ≤ _), (by decide : 1 + 0 ≤ _)⟩)
  dsimp only [Pt.U, Pt.locs, Pt.cells, Pt.slots] at X4 l4 y4 z4 st4 hQ4
  subst l4 y4 z4
  obtain ⟨rfl, N4q, K4, Q4_0⟩ := hQ4
  have N4 := Fr.app N0 N4q
  refine Go.by st4 ?_
  show Go _ _ _ _ T4 (mkF m 12 #[rv va, iv 0, iv 1, rv da, un, un] [(.int 1)])
  refine Go.istore2 14 X4 hx (L' := #[rv va, iv 0, iv 1, rv da, iv 1, un]) (hb hby d8_12) rfl rfl ?_
  refine Go.iload2 16 X4 hx (hb hby d8_14) rfl rfl ?_
  refine Go.iload1 17 X4 hx (hb hby d8_16) rfl rfl ?_
  refine Go.icmpY 57 X4 hx (hb hby d8_17) (XT.ii_eq_t rfl) (by decide) (by decide) ?_
  refine Go.aload1 58 X4 hx (hb hby d8_57) rfl rfl rfl ?_
  have F5 : Keep h0 h1 [] := (Keep.refl h0 []).ext E1
  have F6 : Keep h0 T4.heap [] := F5.trans K4 (allS (Or.inr sz_da) all0)
  exact Go.retA X4 hx Bd.notSynchronized Bd.returns rfl rfl (hb hby d8_58) ⟨da, k1, rfl, N4, F6, Q4_0, sz_da⟩ (by decide) (by decide)
theorem d10_0 : decode jdk_52_method_15_code 0 = .ok (.iload_n 1, 1) := by decide +kernel
theorem d10_1 : decode jdk_52_method_15_code 1 = .ok (.aload_n 0, 1) := by decide +kernel
theorem d10_2 : decode jdk_52_method_15_code 2 = .ok (.arraylength, 1) := by decide +kernel
theorem d10_3 : decode jdk_52_method_15_code 3 = .ok (.isub, 1) := by decide +kernel
theorem d10_4 : decode jdk_52_method_15_code 4 = .ok (.bipush 31, 2) := by decide +kernel
theorem d10_6 : decode jdk_52_method_15_code 6 = .ok (.iushr, 1) := by decide +kernel
theorem d10_7 : decode jdk_52_method_15_code 7 = .ok (.i2b, 1) := by decide +kernel
theorem d10_8 : decode jdk_52_method_15_code 8 = .ok (.ireturn, 1) := by decide +kernel
def Q_rmCoder_1 (Z : State) (da : Addr) (kd : ClassId) (vs : List Value) (h0 : Heap) (n0 : Nat) (v : Option Value) (h : Heap) (L : List Loc) : Prop := v = some (.int 0) ∧ Fr n0 L ∧ h = h0
set_option maxRecDepth 65536 in
set_option maxHeartbeats 40000000 in
theorem rmCoder_1 (l : Launch) (Z : State) (a0 : Array Value) (hw : ∀ d ∈ tables_1, d.before a0 Z = true) (ws : List Jvm.Cond) (da : Addr) (kd : ClassId) (vs : List Value) (h0 : Heap) (n0 : Nat) (Z0 : n0 ≤ h0.size) (V_da : Arv Z h0 da kd .byte (1 : Int32) vs (.int 0)) :
    MetFree l (⟨"java/lang/StringUTF16", "coderFromArrayLen", "([BI)B"⟩ : MethodName) (head1 (Jvm.Cond.code (⟨"java/lang/StringUTF16", "coderFromArrayLen", "([BI)B"⟩ : MethodName) jdk_52_method_15_code 2 (some .byte) :: ws) ({ frames := 0, cells := 0, slots := 0, locals := 0 } : Room)) (fun as' U => as' = #[(.ref da), (.int 1)] ∧ Z.Warmed39 U.vm ∧ U.heap = h0) (fun _ _ _ _ _ => True) (fun _ U o U' => ∃ v L, o = .returned v ∧ Q_rmCoder_1 Z da kd vs h0 n0 v U'.heap L ∧ FrameEnd U o U' L ({ frames := 0, cells := 0, slots := 0, locals := 0 } : Room).cells ({ frames := 0, cells := 0, slots := 0, locals := 0 } : Room).slots) := by
  refine MetFree.of_bodySF (plainFor_of_name pn_37) hisR ?_
  intro p e s m args below meth c s₁ Bd hml0 hP hK
  obtain ⟨rfl, hZ, hh⟩ := hP
  have hx := Bd.exec
  have hby := Bd.bytes
  have hml : c.maxLocals = 2 := hml0
  have hown : s.vm.findClass "java/lang/StringUTF16" = some m.cls := findClass_of_methodNamed Bd.named
  have hnm := (name_of_methodNamed Bd.named Bd.method).1
  have X0 : Stand p l e ({ frames := 0, cells := 0, slots := 0, locals := 0 } : Room) s m #[(.ref da), (.int 1)] below meth c s₁ [] 0 0 := Stand.of_body Bd
  have e0 : s₁.heap = h0 := by rw [← hh, Bd.state]; rfl
  have N0 := Fr.nil n0
  refine Go.enter (F := EndN s (Q_rmCoder_1 Z da kd vs h0 n0) ({ frames := 0, cells := 0, slots := 0, locals := 0 } : Room).cells ({ frames := 0, cells := 0, slots := 0, locals := 0 } : Room).slots) (ef_27 m da (1 : Int32)) ?_
  show Go _ _ _ _ s₁ (mkF m 0 #[rv da, iv 1] [])
  refine Go.iload1 1 X0 hx (hb hby d10_0) rfl rfl ?_
  refine Go.aload1 2 X0 hx (hb hby d10_1) rfl rfl rfl ?_
  obtain ⟨cl1, Ar1, -, S1, M1, -, -⟩ := id V_da
  refine Go.by (fun _ gk => X0.arraylength hx (by rw [e0]; exact Ar1.1) (State.isArrayOf_alike hZ.alike Ar1.2.1) (g := (mkF m 2 #[rv da, iv 1] [(.ref da), (.int 1)])) rfl rfl (hb hby d10_2) _ gk) ?_
  rw [len_of S1 M1]
  show Go _ _ _ _ s₁ (mkF m 3 #[rv da, iv 1] [(.int 1), (.int 1)])
  refine Go.isub 4 X0 hx (hb hby d10_3) rfl ?_
  rw [(by decide : ((1 : Int32) - (1 : Int32)) = (0 : Int32))]
  refine Go.bipush 6 X0 hx (31 : Int32) (hb hby d10_4) (by decide) rfl ?_
  refine Go.iushr 7 X0 hx (hb hby d10_6) rfl ?_
  rw [(by decide : (XT.ushr (0 : Int32) (31 : Int32)) = (0 : Int32))]
  refine Go.i2b 8 X0 hx (hb hby d10_7) rfl ?_
  rw [(by decide : ((0 : Int32).toInt8.toInt32) = (0 : Int32))]
  exact Go.retI X0 hx Bd.notSynchronized Bd.returns rfl (by simp) (hb hby d10_8) (by rw [e0]; exact ⟨rfl, N0, rfl⟩) (by decide) (by decide)
theorem d3_27 : decode jdk_42_method_149_code 27 = .ok (.getstatic 38, 3) := by decide +kernel
theorem d3_30 : decode jdk_42_method_149_code 30 = .ok (.ifCond .eq 28, 3) := by decide +kernel
theorem d3_33 : decode jdk_42_method_149_code 33 = .ok (.aload_n 1, 1) := by decide +kernel
theorem d3_34 : decode jdk_42_method_149_code 34 = .ok (.iload_n 2, 1) := by decide +kernel
theorem d3_35 : decode jdk_42_method_149_code 35 = .ok (.iload_n 3, 1) := by decide +kernel
theorem pd_92 : parseMethodDescriptor "([CII)[B" = some ⟨[(.array .char), .int, .int], some (.array .byte)⟩ := by decide +kernel
theorem d3_36 : decode jdk_42_method_149_code 36 = .ok (.invokestatic 177, 3) := by decide +kernel
theorem d3_39 : decode jdk_42_method_149_code 39 = .ok (.astore 5, 2) := by decide +kernel
theorem d3_41 : decode jdk_42_method_149_code 41 = .ok (.aload_n 0, 1) := by decide +kernel
theorem d3_42 : decode jdk_42_method_149_code 42 = .ok (.aload 5, 2) := by decide +kernel
theorem d3_44 : decode jdk_42_method_149_code 44 = .ok (.iload_n 3, 1) := by decide +kernel
theorem pd_98 : parseMethodDescriptor "([BI)B" = some ⟨[(.array .byte), .int], some .byte⟩ := by decide +kernel
theorem d3_45 : decode jdk_42_method_149_code 45 = .ok (.invokestatic 47, 3) := by decide +kernel
theorem d3_48 : decode jdk_42_method_149_code 48 = .ok (.putfield 15, 3) := by decide +kernel
theorem d3_51 : decode jdk_42_method_149_code 51 = .ok (.aload_n 0, 1) := by decide +kernel
theorem d3_52 : decode jdk_42_method_149_code 52 = .ok (.aload 5, 2) := by decide +kernel
theorem d3_54 : decode jdk_42_method_149_code 54 = .ok (.putfield 9, 3) := by decide +kernel
theorem d3_57 : decode jdk_42_method_149_code 57 = .ok (.return_, 1) := by decide +kernel
def Q_rmS4_1 (Z : State) (a : Addr) (va : Addr) (kv : ClassId) (c0 : Int32) (cs : Int32) (h0 : Heap) (n0 : Nat) (v : Option Value) (h : Heap) (L : List Loc) : Prop := ∃ b : Addr, ∃ kb : ClassId, v = none ∧ Fr n0 L ∧ Keep h0 h [a] ∧ Exa Z h a "java/lang/String" ∧ Fld Z h a "java/lang/String" "coder" "B" (.int 0) ∧ Fld Z h a "java/lang/String" "value" "[B" (.ref b) ∧ Arv Z h b kb .byte (1 : Int32) ([(.int (own_b c0))]) (.int 0) ∧ h0.size ≤ b
set_option maxRecDepth 65536 in
set_option maxHeartbeats 40000000 in
theorem rmS4_1 (l : Launch) (Z : State) (a0 : Array Value) (hw : ∀ d ∈ tables_1, d.before a0 Z = true) (ws : List Jvm.Cond) (a : Addr) (va : Addr) (kv : ClassId) (c0 : Int32) (cs : Int32) (h0 : Heap) (n0 : Nat) (Z0 : n0 ≤ h0.size) (O0 : Old Z n0 h0) (E_a : Exa Z h0 a "java/lang/String") (F_a_value : Fld Z h0 a "java/lang/String" "value" "[B" .null) (F_a_coder : Fld Z h0 a "java/lang/String" "coder" "B" (.int 0)) (g_a : n0 ≤ a) (V_va : Arv Z h0 va kv .char (1 : Int32) ([(.int c0)]) (.int 0)) (hc0 : (¬ (255 : Int32) < c0)) (S_cs : Sta Z Z.heap "java/lang/String" "COMPACT_STRINGS" "Z" (.int cs)) (n_cs : ¬ cs = 0) :
    MetFree l (⟨"java/lang/String", "<init>", "([CIILjava/lang/Void;)V"⟩ : MethodName) (head1 (Jvm.Cond.code (⟨"java/lang/String", "<init>", "([CIILjava/lang/Void;)V"⟩ : MethodName) jdk_42_method_149_code 6 none :: ws) ({ frames := 2, cells := 1, slots := 1, locals := 35 } : Room)) (fun as' U => as' = #[(.ref a), (.ref va), (.int 0), (.int 1), .null] ∧ Z.Warmed39 U.vm ∧ U.heap = h0) (fun _ _ _ _ _ => True) (fun _ U o U' => ∃ v L, o = .returned v ∧ Q_rmS4_1 Z a va kv c0 cs h0 n0 v U'.heap L ∧ FrameEnd U o U' L ({ frames := 2, cells := 1, slots := 1, locals := 35 } : Room).cells ({ frames := 2, cells := 1, slots := 1, locals := 35 } : Room).slots) := by
  refine MetFree.of_bodySF (plainFor_of_name pn_1) hisR ?_
  intro p e s m args below meth c s₁ Bd hml0 hP hK
  obtain ⟨rfl, hZ, hh⟩ := hP
  have hx := Bd.exec
  have hby := Bd.bytes
  have hml : c.maxLocals = 6 := hml0
  have hown : s.vm.findClass "java/lang/String" = some m.cls := findClass_of_methodNamed Bd.named
  have hnm := (name_of_methodNamed Bd.named Bd.method).1
  have X0 : Stand p l e ({ frames := 2, cells := 1, slots := 1, locals := 35 } : Room) s m #[(.ref a), (.ref va), (.int 0), (.int 1), .null] below meth c s₁ [] 0 0 := Stand.of_body Bd
  have e0 : s₁.heap = h0 := by rw [← hh, Bd.state]; rfl
  have N0 := Fr.nil n0
  refine Go.enter (F := EndN s (Q_rmS4_1 Z a va kv c0 cs h0 n0) ({ frames := 2, cells := 1, slots := 1, locals := 35 } : Room).cells ({ frames := 2, cells := 1, slots := 1, locals := 35 } : Room).slots) (ef_2 m a va (0 : Int32) (1 : Int32)) ?_
  show Go _ _ _ _ s₁ (mkF m 0 #[rv a, rv va, iv 0, iv 1, .val .null, un] [])
  refine Go.aload1 1 X0 hx (hb hby d3_0) rfl rfl rfl ?_
  obtain ⟨T1, X1, e1, st1⟩ := initO X0 hx hZ hown (ow hw 15 rfl) (ow hw 16 rfl) (ow hw 17 rfl) e0 (g := (mkF m 1 #[rv a, rv va, iv 0, iv 1, .val .null, un] [(.ref a)])) rfl (by rw [hml]; rfl) rfl (hb hby d3_1) (by decide) (W := 0) (by show 2 * 0 + _ ≤ _; exact Nat.le_of_eq rfl) (by decide)
  refine Go.by st1 ?_
  show Go _ _ _ _ T1 (mkF m 4 #[rv a, rv va, iv 0, iv 1, .val .null, un] [])
  refine Go.iload1 5 X1 hx (hb hby d3_4) rfl rfl ?_
  refine Go.ifY 27 X1 hx (hb hby d3_5) (XT.i0_ne_t (by decide)) (by decide) (by decide) ?_
  have F2 : Sta Z h0 "java/lang/String" "COMPACT_STRINGS" "Z" (.int cs) := S_cs.ext O0.2
  obtain ⟨T3, X3, e3, st3⟩ := getS2 X1 hx hZ hown (host := "") (Or.inl (ow hw 37 rfl)) Via.refl e1 F2 (g := (mkF m 27 #[rv a, rv va, iv 0, iv 1, .val .null, un] [])) rfl (hb hby d3_27)
  refine Go.by st3 ?_
  show Go _ _ _ _ T3 (mkF m 30 #[rv a, rv va, iv 0, iv 1, .val .null, un] [(.int cs)])
  refine Go.ifN 33 X3 hx (hb hby d3_30) (XT.i0_eq_f n_cs) rfl ?_
  refine Go.aload1 34 X3 hx (hb hby d3_33) rfl rfl rfl ?_
  refine Go.iload1 35 X3 hx (hb hby d3_34) rfl rfl ?_
  refine Go.iload1 36 X3 hx (hb hby d3_35) rfl rfl ?_
  obtain ⟨_, _, ⟨T4, L4, k4, n4⟩, -, X4, ⟨Lc4, hQ4, l4, y4, z4⟩, st4⟩ := Jvm.LawKit.callS X3 hx (y := (⟨"java/lang/StringUTF16", "compress", "([CII)[B"⟩ : MethodName)) hown (mvT hZ (ow hw 45 rfl)) (mvT hZ (ow hw 46 rfl)) (mvT hZ (ow hw 47 rfl)) (mvT hZ (ow hw 48 rfl)) (by decide) (backOf (W := 0) (rmC3_1 l Z a0 hw [] va kv c0 h0 n0 Z0 V_va hc0) hZ (ow hw 48 rfl) (ow hw 47 rfl) (by decide) (by decide)) (g := (mkF m 36 #[rv a, rv va, iv 0, iv 1, .val .null, un] [(.int 1), (.int 0), (.ref va)])) rfl (by rw [hml]; rfl) (argsL := [(.ref va), (.int 0), (.int 1)]) (rest := []) (lenOf pd_92 rfl) rfl (by show 2 * 0 + _ ≤ _; exact Nat.le_of_eq rfl) (hb hby d3_36) (fun _ _ => ⟨rfl, e3, (by decide : 0 + 1 ≤ _), (by decide : 0 + 1 ≤ _)⟩)
  dsimp only [Pt.U, Pt.locs, Pt.cells, Pt.slots] at X4 l4 y4 z4 st4 hQ4
  subst l4 y4 z4
  obtain ⟨b, kb, rfl, N4q, K4, Q4_0, Q4_1⟩ := hQ4
  have N4 := Fr.app N0 N4q
  refine Go.by st4 ?_
  show Go _ _ _ _ T4 (mkF m 39 #[rv a, rv va, iv 0, iv 1, .val .null, un] [(.ref b)])
  have ge_b : n0 ≤ b := Nat.le_trans Z0 Q4_1
  have sz_b : h0.size ≤ b := Nat.le_trans (Keep.refl h0 [a]).1 Q4_1
  have ne_a_b : a ≠ b := Nat.ne_of_lt (Nat.lt_of_lt_of_le E_a.lt Q4_1)
  have ne_va_b : va ≠ b := Nat.ne_of_lt (Nat.lt_of_lt_of_le V_va.lt Q4_1)
  refine Go.astore2 41 X4 hx (L' := #[rv a, rv va, iv 0, iv 1, .val .null, rv b]) (hb hby d3_39) rfl rfl rfl ?_
  refine Go.aload1 42 X4 hx (hb hby d3_41) rfl rfl rfl ?_
  refine Go.aload2 44 X4 hx (hb hby d3_42) rfl rfl rfl ?_
  refine Go.iload1 45 X4 hx (hb hby d3_44) rfl rfl ?_
  have F5 : n0 ≤ T4.heap.size := Nat.le_trans Z0 K4.1
  obtain ⟨_, _, ⟨T6, L6, k6, n6⟩, -, X6, ⟨Lc6, hQ6, l6, y6, z6⟩, st6⟩ := Jvm.LawKit.callS X4 hx (y := (⟨"java/lang/StringUTF16", "coderFromArrayLen", "([BI)B"⟩ : MethodName)) hown (mvT hZ (ow hw 52 rfl)) (mvT hZ (ow hw 53 rfl)) (mvT hZ (ow hw 47 rfl)) (mvT hZ (ow hw 54 rfl)) (by decide) (backOf (W := 1) (rmCoder_1 l Z a0 hw [] b kb ([(.int (own_b c0))]) T4.heap n0 F5 Q4_0) hZ (ow hw 54 rfl) (ow hw 47 rfl) (by decide) (by decide)) (g := (mkF m 45 #[rv a, rv va, iv 0, iv 1, .val .null, rv b] [(.int 1), (.ref b), (.ref a)])) rfl (by rw [hml]; rfl) (argsL := [(.ref b), (.int 1)]) (rest := [(.ref a)]) (lenOf pd_98 rfl) rfl (by show 2 * 0 + _ ≤ _; exact Nat.le_of_eq rfl) (hb hby d3_45) (fun _ _ => ⟨rfl, rfl, (by decide : 1 + 0 ≤ _), (by decide : 1 + 0 ≤ _)⟩)
  dsimp only [Pt.U, Pt.locs, Pt.cells, Pt.slots] at X6 l6 y6 z6 st6 hQ6
  subst l6 y6 z6
  obtain ⟨rfl, N6q, e6⟩ := hQ6
  have N6 := Fr.app N4 N6q
  refine Go.by st6 ?_
  show Go _ _ _ _ T6 (mkF m 48 #[rv a, rv va, iv 0, iv 1, .val .null, rv b] [(.int 0), (.ref a)])
  have F7 : Fld Z T4.heap a "java/lang/String" "coder" "B" (.int 0) := F_a_coder.keep K4 nin0
  have F8 : Exa Z T4.heap a "java/lang/String" := E_a.keep K4
  obtain ⟨T9, h9, X9, e9, W9, st9⟩ := putFN X6 hx hZ hown (ow hw 25 rfl) Via.refl e6 F7 F8 (Or.inr ⟨(ow hw 21 rfl), rfl, hnm⟩) (ow hw 6 rfl) (ty := .byte) (v' := (.int 0)) (by decide) rfl rfl (g := (mkF m 48 #[rv a, rv va, iv 0, iv 1, .val .null, rv b] [(.int 0), (.ref a)])) rfl rfl (hb hby d3_48)
  have N9 := Fr.snoc X9 N6 g_a
  have Fw9 : Fld Z h9 a "java/lang/String" "coder" "B" (.int 0) := F7.same W9
  refine Go.by st9 ?_
  show Go _ _ _ _ T9 (mkF m 51 #[rv a, rv va, iv 0, iv 1, .val .null, rv b] [])
  refine Go.aload1 52 X9 hx (hb hby d3_51) rfl rfl rfl ?_
  refine Go.aload2 54 X9 hx (hb hby d3_52) rfl rfl rfl ?_
  have F10 : Fld Z T4.heap a "java/lang/String" "value" "[B" .null := F_a_value.keep K4 nin0
  have F11 : Fld Z h9 a "java/lang/String" "value" "[B" .null := F10.other W9 (Or.inr (slot_ne (Or.inr (ow hw 20 rfl)) (Or.inr (ow hw 21 rfl)) (by decide) (t := (.array .byte)) (t' := .byte) (by decide) (by decide)))
  have F12 : Exa Z h9 a "java/lang/String" := F8.wr W9
  obtain ⟨T13, h13, X13, e13, W13, st13⟩ := putF X9 hx hZ hown (host := "") (Or.inl (ow hw 24 rfl)) Via.refl e9 F11 F12 (Or.inr ⟨(ow hw 20 rfl), rfl, hnm⟩) (ow hw 6 rfl) (ty := (.array .byte)) (by decide) rfl rfl (g := (mkF m 54 #[rv a, rv va, iv 0, iv 1, .val .null, rv b] [(.ref b), (.ref a)])) rfl rfl (hb hby d3_54)
  have N13 := Fr.snoc X13 N9 g_a
  have Fw13 : Fld Z h13 a "java/lang/String" "value" "[B" (.ref b) := F11.same W13
  refine Go.by st13 ?_
  show Go _ _ _ _ T13 (mkF m 57 #[rv a, rv va, iv 0, iv 1, .val .null, rv b] [])
  have F14 : Keep h0 T4.heap [a] := (Keep.refl h0 [a]).trans K4 all0
  have F15 : Keep h0 h9 [a] := F14.wr W9 (Or.inl (List.mem_of_getElem? (i := 0) rfl))
  have F16 : Keep h0 h13 [a] := F15.wr W13 (Or.inl (List.mem_of_getElem? (i := 0) rfl))
  have F17 : Exa Z h13 a "java/lang/String" := F12.wr W13
  have F18 : Fld Z h13 a "java/lang/String" "coder" "B" (.int 0) := Fw9.other W13 (Or.inr (slot_ne (Or.inr (ow hw 21 rfl)) (Or.inr (ow hw 20 rfl)) (by decide) (t := .byte) (t' := (.array .byte)) (by decide) (by decide)))
  have F19 : Arv Z h9 b kb .byte (1 : Int32) [(.int (own_b c0))] (.int 0) := Q4_0.other W9 (Ne.symm ne_a_b)
  have F20 : Arv Z h13 b kb .byte (1 : Int32) [(.int (own_b c0))] (.int 0) := F19.other W13 (Ne.symm ne_a_b)
  exact Go.retV X13 hx Bd.notSynchronized Bd.returns (hb hby d3_57) (by rw [e13]; exact ⟨b, kb, rfl, N13, F16, F17, F18, Fw13, F20, sz_b⟩) (by decide) (by decide)
def Q_rmS1_1 (Z : State) (a : Addr) (va : Addr) (kv : ClassId) (c0 : Int32) (cs : Int32) (h0 : Heap) (n0 : Nat) (v : Option Value) (h : Heap) (L : List Loc) : Prop := ∃ b : Addr, ∃ kb : ClassId, v = none ∧ Fr n0 L ∧ Keep h0 h [a] ∧ Exa Z h a "java/lang/String" ∧ Fld Z h a "java/lang/String" "coder" "B" (.int 0) ∧ Fld Z h a "java/lang/String" "value" "[B" (.ref b) ∧ Arv Z h b kb .byte (1 : Int32) ([(.int (own_b c0))]) (.int 0) ∧ h0.size ≤ b
set_option maxRecDepth 65536 in
set_option maxHeartbeats 40000000 in
theorem rmS1_1 (l : Launch) (Z : State) (a0 : Array Value) (hw : ∀ d ∈ tables_1, d.before a0 Z = true) (ws : List Jvm.Cond) (a : Addr) (va : Addr) (kv : ClassId) (c0 : Int32) (cs : Int32) (h0 : Heap) (n0 : Nat) (Z0 : n0 ≤ h0.size) (O0 : Old Z n0 h0) (E_a : Exa Z h0 a "java/lang/String") (F_a_value : Fld Z h0 a "java/lang/String" "value" "[B" .null) (F_a_coder : Fld Z h0 a "java/lang/String" "coder" "B" (.int 0)) (g_a : n0 ≤ a) (V_va : Arv Z h0 va kv .char (1 : Int32) ([(.int c0)]) (.int 0)) (hc0 : (¬ (255 : Int32) < c0)) (S_cs : Sta Z Z.heap "java/lang/String" "COMPACT_STRINGS" "Z" (.int cs)) (n_cs : ¬ cs = 0) :
    MetFree l (⟨"java/lang/String", "<init>", "([C)V"⟩ : MethodName) (head1 (Jvm.Cond.code (⟨"java/lang/String", "<init>", "([C)V"⟩ : MethodName) jdk_42_method_3_code 2 none :: ws) ({ frames := 3, cells := 1, slots := 1, locals := 52 } : Room)) (fun as' U => as' = #[(.ref a), (.ref va)] ∧ Z.Warmed39 U.vm ∧ U.heap = h0) (fun _ _ _ _ _ => True) (fun _ U o U' => ∃ v L, o = .returned v ∧ Q_rmS1_1 Z a va kv c0 cs h0 n0 v U'.heap L ∧ FrameEnd U o U' L ({ frames := 3, cells := 1, slots := 1, locals := 52 } : Room).cells ({ frames := 3, cells := 1, slots := 1, locals := 52 } : Room).slots) := by
  refine MetFree.of_bodySF (plainFor_of_name pn_1) hisR ?_
  intro p e s m args below meth c s₁ Bd hml0 hP hK
  obtain ⟨rfl, hZ, hh⟩ := hP
  have hx := Bd.exec
  have hby := Bd.bytes
  have hml : c.maxLocals = 2 := hml0
  have hown : s.vm.findClass "java/lang/String" = some m.cls := findClass_of_methodNamed Bd.named
  have hnm := (name_of_methodNamed Bd.named Bd.method).1
  have X0 : Stand p l e ({ frames := 3, cells := 1, slots := 1, locals := 52 } : Room) s m #[(.ref a), (.ref va)] below meth c s₁ [] 0 0 := Stand.of_body Bd
  have e0 : s₁.heap = h0 := by rw [← hh, Bd.state]; rfl
  have N0 := Fr.nil n0
  refine Go.enter (F := EndN s (Q_rmS1_1 Z a va kv c0 cs h0 n0) ({ frames := 3, cells := 1, slots := 1, locals := 52 } : Room).cells ({ frames := 3, cells := 1, slots := 1, locals := 52 } : Room).slots) (ef_16 m a va) ?_
  show Go _ _ _ _ s₁ (mkF m 0 #[rv a, rv va] [])
  refine Go.aload1 1 X0 hx (hb hby d2_0) rfl rfl rfl ?_
  refine Go.aload1 2 X0 hx (hb hby d2_1) rfl rfl rfl ?_
  refine Go.iconst 3 X0 hx (0 : Int32) (hb hby d2_2) (by decide) rfl ?_
  refine Go.aload1 4 X0 hx (hb hby d2_3) rfl rfl rfl ?_
  obtain ⟨cl1, Ar1, -, S1, M1, -, -⟩ := id V_va
  refine Go.by (fun _ gk => X0.arraylength hx (by rw [e0]; exact Ar1.1) (State.isArrayOf_alike hZ.alike Ar1.2.1) (g := (mkF m 4 #[rv a, rv va] [(.ref va), (.int 0), (.ref va), (.ref a)])) rfl rfl (hb hby d2_4) _ gk) ?_
  rw [len_of S1 M1]
  show Go _ _ _ _ s₁ (mkF m 5 #[rv a, rv va] [(.int 1), (.int 0), (.ref va), (.ref a)])
  refine Go.aconst_null 6 X0 hx (hb hby d2_5) rfl ?_
  obtain ⟨_, _, ⟨T2, L2, k2, n2⟩, -, X2, ⟨Lc2, hQ2, l2, y2, z2⟩, st2⟩ := X0.specialBack hx (y := (⟨"java/lang/String", "<init>", "([CIILjava/lang/Void;)V"⟩ : MethodName)) rfl hown (mvT hZ (ow hw 11 rfl)) (mvT hZ (ow hw 12 rfl)) (mvT hZ (ow hw 14 rfl)) (by decide) (backOf (W := 0) (rmS4_1 l Z a0 hw [] a va kv c0 cs h0 n0 Z0 O0 E_a F_a_value F_a_coder g_a V_va hc0 S_cs n_cs) hZ (ow hw 14 rfl) (ow hw 7 rfl) (by decide) (by decide)) (g := (mkF m 6 #[rv a, rv va] [.null, (.int 1), (.int 0), (.ref va), (.ref a)])) rfl (by rw [hml]; rfl) (Steps.refl _) (a := a) (argsL := [(.ref va), (.int 0), (.int 1), .null]) (rest := []) (lenOf pd_23 rfl) rfl (by show 2 * 0 + _ ≤ _; exact Nat.le_of_eq rfl) (hb hby d2_6) (fun _ _ => ⟨rfl, e0, (by decide : 0 + 1 ≤ _), (by decide : 0 + 1 ≤ _)⟩)
  dsimp only [Pt.U, Pt.locs, Pt.cells, Pt.slots] at X2 l2 y2 z2 st2 hQ2
  subst l2 y2 z2
  obtain ⟨b, kb, rfl, N2q, K2, Q2_0, Q2_1, Q2_2, Q2_3, Q2_4⟩ := hQ2
  have N2 := Fr.app N0 N2q
  refine Go.to st2 ?_
  show Go _ _ _ _ T2 (mkF m 9 #[rv a, rv va] [])
  have ge_b : n0 ≤ b := Nat.le_trans Z0 Q2_4
  have sz_b : h0.size ≤ b := Nat.le_trans (Keep.refl h0 [a]).1 Q2_4
  have ne_a_b : a ≠ b := Nat.ne_of_lt (Nat.lt_of_lt_of_le E_a.lt Q2_4)
  have ne_va_b : va ≠ b := Nat.ne_of_lt (Nat.lt_of_lt_of_le V_va.lt Q2_4)
  have F3 : Keep h0 T2.heap [a] := (Keep.refl h0 [a]).trans K2 (allS (Or.inl (List.mem_of_getElem? (i := 0) rfl)) all0)
  exact Go.retV X2 hx Bd.notSynchronized Bd.returns (hb hby d2_9) ⟨b, kb, rfl, N2, F3, Q2_0, Q2_1, Q2_2, Q2_3, sz_b⟩ (by decide) (by decide)
theorem d1_15 : decode method_3_code 15 = .ok (.iload_n 1, 1) := by decide +kernel
theorem d1_16 : decode method_3_code 16 = .ok (.iconst 1, 1) := by decide +kernel
theorem d1_17 : decode method_3_code 17 = .ok (.if_icmp .ne 20, 3) := by decide +kernel
theorem d1_20 : decode method_3_code 20 = .ok (.new 25, 3) := by decide +kernel
theorem d1_23 : decode method_3_code 23 = .ok (.dup, 1) := by decide +kernel
theorem d1_24 : decode method_3_code 24 = .ok (.iconst 1, 1) := by decide +kernel
theorem d1_25 : decode method_3_code 25 = .ok (.newarray .char, 2) := by decide +kernel
theorem d1_27 : decode method_3_code 27 = .ok (.dup, 1) := by decide +kernel
theorem d1_28 : decode method_3_code 28 = .ok (.iconst 0, 1) := by decide +kernel
theorem d1_29 : decode method_3_code 29 = .ok (.aload_n 0, 1) := by decide +kernel
theorem d1_30 : decode method_3_code 30 = .ok (.iconst 0, 1) := by decide +kernel
theorem d1_31 : decode method_3_code 31 = .ok (.caload, 1) := by decide +kernel
theorem d1_32 : decode method_3_code 32 = .ok (.castore, 1) := by decide +kernel
theorem d1_33 : decode method_3_code 33 = .ok (.invokespecial 27, 3) := by decide +kernel
theorem d1_36 : decode method_3_code 36 = .ok (.areturn, 1) := by decide +kernel
def Q_rmStr1 (Z : State) (ta : Addr) (kt : ClassId) (t0 : Int32) (t1 : Int32) (t2 : Int32) (t3 : Int32) (t4 : Int32) (t5 : Int32) (cs : Int32) (h0 : Heap) (n0 : Nat) (v : Option Value) (h : Heap) (L : List Loc) : Prop := ∃ st : Addr, ∃ sb : Addr, ∃ kb : ClassId, v = some (.ref st) ∧ Fr n0 L ∧ Keep h0 h [] ∧ Exa Z h st "java/lang/String" ∧ Fld Z h st "java/lang/String" "coder" "B" (.int 0) ∧ Fld Z h st "java/lang/String" "value" "[B" (.ref sb) ∧ Arv Z h sb kb .byte (1 : Int32) ([(.int (own_b t0))]) (.int 0) ∧ h0.size ≤ st
set_option maxRecDepth 65536 in
set_option maxHeartbeats 40000000 in
theorem rmStr1 (l : Launch) (Z : State) (a0 : Array Value) (hw : ∀ d ∈ tables_1, d.before a0 Z = true) (ws : List Jvm.Cond) (ta : Addr) (kt : ClassId) (t0 : Int32) (t1 : Int32) (t2 : Int32) (t3 : Int32) (t4 : Int32) (t5 : Int32) (cs : Int32) (h0 : Heap) (n0 : Nat) (Z0 : n0 ≤ h0.size) (O0 : Old Z n0 h0) (V_ta : Arv Z h0 ta kt .char (6 : Int32) ([(.int t0), (.int t1), (.int t2), (.int t3), (.int t4), (.int t5)]) (.int 0)) (hb0 : (¬ t0 < 0 ∧ ¬ (255 : Int32) < t0)) (S_cs : Sta Z Z.heap "java/lang/String" "COMPACT_STRINGS" "Z" (.int cs)) (n_cs : ¬ cs = 0) :
    MetFree l (⟨"com/example/entries_to_nodes/entriestonodes/xml/XsBooleanReadPinLaw", "str", "([CI)Ljava/lang/String;"⟩ : MethodName) (head1 (Jvm.Cond.code (⟨"com/example/entries_to_nodes/entriestonodes/xml/XsBooleanReadPinLaw", "str", "([CI)Ljava/lang/String;"⟩ : MethodName) method_3_code 2 (some (.object "java/lang/String")) :: ws) ({ frames := 4, cells := 3, slots := 6, locals := 66 } : Room)) (fun as' U => as' = #[(.ref ta), (.int 1)] ∧ Z.Warmed39 U.vm ∧ U.heap = h0) (fun _ _ _ _ _ => True) (fun _ U o U' => ∃ v L, o = .returned v ∧ Q_rmStr1 Z ta kt t0 t1 t2 t3 t4 t5 cs h0 n0 v U'.heap L ∧ FrameEnd U o U' L ({ frames := 4, cells := 3, slots := 6, locals := 66 } : Room).cells ({ frames := 4, cells := 3, slots := 6, locals := 66 } : Room).slots) := by
  refine MetFree.of_bodySF (plainFor_of_name pn_26) hisR ?_
  intro p e s m args below meth c s₁ Bd hml0 hP hK
  obtain ⟨rfl, hZ, hh⟩ := hP
  have hx := Bd.exec
  have hby := Bd.bytes
  have hml : c.maxLocals = 2 := hml0
  have hown : s.vm.findClass "com/example/entries_to_nodes/entriestonodes/xml/XsBooleanReadPinLaw" = some m.cls := findClass_of_methodNamed Bd.named
  have hnm := (name_of_methodNamed Bd.named Bd.method).1
  have X0 : Stand p l e ({ frames := 4, cells := 3, slots := 6, locals := 66 } : Room) s m #[(.ref ta), (.int 1)] below meth c s₁ [] 0 0 := Stand.of_body Bd
  have e0 : s₁.heap = h0 := by rw [← hh, Bd.state]; rfl
  have N0 := Fr.nil n0
  refine Go.enter (F := EndN s (Q_rmStr1 Z ta kt t0 t1 t2 t3 t4 t5 cs h0 n0) ({ frames := 4, cells := 3, slots := 6, locals := 66 } : Room).cells ({ frames := 4, cells := 3, slots := 6, locals := 66 } : Room).slots) (ef_27 m ta (1 : Int32)) ?_
  show Go _ _ _ _ s₁ (mkF m 0 #[rv ta, iv 1] [])
  refine Go.iload1 1 X0 hx (hb hby d1_0) rfl rfl ?_
  refine Go.ifY 15 X0 hx (hb hby d1_1) (XT.i0_ne_t (by decide)) (by decide) (by decide) ?_
  refine Go.iload1 16 X0 hx (hb hby d1_15) rfl rfl ?_
  refine Go.iconst 17 X0 hx (1 : Int32) (hb hby d1_16) (by decide) rfl ?_
  refine Go.icmpN 20 X0 hx (hb hby d1_17) (XT.ii_ne_f rfl) rfl ?_
  obtain ⟨st, g1⟩ : ∃ z, z = h0.size := ⟨_, rfl⟩
  have ge_st : n0 ≤ st := Nat.le_trans Z0 (Nat.le_of_eq g1.symm)
  have sz_st : h0.size ≤ st := Nat.le_trans (Keep.refl h0 []).1 (Nat.le_of_eq g1.symm)
  have ne_ta_st : ta ≠ st := Nat.ne_of_lt (Nat.lt_of_lt_of_le V_ta.lt (Nat.le_of_eq g1.symm))
  obtain ⟨T1, h1, X1, e1, E1, A1, D1, -, st1⟩ := newO X0 hx hZ hown (ow hw 5 rfl) (ow hw 6 rfl) (ow hw 7 rfl) e0 (g := (mkF m 20 #[rv ta, iv 1] [])) rfl (hb hby d1_20) (by decide) (by decide)
  rw [← g1] at A1 D1 st1
  have F_value_st : Fld Z h1 st "java/lang/String" "value" "[B" .null := D1 (Or.inr (ow hw 20 rfl)) (ty := (.array .byte)) (by decide)
  have F_coder_st : Fld Z h1 st "java/lang/String" "coder" "B" (.int 0) := D1 (Or.inr (ow hw 21 rfl)) (ty := .byte) (by decide)
  refine Go.by st1 ?_
  show Go _ _ _ _ T1 (mkF m 23 #[rv ta, iv 1] [(.ref st)])
  refine Go.dup 24 X1 hx (hb hby d1_23) rfl rfl ?_
  refine Go.iconst 25 X1 hx (1 : Int32) (hb hby d1_24) (by decide) rfl ?_
  obtain ⟨ca, g2⟩ : ∃ z, z = h1.size := ⟨_, rfl⟩
  have F3 : n0 ≤ h1.size := Nat.le_trans Z0 E1.1
  have ge_ca : n0 ≤ ca := Nat.le_trans F3 (Nat.le_of_eq g2.symm)
  have F4 : Keep h0 h1 [] := (Keep.refl h0 []).ext E1
  have sz_ca : h0.size ≤ ca := Nat.le_trans F4.1 (Nat.le_of_eq g2.symm)
  have ne_st_ca : st ≠ ca := Nat.ne_of_lt (Nat.lt_of_lt_of_le A1.lt (Nat.le_of_eq g2.symm))
  have F5 : Arv Z h1 ta kt .char (6 : Int32) [(.int t0), (.int t1), (.int t2), (.int t3), (.int t4), (.int t5)] (.int 0) := V_ta.ext E1
  have ne_ta_ca : ta ≠ ca := Nat.ne_of_lt (Nat.lt_of_lt_of_le F5.lt (Nat.le_of_eq g2.symm))
  obtain ⟨T2, h2, k2, X2, e2, E2, A2, Ea2, st2⟩ := newPE X1 hx hZ (ow hw 0 rfl) e1 (g := (mkF m 25 #[rv ta, iv 1] [(.int 1), (.ref st), (.ref st)])) rfl (hb hby d1_25) rfl (by decide) (cap := 1) (by decide) (by decide) (by decide) (by decide) (ad := "[C") rfl
  rw [← g2] at A2 Ea2 st2
  have V_ca : Arv Z h2 ca k2 .char (1 : Int32) [(.int 0)] (.int 0) := (Arv.new A2 (by decide)).pad (pad_rep [] (.int 0) 1)
  refine Go.by st2 ?_
  show Go _ _ _ _ T2 (mkF m 27 #[rv ta, iv 1] [(.ref ca), (.ref st), (.ref st)])
  refine Go.dup 28 X2 hx (hb hby d1_27) rfl rfl ?_
  refine Go.iconst 29 X2 hx (0 : Int32) (hb hby d1_28) (by decide) rfl ?_
  refine Go.aload1 30 X2 hx (hb hby d1_29) rfl rfl rfl ?_
  refine Go.iconst 31 X2 hx (0 : Int32) (hb hby d1_30) (by decide) rfl ?_
  have F6 : Arv Z h2 ta kt .char (6 : Int32) [(.int t0), (.int t1), (.int t2), (.int t3), (.int t4), (.int t5)] (.int 0) := F5.ext E2
  obtain ⟨cl7, Ar7, -, S7, M7, H7, -⟩ := id F6
  have hin7 : ¬ ((0 : Int32) < 0 ∨ cl7.slots.size ≤ (0 : Int32).toNatClampNeg) := inb_of S7 ⟨by decide, by decide⟩
  refine Go.by (fun _ gk => X2.caload hx (j := (0 : Int32)) (v := (.int t0)) (by rw [e2]; exact Ar7.1) (State.isArrayOf_alike hZ.alike Ar7.2.1) Ar7.2.2 hin7 (Has.at H7 hin7 rfl) (g := (mkF m 31 #[rv ta, iv 1] [(.int 0), (.ref ta), (.int 0), (.ref ca), (.ref ca), (.ref st), (.ref st)])) rfl rfl (hb hby d1_31) _ gk) ?_
  show Go _ _ _ _ T2 (mkF m 32 #[rv ta, iv 1] [(.int t0), (.int 0), (.ref ca), (.ref ca), (.ref st), (.ref st)])
  obtain ⟨cl8, Ar8, q8, S8, M8, H8, G8⟩ := id V_ca
  have hin8 : ¬ ((0 : Int32) < 0 ∨ cl8.slots.size ≤ (0 : Int32).toNatClampNeg) := inb_of S8 ⟨by decide, by decide⟩
  obtain ⟨T8, h8, X8, e8, W8, st8⟩ := stC X2 hx hZ e2 Ar8 (j := (0 : Int32)) hin8 (g := (mkF m 32 #[rv ta, iv 1] [(.int t0), (.int 0), (.ref ca), (.ref ca), (.ref st), (.ref st)])) rfl rfl (hb hby d1_32)
  have N8 := Fr.snoc X8 N0 ge_ca
  have V8 : Arv Z h8 ca k2 .char (1 : Int32) [(.int (nar .char t0))] (.int 0) := Arv.set Ar8 q8 S8 M8 H8 G8 (fits_nar_char _) W8 0 rfl (Nat.le_of_ble_eq_true rfl)
  refine Go.by st8 ?_
  show Go _ _ _ _ T8 (mkF m 33 #[rv ta, iv 1] [(.ref ca), (.ref st), (.ref st)])
  rw [own_ncb (t := t0) hb0.1 hb0.2] at V8
  have F9 : Old Z n0 h1 := O0.ext E1
  have F10 : Old Z n0 h2 := F9.ext E2
  have F11 : Old Z n0 h8 := F10.wr W8 ge_ca
  have F12 : Exa Z h2 st "java/lang/String" := A1.ext E2
  have F13 : Exa Z h8 st "java/lang/String" := F12.wr W8
  have F14 : Fld Z h2 st "java/lang/String" "value" "[B" .null := F_value_st.ext E2
  have F15 : Fld Z h8 st "java/lang/String" "value" "[B" .null := F14.other W8 (Or.inl ne_st_ca)
  have F16 : Fld Z h2 st "java/lang/String" "coder" "B" (.int 0) := F_coder_st.ext E2
  have F17 : Fld Z h8 st "java/lang/String" "coder" "B" (.int 0) := F16.other W8 (Or.inl ne_st_ca)
  have F18 : n0 ≤ h2.size := Nat.le_trans F3 E2.1
  have F19 : n0 ≤ h8.size := Nat.le_trans F18 (Nat.le_of_eq (Wr.size W8).symm)
  have F20 : Keep h0 h2 [] := F4.ext E2
  have F21 : Keep h0 h8 [] := F20.wr W8 (Or.inr sz_ca)
  have F22 : Exa Z h8 ca "[C" := Ea2.wr W8
  have F23 : Arv Z h8 ta kt .char (6 : Int32) [(.int t0), (.int t1), (.int t2), (.int t3), (.int t4), (.int t5)] (.int 0) := F6.other W8 ne_ta_ca
  obtain ⟨_, _, ⟨T24, L24, k24, n24⟩, -, X24, ⟨Lc24, hQ24, l24, y24, z24⟩, st24⟩ := X8.specialBack hx (y := (⟨"java/lang/String", "<init>", "([C)V"⟩ : MethodName)) rfl hown (mvT hZ (ow hw 8 rfl)) (mvT hZ (ow hw 9 rfl)) (mvT hZ (ow hw 10 rfl)) (by decide) (backOf (W := 1) (rmS1_1 l Z a0 hw [] st ca k2 t0 cs h8 n0 F19 F11 F13 F15 F17 ge_st V8 hb0.2 S_cs n_cs) hZ (ow hw 10 rfl) (ow hw 7 rfl) (by decide) (by decide)) (g := (mkF m 33 #[rv ta, iv 1] [(.ref ca), (.ref st), (.ref st)])) rfl (by rw [hml]; rfl) (Steps.refl _) (a := st) (argsL := [(.ref ca)]) (rest := [(.ref st)]) (lenOf pd_34 rfl) rfl (by show 2 * 0 + _ ≤ _; exact Nat.le_of_eq rfl) (hb hby d1_33) (fun _ _ => ⟨rfl, e8, (by decide : 2 + 1 ≤ _), (by decide : 5 + 1 ≤ _)⟩)
  dsimp only [Pt.U, Pt.locs, Pt.cells, Pt.slots] at X24 l24 y24 z24 st24 hQ24
  subst l24 y24 z24
  obtain ⟨sb, kb, rfl, N24q, K24, Q24_0, Q24_1, Q24_2, Q24_3, Q24_4⟩ := hQ24
  have N24 := Fr.app N8 N24q
  refine Go.to st24 ?_
  show Go _ _ _ _ T24 (mkF m 36 #[rv ta, iv 1] [(.ref st)])
  have ge_sb : n0 ≤ sb := Nat.le_trans F19 Q24_4
  have sz_sb : h0.size ≤ sb := Nat.le_trans F21.1 Q24_4
  have ne_ca_sb : ca ≠ sb := Nat.ne_of_lt (Nat.lt_of_lt_of_le V8.lt Q24_4)
  have ne_st_sb : st ≠ sb := Nat.ne_of_lt (Nat.lt_of_lt_of_le F13.lt Q24_4)
  have ne_ta_sb : ta ≠ sb := Nat.ne_of_lt (Nat.lt_of_lt_of_le F23.lt Q24_4)
  have F25 : Keep h0 T24.heap [] := F21.trans K24 (allS (Or.inr sz_st) all0)
  exact Go.retA X24 hx Bd.notSynchronized Bd.returns rfl rfl (hb hby d1_36) ⟨st, sb, kb, rfl, N24, F25, Q24_0, Q24_1, Q24_2, Q24_3, sz_st⟩ (by decide) (by decide)
def Q_rmC5_2 (Z : State) (va : Addr) (da : Addr) (kv : ClassId) (kd : ClassId) (c0 : Int32) (c1 : Int32) (h0 : Heap) (n0 : Nat) (v : Option Value) (h : Heap) (L : List Loc) : Prop := v = some (.int 2) ∧ Fr n0 L ∧ Keep h0 h [da] ∧ Arv Z h da kd .byte (2 : Int32) ([(.int (own_b c0)), (.int (own_b c1))]) (.int 0)
set_option maxRecDepth 65536 in
set_option maxHeartbeats 40000000 in
theorem rmC5_2 (l : Launch) (Z : State) (a0 : Array Value) (hw : ∀ d ∈ tables_1, d.before a0 Z = true) (ws : List Jvm.Cond) (va : Addr) (da : Addr) (kv : ClassId) (kd : ClassId) (c0 : Int32) (c1 : Int32) (h0 : Heap) (n0 : Nat) (Z0 : n0 ≤ h0.size) (V_va : Arv Z h0 va kv .char (2 : Int32) ([(.int c0), (.int c1)]) (.int 0)) (V_da : Arv Z h0 da kd .byte (2 : Int32) ([(.int 0), (.int 0)]) (.int 0)) (g_da : n0 ≤ da) (ne_va_da : va ≠ da) (hc0 : (¬ (255 : Int32) < c0)) (hc1 : (¬ (255 : Int32) < c1)) :
    MetFree l (⟨"java/lang/StringUTF16", "compress", "([CI[BII)I"⟩ : MethodName) (head1 (Jvm.Cond.code (⟨"java/lang/StringUTF16", "compress", "([CI[BII)I"⟩ : MethodName) jdk_52_method_21_code 7 (some .int) :: ws) ({ frames := 0, cells := 0, slots := 0, locals := 0 } : Room)) (fun as' U => as' = #[(.ref va), (.int 0), (.ref da), (.int 0), (.int 2)] ∧ Z.Warmed39 U.vm ∧ U.heap = h0) (fun _ _ _ _ _ => True) (fun _ U o U' => ∃ v L, o = .returned v ∧ Q_rmC5_2 Z va da kv kd c0 c1 h0 n0 v U'.heap L ∧ FrameEnd U o U' L ({ frames := 0, cells := 0, slots := 0, locals := 0 } : Room).cells ({ frames := 0, cells := 0, slots := 0, locals := 0 } : Room).slots) := by
  refine MetFree.of_bodySF (plainFor_of_name pn_37) hisR ?_
  intro p e s m args below meth c s₁ Bd hml0 hP hK
  obtain ⟨rfl, hZ, hh⟩ := hP
  have hx := Bd.exec
  have hby := Bd.bytes
  have hml : c.maxLocals = 7 := hml0
  have hown : s.vm.findClass "java/lang/StringUTF16" = some m.cls := findClass_of_methodNamed Bd.named
  have hnm := (name_of_methodNamed Bd.named Bd.method).1
  have X0 : Stand p l e ({ frames := 0, cells := 0, slots := 0, locals := 0 } : Room) s m #[(.ref va), (.int 0), (.ref da), (.int 0), (.int 2)] below meth c s₁ [] 0 0 := Stand.of_body Bd
  have e0 : s₁.heap = h0 := by rw [← hh, Bd.state]; rfl
  have N0 := Fr.nil n0
  refine Go.enter (F := EndN s (Q_rmC5_2 Z va da kv kd c0 c1 h0 n0) ({ frames := 0, cells := 0, slots := 0, locals := 0 } : Room).cells ({ frames := 0, cells := 0, slots := 0, locals := 0 } : Room).slots) (ef_38 m va (0 : Int32) da (0 : Int32) (2 : Int32)) ?_
  show Go _ _ _ _ s₁ (mkF m 0 #[rv va, iv 0, rv da, iv 0, iv 2, un, un] [])
  refine Go.iconst 1 X0 hx (0 : Int32) (hb hby d9_0) (by decide) rfl ?_
  refine Go.istore2 3 X0 hx (L' := #[rv va, iv 0, rv da, iv 0, iv 2, iv 0, un]) (hb hby d9_1) rfl rfl ?_
  refine Go.iload2 5 X0 hx (hb hby d9_3) rfl rfl ?_
  refine Go.iload2 7 X0 hx (hb hby d9_5) rfl rfl ?_
  refine Go.icmpN 10 X0 hx (hb hby d9_7) (XT.ii_ge_f (by decide)) rfl ?_
  refine Go.aload1 11 X0 hx (hb hby d9_10) rfl rfl rfl ?_
  refine Go.iload1 12 X0 hx (hb hby d9_11) rfl rfl ?_
  obtain ⟨cl1, Ar1, -, S1, M1, H1, -⟩ := id V_va
  have hin1 : ¬ ((0 : Int32) < 0 ∨ cl1.slots.size ≤ (0 : Int32).toNatClampNeg) := inb_of S1 ⟨by decide, by decide⟩
  refine Go.by (fun _ gk => X0.caload hx (j := (0 : Int32)) (v := (.int c0)) (by rw [e0]; exact Ar1.1) (State.isArrayOf_alike hZ.alike Ar1.2.1) Ar1.2.2 hin1 (Has.at H1 hin1 rfl) (g := (mkF m 12 #[rv va, iv 0, rv da, iv 0, iv 2, iv 0, un] [(.int 0), (.ref va)])) rfl rfl (hb hby d9_12) _ gk) ?_
  show Go _ _ _ _ s₁ (mkF m 13 #[rv va, iv 0, rv da, iv 0, iv 2, iv 0, un] [(.int c0)])
  refine Go.istore2 15 X0 hx (L' := #[rv va, iv 0, rv da, iv 0, iv 2, iv 0, iv c0]) (hb hby d9_13) rfl rfl ?_
  refine Go.iload2 17 X0 hx (hb hby d9_15) rfl rfl ?_
  refine Go.sipush 20 X0 hx (255 : Int32) (hb hby d9_17) (by decide) rfl ?_
  refine Go.icmpY 26 X0 hx (hb hby d9_20) (XT.ii_le_t hc0) (by decide) (by decide) ?_
  refine Go.aload1 27 X0 hx (hb hby d9_26) rfl rfl rfl ?_
  refine Go.iload1 28 X0 hx (hb hby d9_27) rfl rfl ?_
  refine Go.iload2 30 X0 hx (hb hby d9_28) rfl rfl ?_
  refine Go.i2b 31 X0 hx (hb hby d9_30) rfl ?_
  obtain ⟨cl2, Ar2, q2, S2, M2, H2, G2⟩ := id V_da
  have hin2 : ¬ ((0 : Int32) < 0 ∨ cl2.slots.size ≤ (0 : Int32).toNatClampNeg) := inb_of S2 ⟨by decide, by decide⟩
  obtain ⟨T2, h2, X2, e2, W2, st2⟩ := stB X0 hx hZ e0 Ar2 (j := (0 : Int32)) hin2 (g := (mkF m 31 #[rv va, iv 0, rv da, iv 0, iv 2, iv 0, iv c0] [(.int (c0.toInt8.toInt32)), (.int 0), (.ref da)])) rfl rfl (hb hby d9_31)
  have N2 := Fr.snoc X2 N0 g_da
  have V2 : Arv Z h2 da kd .byte (2 : Int32) [(.int (nar .byte (c0.toInt8.toInt32))), (.int 0)] (.int 0) := Arv.set Ar2 q2 S2 M2 H2 G2 (fits_nar_byte _) W2 0 rfl (Nat.le_of_ble_eq_true rfl)
  refine Go.by st2 ?_
  show Go _ _ _ _ T2 (mkF m 32 #[rv va, iv 0, rv da, iv 0, iv 2, iv 0, iv c0] [])
  rw [own_bn] at V2
  refine Go.iinc 35 X2 hx (1 : Int32) (L' := #[rv va, iv 1, rv da, iv 0, iv 2, iv 0, iv c0]) (hb hby d9_32) (by decide) rfl rfl rfl ?_
  refine Go.iinc 38 X2 hx (1 : Int32) (L' := #[rv va, iv 1, rv da, iv 1, iv 2, iv 0, iv c0]) (hb hby d9_35) (by decide) rfl rfl rfl ?_
  refine Go.iinc 41 X2 hx (1 : Int32) (L' := #[rv va, iv 1, rv da, iv 1, iv 2, iv 1, iv c0]) (hb hby d9_38) (by decide) rfl rfl rfl ?_
  refine Go.goto 3 X2 hx (hb hby d9_41) (by decide) (by decide) ?_
  refine Go.iload2 5 X2 hx (hb hby d9_3) rfl rfl ?_
  refine Go.iload2 7 X2 hx (hb hby d9_5) rfl rfl ?_
  refine Go.icmpN 10 X2 hx (hb hby d9_7) (XT.ii_ge_f (by decide)) rfl ?_
  refine Go.aload1 11 X2 hx (hb hby d9_10) rfl rfl rfl ?_
  refine Go.iload1 12 X2 hx (hb hby d9_11) rfl rfl ?_
  have F3 : Arv Z h2 va kv .char (2 : Int32) [(.int c0), (.int c1)] (.int 0) := V_va.other W2 ne_va_da
  obtain ⟨cl4, Ar4, -, S4, M4, H4, -⟩ := id F3
  have hin4 : ¬ ((1 : Int32) < 0 ∨ cl4.slots.size ≤ (1 : Int32).toNatClampNeg) := inb_of S4 ⟨by decide, by decide⟩
  refine Go.by (fun _ gk => X2.caload hx (j := (1 : Int32)) (v := (.int c1)) (by rw [e2]; exact Ar4.1) (State.isArrayOf_alike hZ.alike Ar4.2.1) Ar4.2.2 hin4 (Has.at H4 hin4 rfl) (g := (mkF m 12 #[rv va, iv 1, rv da, iv 1, iv 2, iv 1, iv c0] [(.int 1), (.ref va)])) rfl rfl (hb hby d9_12) _ gk) ?_
  show Go _ _ _ _ T2 (mkF m 13 #[rv va, iv 1, rv da, iv 1, iv 2, iv 1, iv c0] [(.int c1)])
  refine Go.istore2 15 X2 hx (L' := #[rv va, iv 1, rv da, iv 1, iv 2, iv 1, iv c1]) (hb hby d9_13) rfl rfl ?_
  refine Go.iload2 17 X2 hx (hb hby d9_15) rfl rfl ?_
  refine Go.sipush 20 X2 hx (255 : Int32) (hb hby d9_17) (by decide) rfl ?_
  refine Go.icmpY 26 X2 hx (hb hby d9_20) (XT.ii_le_t hc1) (by decide) (by decide) ?_
  refine Go.aload1 27 X2 hx (hb hby d9_26) rfl rfl rfl ?_
  refine Go.iload1 28 X2 hx (hb hby d9_27) rfl rfl ?_
  refine Go.iload2 30 X2 hx (hb hby d9_28) rfl rfl ?_
  refine Go.i2b 31 X2 hx (hb hby d9_30) rfl ?_
  obtain ⟨cl5, Ar5, q5, S5, M5, H5, G5⟩ := id V2
  have hin5 : ¬ ((1 : Int32) < 0 ∨ cl5.slots.size ≤ (1 : Int32).toNatClampNeg) := inb_of S5 ⟨by decide, by decide⟩
  obtain ⟨T5, h5, X5, e5, W5, st5⟩ := stB X2 hx hZ e2 Ar5 (j := (1 : Int32)) hin5 (g := (mkF m 31 #[rv va, iv 1, rv da, iv 1, iv 2, iv 1, iv c1] [(.int (c1.toInt8.toInt32)), (.int 1), (.ref da)])) rfl rfl (hb hby d9_31)
  have N5 := Fr.snoc X5 N2 g_da
  have V5 : Arv Z h5 da kd .byte (2 : Int32) [(.int (own_b c0)), (.int (nar .byte (c1.toInt8.toInt32)))] (.int 0) := Arv.set Ar5 q5 S5 M5 H5 G5 (fits_nar_byte _) W5 1 rfl (Nat.le_of_ble_eq_true rfl)
  refine Go.by st5 ?_
  show Go _ _ _ _ T5 (mkF m 32 #[rv va, iv 1, rv da, iv 1, iv 2, iv 1, iv c1] [])
  rw [own_bn] at V5
  refine Go.iinc 35 X5 hx (1 : Int32) (L' := #[rv va, iv 2, rv da, iv 1, iv 2, iv 1, iv c1]) (hb hby d9_32) (by decide) rfl rfl rfl ?_
  refine Go.iinc 38 X5 hx (1 : Int32) (L' := #[rv va, iv 2, rv da, iv 2, iv 2, iv 1, iv c1]) (hb hby d9_35) (by decide) rfl rfl rfl ?_
  refine Go.iinc 41 X5 hx (1 : Int32) (L' := #[rv va, iv 2, rv da, iv 2, iv 2, iv 2, iv c1]) (hb hby d9_38) (by decide) rfl rfl rfl ?_
  refine Go.goto 3 X5 hx (hb hby d9_41) (by decide) (by decide) ?_
  refine Go.iload2 5 X5 hx (hb hby d9_3) rfl rfl ?_
  refine Go.iload2 7 X5 hx (hb hby d9_5) rfl rfl ?_
  refine Go.icmpY 44 X5 hx (hb hby d9_7) (XT.ii_ge_t (by decide)) (by decide) (by decide) ?_
  refine Go.iload2 46 X5 hx (hb hby d9_44) rfl rfl ?_
  have F6 : Keep h0 h2 [da] := (Keep.refl h0 [da]).wr W2 (Or.inl (List.mem_of_getElem? (i := 0) rfl))
  have F7 : Keep h0 h5 [da] := F6.wr W5 (Or.inl (List.mem_of_getElem? (i := 0) rfl))
  exact Go.retI X5 hx Bd.notSynchronized Bd.returns rfl (by simp) (hb hby d9_46) (by rw [e5]; exact ⟨rfl, N5, F7, V5⟩) (by decide) (by decide)
def Q_rmC3_2 (Z : State) (va : Addr) (kv : ClassId) (c0 : Int32) (c1 : Int32) (h0 : Heap) (n0 : Nat) (v : Option Value) (h : Heap) (L : List Loc) : Prop := ∃ da : Addr, ∃ kd : ClassId, v = some (.ref da) ∧ Fr n0 L ∧ Keep h0 h [] ∧ Arv Z h da kd .byte (2 : Int32) ([(.int (own_b c0)), (.int (own_b c1))]) (.int 0) ∧ h0.size ≤ da
set_option maxRecDepth 65536 in
set_option maxHeartbeats 40000000 in
theorem rmC3_2 (l : Launch) (Z : State) (a0 : Array Value) (hw : ∀ d ∈ tables_1, d.before a0 Z = true) (ws : List Jvm.Cond) (va : Addr) (kv : ClassId) (c0 : Int32) (c1 : Int32) (h0 : Heap) (n0 : Nat) (Z0 : n0 ≤ h0.size) (V_va : Arv Z h0 va kv .char (2 : Int32) ([(.int c0), (.int c1)]) (.int 0)) (hc0 : (¬ (255 : Int32) < c0)) (hc1 : (¬ (255 : Int32) < c1)) :
    MetFree l (⟨"java/lang/StringUTF16", "compress", "([CII)[B"⟩ : MethodName) (head1 (Jvm.Cond.code (⟨"java/lang/StringUTF16", "compress", "([CII)[B"⟩ : MethodName) jdk_52_method_16_code 6 (some (.array .byte)) :: ws) ({ frames := 1, cells := 1, slots := 2, locals := 18 } : Room)) (fun as' U => as' = #[(.ref va), (.int 0), (.int 2)] ∧ Z.Warmed39 U.vm ∧ U.heap = h0) (fun _ _ _ _ _ => True) (fun _ U o U' => ∃ v L, o = .returned v ∧ Q_rmC3_2 Z va kv c0 c1 h0 n0 v U'.heap L ∧ FrameEnd U o U' L ({ frames := 1, cells := 1, slots := 2, locals := 18 } : Room).cells ({ frames := 1, cells := 1, slots := 2, locals := 18 } : Room).slots) := by
  refine MetFree.of_bodySF (plainFor_of_name pn_37) hisR ?_
  intro p e s m args below meth c s₁ Bd hml0 hP hK
  obtain ⟨rfl, hZ, hh⟩ := hP
  have hx := Bd.exec
  have hby := Bd.bytes
  have hml : c.maxLocals = 6 := hml0
  have hown : s.vm.findClass "java/lang/StringUTF16" = some m.cls := findClass_of_methodNamed Bd.named
  have hnm := (name_of_methodNamed Bd.named Bd.method).1
  have X0 : Stand p l e ({ frames := 1, cells := 1, slots := 2, locals := 18 } : Room) s m #[(.ref va), (.int 0), (.int 2)] below meth c s₁ [] 0 0 := Stand.of_body Bd
  have e0 : s₁.heap = h0 := by rw [← hh, Bd.state]; rfl
  have N0 := Fr.nil n0
  refine Go.enter (F := EndN s (Q_rmC3_2 Z va kv c0 c1 h0 n0) ({ frames := 1, cells := 1, slots := 2, locals := 18 } : Room).cells ({ frames := 1, cells := 1, slots := 2, locals := 18 } : Room).slots) (ef_62 m va (0 : Int32) (2 : Int32)) ?_
  show Go _ _ _ _ s₁ (mkF m 0 #[rv va, iv 0, iv 2, un, un, un] [])
  refine Go.iload1 1 X0 hx (hb hby d8_0) rfl rfl ?_
  obtain ⟨da, g1⟩ : ∃ z, z = h0.size := ⟨_, rfl⟩
  have ge_da : n0 ≤ da := Nat.le_trans Z0 (Nat.le_of_eq g1.symm)
  have sz_da : h0.size ≤ da := Nat.le_trans (Keep.refl h0 []).1 (Nat.le_of_eq g1.symm)
  have ne_va_da : va ≠ da := Nat.ne_of_lt (Nat.lt_of_lt_of_le V_va.lt (Nat.le_of_eq g1.symm))
  obtain ⟨T1, h1, k1, X1, e1, E1, A1, Ea1, st1⟩ := newPE X0 hx hZ (ow hw 19 rfl) e0 (g := (mkF m 1 #[rv va, iv 0, iv 2, un, un, un] [(.int 2)])) rfl (hb hby d8_1) rfl (by decide) (cap := 2) (by decide) (by decide) (by decide) (by decide) (ad := "[B") rfl
  rw [← g1] at A1 Ea1 st1
  have V_da : Arv Z h1 da k1 .byte (2 : Int32) [(.int 0), (.int 0)] (.int 0) := (Arv.new A1 (by decide)).pad (pad_rep [] (.int 0) 2)
  refine Go.by st1 ?_
  show Go _ _ _ _ T1 (mkF m 3 #[rv va, iv 0, iv 2, un, un, un] [(.ref da)])
  refine Go.astore1 4 X1 hx (L' := #[rv va, iv 0, iv 2, rv da, un, un]) (hb hby d8_3) rfl rfl rfl ?_
  refine Go.aload1 5 X1 hx (hb hby d8_4) rfl rfl rfl ?_
  refine Go.iload1 6 X1 hx (hb hby d8_5) rfl rfl ?_
  refine Go.aload1 7 X1 hx (hb hby d8_6) rfl rfl rfl ?_
  refine Go.iconst 8 X1 hx (0 : Int32) (hb hby d8_7) (by decide) rfl ?_
  refine Go.iload1 9 X1 hx (hb hby d8_8) rfl rfl ?_
  have F2 : Arv Z h1 va kv .char (2 : Int32) [(.int c0), (.int c1)] (.int 0) := V_va.ext E1
  have F3 : n0 ≤ h1.size := Nat.le_trans Z0 E1.1
  obtain ⟨_, _, ⟨T4, L4, k4, n4⟩, -, X4, ⟨Lc4, hQ4, l4, y4, z4⟩, st4⟩ := Jvm.LawKit.callS X1 hx (y := (⟨"java/lang/StringUTF16", "compress", "([CI[BII)I"⟩ : MethodName)) hown (mvT hZ (ow hw 49 rfl)) (mvT hZ (ow hw 50 rfl)) (mvT hZ (ow hw 47 rfl)) (mvT hZ (ow hw 51 rfl)) (by decide) (backOf (W := 0) (rmC5_2 l Z a0 hw [] va da kv k1 c0 c1 h1 n0 F3 F2 V_da ge_da ne_va_da hc0 hc1) hZ (ow hw 51 rfl) (ow hw 47 rfl) (by decide) (by decide)) (g := (mkF m 9 #[rv va, iv 0, iv 2, rv da, un, un] [(.int 2), (.int 0), (.ref da), (.int 0), (.ref va)])) rfl (by rw [hml]; rfl) (argsL := [(.ref va), (.int 0), (.ref da), (.int 0), (.int 2)]) (rest := []) (lenOf pd_71 rfl) rfl (by show 2 * 0 + _ ≤ _; exact Nat.le_of_eq rfl) (hb hby d8_9) (fun _ _ => ⟨rfl, e1, (by decide : 1 + 0 ≤ _), (by decide : 2 + 0 ≤ _)⟩)
  dsimp only [Pt.U, Pt.locs, Pt.cells, Pt.slots] at X4 l4 y4 z4 st4 hQ4
  subst l4 y4 z4
  obtain ⟨rfl, N4q, K4, Q4_0⟩ := hQ4
  have N4 := Fr.app N0 N4q
  refine Go.by st4 ?_
  show Go _ _ _ _ T4 (mkF m 12 #[rv va, iv 0, iv 2, rv da, un, un] [(.int 2)])
  refine Go.istore2 14 X4 hx (L' := #[rv va, iv 0, iv 2, rv da, iv 2, un]) (hb hby d8_12) rfl rfl ?_
  refine Go.iload2 16 X4 hx (hb hby d8_14) rfl rfl ?_
  refine Go.iload1 17 X4 hx (hb hby d8_16) rfl rfl ?_
  refine Go.icmpY 57 X4 hx (hb hby d8_17) (XT.ii_eq_t rfl) (by decide) (by decide) ?_
  refine Go.aload1 58 X4 hx (hb hby d8_57) rfl rfl rfl ?_
  have F5 : Keep h0 h1 [] := (Keep.refl h0 []).ext E1
  have F6 : Keep h0 T4.heap [] := F5.trans K4 (allS (Or.inr sz_da) all0)
  exact Go.retA X4 hx Bd.notSynchronized Bd.returns rfl rfl (hb hby d8_58) ⟨da, k1, rfl, N4, F6, Q4_0, sz_da⟩ (by decide) (by decide)
def Q_rmCoder_2 (Z : State) (da : Addr) (kd : ClassId) (vs : List Value) (h0 : Heap) (n0 : Nat) (v : Option Value) (h : Heap) (L : List Loc) : Prop := v = some (.int 0) ∧ Fr n0 L ∧ h = h0
set_option maxRecDepth 65536 in
set_option maxHeartbeats 40000000 in
theorem rmCoder_2 (l : Launch) (Z : State) (a0 : Array Value) (hw : ∀ d ∈ tables_1, d.before a0 Z = true) (ws : List Jvm.Cond) (da : Addr) (kd : ClassId) (vs : List Value) (h0 : Heap) (n0 : Nat) (Z0 : n0 ≤ h0.size) (V_da : Arv Z h0 da kd .byte (2 : Int32) vs (.int 0)) :
    MetFree l (⟨"java/lang/StringUTF16", "coderFromArrayLen", "([BI)B"⟩ : MethodName) (head1 (Jvm.Cond.code (⟨"java/lang/StringUTF16", "coderFromArrayLen", "([BI)B"⟩ : MethodName) jdk_52_method_15_code 2 (some .byte) :: ws) ({ frames := 0, cells := 0, slots := 0, locals := 0 } : Room)) (fun as' U => as' = #[(.ref da), (.int 2)] ∧ Z.Warmed39 U.vm ∧ U.heap = h0) (fun _ _ _ _ _ => True) (fun _ U o U' => ∃ v L, o = .returned v ∧ Q_rmCoder_2 Z da kd vs h0 n0 v U'.heap L ∧ FrameEnd U o U' L ({ frames := 0, cells := 0, slots := 0, locals := 0 } : Room).cells ({ frames := 0, cells := 0, slots := 0, locals := 0 } : Room).slots) := by
  refine MetFree.of_bodySF (plainFor_of_name pn_37) hisR ?_
  intro p e s m args below meth c s₁ Bd hml0 hP hK
  obtain ⟨rfl, hZ, hh⟩ := hP
  have hx := Bd.exec
  have hby := Bd.bytes
  have hml : c.maxLocals = 2 := hml0
  have hown : s.vm.findClass "java/lang/StringUTF16" = some m.cls := findClass_of_methodNamed Bd.named
  have hnm := (name_of_methodNamed Bd.named Bd.method).1
  have X0 : Stand p l e ({ frames := 0, cells := 0, slots := 0, locals := 0 } : Room) s m #[(.ref da), (.int 2)] below meth c s₁ [] 0 0 := Stand.of_body Bd
  have e0 : s₁.heap = h0 := by rw [← hh, Bd.state]; rfl
  have N0 := Fr.nil n0
  refine Go.enter (F := EndN s (Q_rmCoder_2 Z da kd vs h0 n0) ({ frames := 0, cells := 0, slots := 0, locals := 0 } : Room).cells ({ frames := 0, cells := 0, slots := 0, locals := 0 } : Room).slots) (ef_27 m da (2 : Int32)) ?_
  show Go _ _ _ _ s₁ (mkF m 0 #[rv da, iv 2] [])
  refine Go.iload1 1 X0 hx (hb hby d10_0) rfl rfl ?_
  refine Go.aload1 2 X0 hx (hb hby d10_1) rfl rfl rfl ?_
  obtain ⟨cl1, Ar1, -, S1, M1, -, -⟩ := id V_da
  refine Go.by (fun _ gk => X0.arraylength hx (by rw [e0]; exact Ar1.1) (State.isArrayOf_alike hZ.alike Ar1.2.1) (g := (mkF m 2 #[rv da, iv 2] [(.ref da), (.int 2)])) rfl rfl (hb hby d10_2) _ gk) ?_
  rw [len_of S1 M1]
  show Go _ _ _ _ s₁ (mkF m 3 #[rv da, iv 2] [(.int 2), (.int 2)])
  refine Go.isub 4 X0 hx (hb hby d10_3) rfl ?_
  rw [(by decide : ((2 : Int32) - (2 : Int32)) = (0 : Int32))]
  refine Go.bipush 6 X0 hx (31 : Int32) (hb hby d10_4) (by decide) rfl ?_
  refine Go.iushr 7 X0 hx (hb hby d10_6) rfl ?_
  rw [(by decide : (XT.ushr (0 : Int32) (31 : Int32)) = (0 : Int32))]
  refine Go.i2b 8 X0 hx (hb hby d10_7) rfl ?_
  rw [(by decide : ((0 : Int32).toInt8.toInt32) = (0 : Int32))]
  exact Go.retI X0 hx Bd.notSynchronized Bd.returns rfl (by simp) (hb hby d10_8) (by rw [e0]; exact ⟨rfl, N0, rfl⟩) (by decide) (by decide)
def Q_rmS4_2 (Z : State) (a : Addr) (va : Addr) (kv : ClassId) (c0 : Int32) (c1 : Int32) (cs : Int32) (h0 : Heap) (n0 : Nat) (v : Option Value) (h : Heap) (L : List Loc) : Prop := ∃ b : Addr, ∃ kb : ClassId, v = none ∧ Fr n0 L ∧ Keep h0 h [a] ∧ Exa Z h a "java/lang/String" ∧ Fld Z h a "java/lang/String" "coder" "B" (.int 0) ∧ Fld Z h a "java/lang/String" "value" "[B" (.ref b) ∧ Arv Z h b kb .byte (2 : Int32) ([(.int (own_b c0)), (.int (own_b c1))]) (.int 0) ∧ h0.size ≤ b
set_option maxRecDepth 65536 in
set_option maxHeartbeats 40000000 in
theorem rmS4_2 (l : Launch) (Z : State) (a0 : Array Value) (hw : ∀ d ∈ tables_1, d.before a0 Z = true) (ws : List Jvm.Cond) (a : Addr) (va : Addr) (kv : ClassId) (c0 : Int32) (c1 : Int32) (cs : Int32) (h0 : Heap) (n0 : Nat) (Z0 : n0 ≤ h0.size) (O0 : Old Z n0 h0) (E_a : Exa Z h0 a "java/lang/String") (F_a_value : Fld Z h0 a "java/lang/String" "value" "[B" .null) (F_a_coder : Fld Z h0 a "java/lang/String" "coder" "B" (.int 0)) (g_a : n0 ≤ a) (V_va : Arv Z h0 va kv .char (2 : Int32) ([(.int c0), (.int c1)]) (.int 0)) (hc0 : (¬ (255 : Int32) < c0)) (hc1 : (¬ (255 : Int32) < c1)) (S_cs : Sta Z Z.heap "java/lang/String" "COMPACT_STRINGS" "Z" (.int cs)) (n_cs : ¬ cs = 0) :
    MetFree l (⟨"java/lang/String", "<init>", "([CIILjava/lang/Void;)V"⟩ : MethodName) (head1 (Jvm.Cond.code (⟨"java/lang/String", "<init>", "([CIILjava/lang/Void;)V"⟩ : MethodName) jdk_42_method_149_code 6 none :: ws) ({ frames := 2, cells := 1, slots := 2, locals := 35 } : Room)) (fun as' U => as' = #[(.ref a), (.ref va), (.int 0), (.int 2), .null] ∧ Z.Warmed39 U.vm ∧ U.heap = h0) (fun _ _ _ _ _ => True) (fun _ U o U' => ∃ v L, o = .returned v ∧ Q_rmS4_2 Z a va kv c0 c1 cs h0 n0 v U'.heap L ∧ FrameEnd U o U' L ({ frames := 2, cells := 1, slots := 2, locals := 35 } : Room).cells ({ frames := 2, cells := 1, slots := 2, locals := 35 } : Room).slots) := by
  refine MetFree.of_bodySF (plainFor_of_name pn_1) hisR ?_
  intro p e s m args below meth c s₁ Bd hml0 hP hK
  obtain ⟨rfl, hZ, hh⟩ := hP
  have hx := Bd.exec
  have hby := Bd.bytes
  have hml : c.maxLocals = 6 := hml0
  have hown : s.vm.findClass "java/lang/String" = some m.cls := findClass_of_methodNamed Bd.named
  have hnm := (name_of_methodNamed Bd.named Bd.method).1
  have X0 : Stand p l e ({ frames := 2, cells := 1, slots := 2, locals := 35 } : Room) s m #[(.ref a), (.ref va), (.int 0), (.int 2), .null] below meth c s₁ [] 0 0 := Stand.of_body Bd
  have e0 : s₁.heap = h0 := by rw [← hh, Bd.state]; rfl
  have N0 := Fr.nil n0
  refine Go.enter (F := EndN s (Q_rmS4_2 Z a va kv c0 c1 cs h0 n0) ({ frames := 2, cells := 1, slots := 2, locals := 35 } : Room).cells ({ frames := 2, cells := 1, slots := 2, locals := 35 } : Room).slots) (ef_2 m a va (0 : Int32) (2 : Int32)) ?_
  show Go _ _ _ _ s₁ (mkF m 0 #[rv a, rv va, iv 0, iv 2, .val .null, un] [])
  refine Go.aload1 1 X0 hx (hb hby d3_0) rfl rfl rfl ?_
  obtain ⟨T1, X1, e1, st1⟩ := initO X0 hx hZ hown (ow hw 15 rfl) (ow hw 16 rfl) (ow hw 17 rfl) e0 (g := (mkF m 1 #[rv a, rv va, iv 0, iv 2, .val .null, un] [(.ref a)])) rfl (by rw [hml]; rfl) rfl (hb hby d3_1) (by decide) (W := 0) (by show 2 * 0 + _ ≤ _; exact Nat.le_of_eq rfl) (by decide)
  refine Go.by st1 ?_
  show Go _ _ _ _ T1 (mkF m 4 #[rv a, rv va, iv 0, iv 2, .val .null, un] [])
  refine Go.iload1 5 X1 hx (hb hby d3_4) rfl rfl ?_
  refine Go.ifY 27 X1 hx (hb hby d3_5) (XT.i0_ne_t (by decide)) (by decide) (by decide) ?_
  have F2 : Sta Z h0 "java/lang/String" "COMPACT_STRINGS" "Z" (.int cs) := S_cs.ext O0.2
  obtain ⟨T3, X3, e3, st3⟩ := getS2 X1 hx hZ hown (host := "") (Or.inl (ow hw 37 rfl)) Via.refl e1 F2 (g := (mkF m 27 #[rv a, rv va, iv 0, iv 2, .val .null, un] [])) rfl (hb hby d3_27)
  refine Go.by st3 ?_
  show Go _ _ _ _ T3 (mkF m 30 #[rv a, rv va, iv 0, iv 2, .val .null, un] [(.int cs)])
  refine Go.ifN 33 X3 hx (hb hby d3_30) (XT.i0_eq_f n_cs) rfl ?_
  refine Go.aload1 34 X3 hx (hb hby d3_33) rfl rfl rfl ?_
  refine Go.iload1 35 X3 hx (hb hby d3_34) rfl rfl ?_
  refine Go.iload1 36 X3 hx (hb hby d3_35) rfl rfl ?_
  obtain ⟨_, _, ⟨T4, L4, k4, n4⟩, -, X4, ⟨Lc4, hQ4, l4, y4, z4⟩, st4⟩ := Jvm.LawKit.callS X3 hx (y := (⟨"java/lang/StringUTF16", "compress", "([CII)[B"⟩ : MethodName)) hown (mvT hZ (ow hw 45 rfl)) (mvT hZ (ow hw 46 rfl)) (mvT hZ (ow hw 47 rfl)) (mvT hZ (ow hw 48 rfl)) (by decide) (backOf (W := 0) (rmC3_2 l Z a0 hw [] va kv c0 c1 h0 n0 Z0 V_va hc0 hc1) hZ (ow hw 48 rfl) (ow hw 47 rfl) (by decide) (by decide)) (g := (mkF m 36 #[rv a, rv va, iv 0, iv 2, .val .null, un] [(.int 2), (.int 0), (.ref va)])) rfl (by rw [hml]; rfl) (argsL := [(.ref va), (.int 0), (.int 2)]) (rest := []) (lenOf pd_92 rfl) rfl (by show 2 * 0 + _ ≤ _; exact Nat.le_of_eq rfl) (hb hby d3_36) (fun _ _ => ⟨rfl, e3, (by decide : 0 + 1 ≤ _), (by decide : 0 + 2 ≤ _)⟩)
  dsimp only [Pt.U, Pt.locs, Pt.cells, Pt.slots] at X4 l4 y4 z4 st4 hQ4
  subst l4 y4 z4
  obtain ⟨b, kb, rfl, N4q, K4, Q4_0, Q4_1⟩ := hQ4
  have N4 := Fr.app N0 N4q
  refine Go.by st4 ?_
  show Go _ _ _ _ T4 (mkF m 39 #[rv a, rv va, iv 0, iv 2, .val .null, un] [(.ref b)])
  have ge_b : n0 ≤ b := Nat.le_trans Z0 Q4_1
  have sz_b : h0.size ≤ b := Nat.le_trans (Keep.refl h0 [a]).1 Q4_1
  have ne_a_b : a ≠ b := Nat.ne_of_lt (Nat.lt_of_lt_of_le E_a.lt Q4_1)
  have ne_va_b : va ≠ b := Nat.ne_of_lt (Nat.lt_of_lt_of_le V_va.lt Q4_1)
  refine Go.astore2 41 X4 hx (L' := #[rv a, rv va, iv 0, iv 2, .val .null, rv b]) (hb hby d3_39) rfl rfl rfl ?_
  refine Go.aload1 42 X4 hx (hb hby d3_41) rfl rfl rfl ?_
  refine Go.aload2 44 X4 hx (hb hby d3_42) rfl rfl rfl ?_
  refine Go.iload1 45 X4 hx (hb hby d3_44) rfl rfl ?_
  have F5 : n0 ≤ T4.heap.size := Nat.le_trans Z0 K4.1
  obtain ⟨_, _, ⟨T6, L6, k6, n6⟩, -, X6, ⟨Lc6, hQ6, l6, y6, z6⟩, st6⟩ := Jvm.LawKit.callS X4 hx (y := (⟨"java/lang/StringUTF16", "coderFromArrayLen", "([BI)B"⟩ : MethodName)) hown (mvT hZ (ow hw 52 rfl)) (mvT hZ (ow hw 53 rfl)) (mvT hZ (ow hw 47 rfl)) (mvT hZ (ow hw 54 rfl)) (by decide) (backOf (W := 1) (rmCoder_2 l Z a0 hw [] b kb ([(.int (own_b c0)), (.int (own_b c1))]) T4.heap n0 F5 Q4_0) hZ (ow hw 54 rfl) (ow hw 47 rfl) (by decide) (by decide)) (g := (mkF m 45 #[rv a, rv va, iv 0, iv 2, .val .null, rv b] [(.int 2), (.ref b), (.ref a)])) rfl (by rw [hml]; rfl) (argsL := [(.ref b), (.int 2)]) (rest := [(.ref a)]) (lenOf pd_98 rfl) rfl (by show 2 * 0 + _ ≤ _; exact Nat.le_of_eq rfl) (hb hby d3_45) (fun _ _ => ⟨rfl, rfl, (by decide : 1 + 0 ≤ _), (by decide : 2 + 0 ≤ _)⟩)
  dsimp only [Pt.U, Pt.locs, Pt.cells, Pt.slots] at X6 l6 y6 z6 st6 hQ6
  subst l6 y6 z6
  obtain ⟨rfl, N6q, e6⟩ := hQ6
  have N6 := Fr.app N4 N6q
  refine Go.by st6 ?_
  show Go _ _ _ _ T6 (mkF m 48 #[rv a, rv va, iv 0, iv 2, .val .null, rv b] [(.int 0), (.ref a)])
  have F7 : Fld Z T4.heap a "java/lang/String" "coder" "B" (.int 0) := F_a_coder.keep K4 nin0
  have F8 : Exa Z T4.heap a "java/lang/String" := E_a.keep K4
  obtain ⟨T9, h9, X9, e9, W9, st9⟩ := putFN X6 hx hZ hown (ow hw 25 rfl) Via.refl e6 F7 F8 (Or.inr ⟨(ow hw 21 rfl), rfl, hnm⟩) (ow hw 6 rfl) (ty := .byte) (v' := (.int 0)) (by decide) rfl rfl (g := (mkF m 48 #[rv a, rv va, iv 0, iv 2, .val .null, rv b] [(.int 0), (.ref a)])) rfl rfl (hb hby d3_48)
  have N9 := Fr.snoc X9 N6 g_a
  have Fw9 : Fld Z h9 a "java/lang/String" "coder" "B" (.int 0) := F7.same W9
  refine Go.by st9 ?_
  show Go _ _ _ _ T9 (mkF m 51 #[rv a, rv va, iv 0, iv 2, .val .null, rv b] [])
  refine Go.aload1 52 X9 hx (hb hby d3_51) rfl rfl rfl ?_
  refine Go.aload2 54 X9 hx (hb hby d3_52) rfl rfl rfl ?_
  have F10 : Fld Z T4.heap a "java/lang/String" "value" "[B" .null := F_a_value.keep K4 nin0
  have F11 : Fld Z h9 a "java/lang/String" "value" "[B" .null := F10.other W9 (Or.inr (slot_ne (Or.inr (ow hw 20 rfl)) (Or.inr (ow hw 21 rfl)) (by decide) (t := (.array .byte)) (t' := .byte) (by decide) (by decide)))
  have F12 : Exa Z h9 a "java/lang/String" := F8.wr W9
  obtain ⟨T13, h13, X13, e13, W13, st13⟩ := putF X9 hx hZ hown (host := "") (Or.inl (ow hw 24 rfl)) Via.refl e9 F11 F12 (Or.inr ⟨(ow hw 20 rfl), rfl, hnm⟩) (ow hw 6 rfl) (ty := (.array .byte)) (by decide) rfl rfl (g := (mkF m 54 #[rv a, rv va, iv 0, iv 2, .val .null, rv b] [(.ref b), (.ref a)])) rfl rfl (hb hby d3_54)
  have N13 := Fr.snoc X13 N9 g_a
  have Fw13 : Fld Z h13 a "java/lang/String" "value" "[B" (.ref b) := F11.same W13
  refine Go.by st13 ?_
  show Go _ _ _ _ T13 (mkF m 57 #[rv a, rv va, iv 0, iv 2, .val .null, rv b] [])
  have F14 : Keep h0 T4.heap [a] := (Keep.refl h0 [a]).trans K4 all0
  have F15 : Keep h0 h9 [a] := F14.wr W9 (Or.inl (List.mem_of_getElem? (i := 0) rfl))
  have F16 : Keep h0 h13 [a] := F15.wr W13 (Or.inl (List.mem_of_getElem? (i := 0) rfl))
  have F17 : Exa Z h13 a "java/lang/String" := F12.wr W13
  have F18 : Fld Z h13 a "java/lang/String" "coder" "B" (.int 0) := Fw9.other W13 (Or.inr (slot_ne (Or.inr (ow hw 21 rfl)) (Or.inr (ow hw 20 rfl)) (by decide) (t := .byte) (t' := (.array .byte)) (by decide) (by decide)))
  have F19 : Arv Z h9 b kb .byte (2 : Int32) [(.int (own_b c0)), (.int (own_b c1))] (.int 0) := Q4_0.other W9 (Ne.symm ne_a_b)
  have F20 : Arv Z h13 b kb .byte (2 : Int32) [(.int (own_b c0)), (.int (own_b c1))] (.int 0) := F19.other W13 (Ne.symm ne_a_b)
  exact Go.retV X13 hx Bd.notSynchronized Bd.returns (hb hby d3_57) (by rw [e13]; exact ⟨b, kb, rfl, N13, F16, F17, F18, Fw13, F20, sz_b⟩) (by decide) (by decide)
def Q_rmS1_2 (Z : State) (a : Addr) (va : Addr) (kv : ClassId) (c0 : Int32) (c1 : Int32) (cs : Int32) (h0 : Heap) (n0 : Nat) (v : Option Value) (h : Heap) (L : List Loc) : Prop := ∃ b : Addr, ∃ kb : ClassId, v = none ∧ Fr n0 L ∧ Keep h0 h [a] ∧ Exa Z h a "java/lang/String" ∧ Fld Z h a "java/lang/String" "coder" "B" (.int 0) ∧ Fld Z h a "java/lang/String" "value" "[B" (.ref b) ∧ Arv Z h b kb .byte (2 : Int32) ([(.int (own_b c0)), (.int (own_b c1))]) (.int 0) ∧ h0.size ≤ b
set_option maxRecDepth 65536 in
set_option maxHeartbeats 40000000 in
theorem rmS1_2 (l : Launch) (Z : State) (a0 : Array Value) (hw : ∀ d ∈ tables_1, d.before a0 Z = true) (ws : List Jvm.Cond) (a : Addr) (va : Addr) (kv : ClassId) (c0 : Int32) (c1 : Int32) (cs : Int32) (h0 : Heap) (n0 : Nat) (Z0 : n0 ≤ h0.size) (O0 : Old Z n0 h0) (E_a : Exa Z h0 a "java/lang/String") (F_a_value : Fld Z h0 a "java/lang/String" "value" "[B" .null) (F_a_coder : Fld Z h0 a "java/lang/String" "coder" "B" (.int 0)) (g_a : n0 ≤ a) (V_va : Arv Z h0 va kv .char (2 : Int32) ([(.int c0), (.int c1)]) (.int 0)) (hc0 : (¬ (255 : Int32) < c0)) (hc1 : (¬ (255 : Int32) < c1)) (S_cs : Sta Z Z.heap "java/lang/String" "COMPACT_STRINGS" "Z" (.int cs)) (n_cs : ¬ cs = 0) :
    MetFree l (⟨"java/lang/String", "<init>", "([C)V"⟩ : MethodName) (head1 (Jvm.Cond.code (⟨"java/lang/String", "<init>", "([C)V"⟩ : MethodName) jdk_42_method_3_code 2 none :: ws) ({ frames := 3, cells := 1, slots := 2, locals := 52 } : Room)) (fun as' U => as' = #[(.ref a), (.ref va)] ∧ Z.Warmed39 U.vm ∧ U.heap = h0) (fun _ _ _ _ _ => True) (fun _ U o U' => ∃ v L, o = .returned v ∧ Q_rmS1_2 Z a va kv c0 c1 cs h0 n0 v U'.heap L ∧ FrameEnd U o U' L ({ frames := 3, cells := 1, slots := 2, locals := 52 } : Room).cells ({ frames := 3, cells := 1, slots := 2, locals := 52 } : Room).slots) := by
  refine MetFree.of_bodySF (plainFor_of_name pn_1) hisR ?_
  intro p e s m args below meth c s₁ Bd hml0 hP hK
  obtain ⟨rfl, hZ, hh⟩ := hP
  have hx := Bd.exec
  have hby := Bd.bytes
  have hml : c.maxLocals = 2 := hml0
  have hown : s.vm.findClass "java/lang/String" = some m.cls := findClass_of_methodNamed Bd.named
  have hnm := (name_of_methodNamed Bd.named Bd.method).1
  have X0 : Stand p l e ({ frames := 3, cells := 1, slots := 2, locals := 52 } : Room) s m #[(.ref a), (.ref va)] below meth c s₁ [] 0 0 := Stand.of_body Bd
  have e0 : s₁.heap = h0 := by rw [← hh, Bd.state]; rfl
  have N0 := Fr.nil n0
  refine Go.enter (F := EndN s (Q_rmS1_2 Z a va kv c0 c1 cs h0 n0) ({ frames := 3, cells := 1, slots := 2, locals := 52 } : Room).cells ({ frames := 3, cells := 1, slots := 2, locals := 52 } : Room).slots) (ef_16 m a va) ?_
  show Go _ _ _ _ s₁ (mkF m 0 #[rv a, rv va] [])
  refine Go.aload1 1 X0 hx (hb hby d2_0) rfl rfl rfl ?_
  refine Go.aload1 2 X0 hx (hb hby d2_1) rfl rfl rfl ?_
  refine Go.iconst 3 X0 hx (0 : Int32) (hb hby d2_2) (by decide) rfl ?_
  refine Go.aload1 4 X0 hx (hb hby d2_3) rfl rfl rfl ?_
  obtain ⟨cl1, Ar1, -, S1, M1, -, -⟩ := id V_va
  refine Go.by (fun _ gk => X0.arraylength hx (by rw [e0]; exact Ar1.1) (State.isArrayOf_alike hZ.alike Ar1.2.1) (g := (mkF m 4 #[rv a, rv va] [(.ref va), (.int 0), (.ref va), (.ref a)])) rfl rfl (hb hby d2_4) _ gk) ?_
  rw [len_of S1 M1]
  show Go _ _ _ _ s₁ (mkF m 5 #[rv a, rv va] [(.int 2), (.int 0), (.ref va), (.ref a)])
  refine Go.aconst_null 6 X0 hx (hb hby d2_5) rfl ?_
  obtain ⟨_, _, ⟨T2, L2, k2, n2⟩, -, X2, ⟨Lc2, hQ2, l2, y2, z2⟩, st2⟩ := X0.specialBack hx (y := (⟨"java/lang/String", "<init>", "([CIILjava/lang/Void;)V"⟩ : MethodName)) rfl hown (mvT hZ (ow hw 11 rfl)) (mvT hZ (ow hw 12 rfl)) (mvT hZ (ow hw 14 rfl)) (by decide) (backOf (W := 0) (rmS4_2 l Z a0 hw [] a va kv c0 c1 cs h0 n0 Z0 O0 E_a F_a_value F_a_coder g_a V_va hc0 hc1 S_cs n_cs) hZ (ow hw 14 rfl) (ow hw 7 rfl) (by decide) (by decide)) (g := (mkF m 6 #[rv a, rv va] [.null, (.int 2), (.int 0), (.ref va), (.ref a)])) rfl (by rw [hml]; rfl) (Steps.refl _) (a := a) (argsL := [(.ref va), (.int 0), (.int 2), .null]) (rest := []) (lenOf pd_23 rfl) rfl (by show 2 * 0 + _ ≤ _; exact Nat.le_of_eq rfl) (hb hby d2_6) (fun _ _ => ⟨rfl, e0, (by decide : 0 + 1 ≤ _), (by decide : 0 + 2 ≤ _)⟩)
  dsimp only [Pt.U, Pt.locs, Pt.cells, Pt.slots] at X2 l2 y2 z2 st2 hQ2
  subst l2 y2 z2
  obtain ⟨b, kb, rfl, N2q, K2, Q2_0, Q2_1, Q2_2, Q2_3, Q2_4⟩ := hQ2
  have N2 := Fr.app N0 N2q
  refine Go.to st2 ?_
  show Go _ _ _ _ T2 (mkF m 9 #[rv a, rv va] [])
  have ge_b : n0 ≤ b := Nat.le_trans Z0 Q2_4
  have sz_b : h0.size ≤ b := Nat.le_trans (Keep.refl h0 [a]).1 Q2_4
  have ne_a_b : a ≠ b := Nat.ne_of_lt (Nat.lt_of_lt_of_le E_a.lt Q2_4)
  have ne_va_b : va ≠ b := Nat.ne_of_lt (Nat.lt_of_lt_of_le V_va.lt Q2_4)
  have F3 : Keep h0 T2.heap [a] := (Keep.refl h0 [a]).trans K2 (allS (Or.inl (List.mem_of_getElem? (i := 0) rfl)) all0)
  exact Go.retV X2 hx Bd.notSynchronized Bd.returns (hb hby d2_9) ⟨b, kb, rfl, N2, F3, Q2_0, Q2_1, Q2_2, Q2_3, sz_b⟩ (by decide) (by decide)
theorem d1_37 : decode method_3_code 37 = .ok (.iload_n 1, 1) := by decide +kernel
theorem d1_38 : decode method_3_code 38 = .ok (.iconst 2, 1) := by decide +kernel
theorem d1_39 : decode method_3_code 39 = .ok (.if_icmp .ne 26, 3) := by decide +kernel
theorem d1_42 : decode method_3_code 42 = .ok (.new 25, 3) := by decide +kernel
theorem d1_45 : decode method_3_code 45 = .ok (.dup, 1) := by decide +kernel
theorem d1_46 : decode method_3_code 46 = .ok (.iconst 2, 1) := by decide +kernel
theorem d1_47 : decode method_3_code 47 = .ok (.newarray .char, 2) := by decide +kernel
theorem d1_49 : decode method_3_code 49 = .ok (.dup, 1) := by decide +kernel
theorem d1_50 : decode method_3_code 50 = .ok (.iconst 0, 1) := by decide +kernel
theorem d1_51 : decode method_3_code 51 = .ok (.aload_n 0, 1) := by decide +kernel
theorem d1_52 : decode method_3_code 52 = .ok (.iconst 0, 1) := by decide +kernel
theorem d1_53 : decode method_3_code 53 = .ok (.caload, 1) := by decide +kernel
theorem d1_54 : decode method_3_code 54 = .ok (.castore, 1) := by decide +kernel
theorem d1_55 : decode method_3_code 55 = .ok (.dup, 1) := by decide +kernel
theorem d1_56 : decode method_3_code 56 = .ok (.iconst 1, 1) := by decide +kernel
theorem d1_57 : decode method_3_code 57 = .ok (.aload_n 0, 1) := by decide +kernel
theorem d1_58 : decode method_3_code 58 = .ok (.iconst 1, 1) := by decide +kernel
theorem d1_59 : decode method_3_code 59 = .ok (.caload, 1) := by decide +kernel
theorem d1_60 : decode method_3_code 60 = .ok (.castore, 1) := by decide +kernel
theorem d1_61 : decode method_3_code 61 = .ok (.invokespecial 27, 3) := by decide +kernel
theorem d1_64 : decode method_3_code 64 = .ok (.areturn, 1) := by decide +kernel
def Q_rmStr2 (Z : State) (ta : Addr) (kt : ClassId) (t0 : Int32) (t1 : Int32) (t2 : Int32) (t3 : Int32) (t4 : Int32) (t5 : Int32) (cs : Int32) (h0 : Heap) (n0 : Nat) (v : Option Value) (h : Heap) (L : List Loc) : Prop := ∃ st : Addr, ∃ sb : Addr, ∃ kb : ClassId, v = some (.ref st) ∧ Fr n0 L ∧ Keep h0 h [] ∧ Exa Z h st "java/lang/String" ∧ Fld Z h st "java/lang/String" "coder" "B" (.int 0) ∧ Fld Z h st "java/lang/String" "value" "[B" (.ref sb) ∧ Arv Z h sb kb .byte (2 : Int32) ([(.int (own_b t0)), (.int (own_b t1))]) (.int 0) ∧ h0.size ≤ st
set_option maxRecDepth 65536 in
set_option maxHeartbeats 40000000 in
theorem rmStr2 (l : Launch) (Z : State) (a0 : Array Value) (hw : ∀ d ∈ tables_1, d.before a0 Z = true) (ws : List Jvm.Cond) (ta : Addr) (kt : ClassId) (t0 : Int32) (t1 : Int32) (t2 : Int32) (t3 : Int32) (t4 : Int32) (t5 : Int32) (cs : Int32) (h0 : Heap) (n0 : Nat) (Z0 : n0 ≤ h0.size) (O0 : Old Z n0 h0) (V_ta : Arv Z h0 ta kt .char (6 : Int32) ([(.int t0), (.int t1), (.int t2), (.int t3), (.int t4), (.int t5)]) (.int 0)) (hb0 : (¬ t0 < 0 ∧ ¬ (255 : Int32) < t0)) (hb1 : (¬ t1 < 0 ∧ ¬ (255 : Int32) < t1)) (S_cs : Sta Z Z.heap "java/lang/String" "COMPACT_STRINGS" "Z" (.int cs)) (n_cs : ¬ cs = 0) :
    MetFree l (⟨"com/example/entries_to_nodes/entriestonodes/xml/XsBooleanReadPinLaw", "str", "([CI)Ljava/lang/String;"⟩ : MethodName) (head1 (Jvm.Cond.code (⟨"com/example/entries_to_nodes/entriestonodes/xml/XsBooleanReadPinLaw", "str", "([CI)Ljava/lang/String;"⟩ : MethodName) method_3_code 2 (some (.object "java/lang/String")) :: ws) ({ frames := 4, cells := 3, slots := 8, locals := 66 } : Room)) (fun as' U => as' = #[(.ref ta), (.int 2)] ∧ Z.Warmed39 U.vm ∧ U.heap = h0) (fun _ _ _ _ _ => True) (fun _ U o U' => ∃ v L, o = .returned v ∧ Q_rmStr2 Z ta kt t0 t1 t2 t3 t4 t5 cs h0 n0 v U'.heap L ∧ FrameEnd U o U' L ({ frames := 4, cells := 3, slots := 8, locals := 66 } : Room).cells ({ frames := 4, cells := 3, slots := 8, locals := 66 } : Room).slots) := by
  refine MetFree.of_bodySF (plainFor_of_name pn_26) hisR ?_
  intro p e s m args below meth c s₁ Bd hml0 hP hK
  obtain ⟨rfl, hZ, hh⟩ := hP
  have hx := Bd.exec
  have hby := Bd.bytes
  have hml : c.maxLocals = 2 := hml0
  have hown : s.vm.findClass "com/example/entries_to_nodes/entriestonodes/xml/XsBooleanReadPinLaw" = some m.cls := findClass_of_methodNamed Bd.named
  have hnm := (name_of_methodNamed Bd.named Bd.method).1
  have X0 : Stand p l e ({ frames := 4, cells := 3, slots := 8, locals := 66 } : Room) s m #[(.ref ta), (.int 2)] below meth c s₁ [] 0 0 := Stand.of_body Bd
  have e0 : s₁.heap = h0 := by rw [← hh, Bd.state]; rfl
  have N0 := Fr.nil n0
  refine Go.enter (F := EndN s (Q_rmStr2 Z ta kt t0 t1 t2 t3 t4 t5 cs h0 n0) ({ frames := 4, cells := 3, slots := 8, locals := 66 } : Room).cells ({ frames := 4, cells := 3, slots := 8, locals := 66 } : Room).slots) (ef_27 m ta (2 : Int32)) ?_
  show Go _ _ _ _ s₁ (mkF m 0 #[rv ta, iv 2] [])
  refine Go.iload1 1 X0 hx (hb hby d1_0) rfl rfl ?_
  refine Go.ifY 15 X0 hx (hb hby d1_1) (XT.i0_ne_t (by decide)) (by decide) (by decide) ?_
  refine Go.iload1 16 X0 hx (hb hby d1_15) rfl rfl ?_
  refine Go.iconst 17 X0 hx (1 : Int32) (hb hby d1_16) (by decide) rfl ?_
  refine Go.icmpY 37 X0 hx (hb hby d1_17) (XT.ii_ne_t (by decide)) (by decide) (by decide) ?_
  refine Go.iload1 38 X0 hx (hb hby d1_37) rfl rfl ?_
  refine Go.iconst 39 X0 hx (2 : Int32) (hb hby d1_38) (by decide) rfl ?_
  refine Go.icmpN 42 X0 hx (hb hby d1_39) (XT.ii_ne_f rfl) rfl ?_
  obtain ⟨st, g1⟩ : ∃ z, z = h0.size := ⟨_, rfl⟩
  have ge_st : n0 ≤ st := Nat.le_trans Z0 (Nat.le_of_eq g1.symm)
  have sz_st : h0.size ≤ st := Nat.le_trans (Keep.refl h0 []).1 (Nat.le_of_eq g1.symm)
  have ne_ta_st : ta ≠ st := Nat.ne_of_lt (Nat.lt_of_lt_of_le V_ta.lt (Nat.le_of_eq g1.symm))
  obtain ⟨T1, h1, X1, e1, E1, A1, D1, -, st1⟩ := newO X0 hx hZ hown (ow hw 5 rfl) (ow hw 6 rfl) (ow hw 7 rfl) e0 (g := (mkF m 42 #[rv ta, iv 2] [])) rfl (hb hby d1_42) (by decide) (by decide)
  rw [← g1] at A1 D1 st1
  have F_value_st : Fld Z h1 st "java/lang/String" "value" "[B" .null := D1 (Or.inr (ow hw 20 rfl)) (ty := (.array .byte)) (by decide)
  have F_coder_st : Fld Z h1 st "java/lang/String" "coder" "B" (.int 0) := D1 (Or.inr (ow hw 21 rfl)) (ty := .byte) (by decide)
  refine Go.by st1 ?_
  show Go _ _ _ _ T1 (mkF m 45 #[rv ta, iv 2] [(.ref st)])
  refine Go.dup 46 X1 hx (hb hby d1_45) rfl rfl ?_
  refine Go.iconst 47 X1 hx (2 : Int32) (hb hby d1_46) (by decide) rfl ?_
  obtain ⟨ca, g2⟩ : ∃ z, z = h1.size := ⟨_, rfl⟩
  have F3 : n0 ≤ h1.size := Nat.le_trans Z0 E1.1
  have ge_ca : n0 ≤ ca := Nat.le_trans F3 (Nat.le_of_eq g2.symm)
  have F4 : Keep h0 h1 [] := (Keep.refl h0 []).ext E1
  have sz_ca : h0.size ≤ ca := Nat.le_trans F4.1 (Nat.le_of_eq g2.symm)
  have ne_st_ca : st ≠ ca := Nat.ne_of_lt (Nat.lt_of_lt_of_le A1.lt (Nat.le_of_eq g2.symm))
  have F5 : Arv Z h1 ta kt .char (6 : Int32) [(.int t0), (.int t1), (.int t2), (.int t3), (.int t4), (.int t5)] (.int 0) := V_ta.ext E1
  have ne_ta_ca : ta ≠ ca := Nat.ne_of_lt (Nat.lt_of_lt_of_le F5.lt (Nat.le_of_eq g2.symm))
  obtain ⟨T2, h2, k2, X2, e2, E2, A2, Ea2, st2⟩ := newPE X1 hx hZ (ow hw 0 rfl) e1 (g := (mkF m 47 #[rv ta, iv 2] [(.int 2), (.ref st), (.ref st)])) rfl (hb hby d1_47) rfl (by decide) (cap := 2) (by decide) (by decide) (by decide) (by decide) (ad := "[C") rfl
  rw [← g2] at A2 Ea2 st2
  have V_ca : Arv Z h2 ca k2 .char (2 : Int32) [(.int 0), (.int 0)] (.int 0) := (Arv.new A2 (by decide)).pad (pad_rep [] (.int 0) 2)
  refine Go.by st2 ?_
  show Go _ _ _ _ T2 (mkF m 49 #[rv ta, iv 2] [(.ref ca), (.ref st), (.ref st)])
  refine Go.dup 50 X2 hx (hb hby d1_49) rfl rfl ?_
  refine Go.iconst 51 X2 hx (0 : Int32) (hb hby d1_50) (by decide) rfl ?_
  refine Go.aload1 52 X2 hx (hb hby d1_51) rfl rfl rfl ?_
  refine Go.iconst 53 X2 hx (0 : Int32) (hb hby d1_52) (by decide) rfl ?_
  have F6 : Arv Z h2 ta kt .char (6 : Int32) [(.int t0), (.int t1), (.int t2), (.int t3), (.int t4), (.int t5)] (.int 0) := F5.ext E2
  obtain ⟨cl7, Ar7, -, S7, M7, H7, -⟩ := id F6
  have hin7 : ¬ ((0 : Int32) < 0 ∨ cl7.slots.size ≤ (0 : Int32).toNatClampNeg) := inb_of S7 ⟨by decide, by decide⟩
  refine Go.by (fun _ gk => X2.caload hx (j := (0 : Int32)) (v := (.int t0)) (by rw [e2]; exact Ar7.1) (State.isArrayOf_alike hZ.alike Ar7.2.1) Ar7.2.2 hin7 (Has.at H7 hin7 rfl) (g := (mkF m 53 #[rv ta, iv 2] [(.int 0), (.ref ta), (.int 0), (.ref ca), (.ref ca), (.ref st), (.ref st)])) rfl rfl (hb hby d1_53) _ gk) ?_
  show Go _ _ _ _ T2 (mkF m 54 #[rv ta, iv 2] [(.int t0), (.int 0), (.ref ca), (.ref ca), (.ref st), (.ref st)])
  obtain ⟨cl8, Ar8, q8, S8, M8, H8, G8⟩ := id V_ca
  have hin8 : ¬ ((0 : Int32) < 0 ∨ cl8.slots.size ≤ (0 : Int32).toNatClampNeg) := inb_of S8 ⟨by decide, by decide⟩
  obtain ⟨T8, h8, X8, e8, W8, st8⟩ := stC X2 hx hZ e2 Ar8 (j := (0 : Int32)) hin8 (g := (mkF m 54 #[rv ta, iv 2] [(.int t0), (.int 0), (.ref ca), (.ref ca), (.ref st), (.ref st)])) rfl rfl (hb hby d1_54)
  have N8 := Fr.snoc X8 N0 ge_ca
  have V8 : Arv Z h8 ca k2 .char (2 : Int32) [(.int (nar .char t0)), (.int 0)] (.int 0) := Arv.set Ar8 q8 S8 M8 H8 G8 (fits_nar_char _) W8 0 rfl (Nat.le_of_ble_eq_true rfl)
  refine Go.by st8 ?_
  show Go _ _ _ _ T8 (mkF m 55 #[rv ta, iv 2] [(.ref ca), (.ref st), (.ref st)])
  rw [own_ncb (t := t0) hb0.1 hb0.2] at V8
  refine Go.dup 56 X8 hx (hb hby d1_55) rfl rfl ?_
  refine Go.iconst 57 X8 hx (1 : Int32) (hb hby d1_56) (by decide) rfl ?_
  refine Go.aload1 58 X8 hx (hb hby d1_57) rfl rfl rfl ?_
  refine Go.iconst 59 X8 hx (1 : Int32) (hb hby d1_58) (by decide) rfl ?_
  have F9 : Arv Z h8 ta kt .char (6 : Int32) [(.int t0), (.int t1), (.int t2), (.int t3), (.int t4), (.int t5)] (.int 0) := F6.other W8 ne_ta_ca
  obtain ⟨cl10, Ar10, -, S10, M10, H10, -⟩ := id F9
  have hin10 : ¬ ((1 : Int32) < 0 ∨ cl10.slots.size ≤ (1 : Int32).toNatClampNeg) := inb_of S10 ⟨by decide, by decide⟩
  refine Go.by (fun _ gk => X8.caload hx (j := (1 : Int32)) (v := (.int t1)) (by rw [e8]; exact Ar10.1) (State.isArrayOf_alike hZ.alike Ar10.2.1) Ar10.2.2 hin10 (Has.at H10 hin10 rfl) (g := (mkF m 59 #[rv ta, iv 2] [(.int 1), (.ref ta), (.int 1), (.ref ca), (.ref ca), (.ref st), (.ref st)])) rfl rfl (hb hby d1_59) _ gk) ?_
  show Go _ _ _ _ T8 (mkF m 60 #[rv ta, iv 2] [(.int t1), (.int 1), (.ref ca), (.ref ca), (.ref st), (.ref st)])
  obtain ⟨cl11, Ar11, q11, S11, M11, H11, G11⟩ := id V8
  have hin11 : ¬ ((1 : Int32) < 0 ∨ cl11.slots.size ≤ (1 : Int32).toNatClampNeg) := inb_of S11 ⟨by decide, by decide⟩
  obtain ⟨T11, h11, X11, e11, W11, st11⟩ := stC X8 hx hZ e8 Ar11 (j := (1 : Int32)) hin11 (g := (mkF m 60 #[rv ta, iv 2] [(.int t1), (.int 1), (.ref ca), (.ref ca), (.ref st), (.ref st)])) rfl rfl (hb hby d1_60)
  have N11 := Fr.snoc X11 N8 ge_ca
  have V11 : Arv Z h11 ca k2 .char (2 : Int32) [(.int t0), (.int (nar .char t1))] (.int 0) := Arv.set Ar11 q11 S11 M11 H11 G11 (fits_nar_char _) W11 1 rfl (Nat.le_of_ble_eq_true rfl)
  refine Go.by st11 ?_
  show Go _ _ _ _ T11 (mkF m 61 #[rv ta, iv 2] [(.ref ca), (.ref st), (.ref st)])
  rw [own_ncb (t := t1) hb1.1 hb1.2] at V11
  have F12 : Old Z n0 h1 := O0.ext E1
  have F13 : Old Z n0 h2 := F12.ext E2
  have F14 : Old Z n0 h8 := F13.wr W8 ge_ca
  have F15 : Old Z n0 h11 := F14.wr W11 ge_ca
  have F16 : Exa Z h2 st "java/lang/String" := A1.ext E2
  have F17 : Exa Z h8 st "java/lang/String" := F16.wr W8
  have F18 : Exa Z h11 st "java/lang/String" := F17.wr W11
  have F19 : Fld Z h2 st "java/lang/String" "value" "[B" .null := F_value_st.ext E2
  have F20 : Fld Z h8 st "java/lang/String" "value" "[B" .null := F19.other W8 (Or.inl ne_st_ca)
  have F21 : Fld Z h11 st "java/lang/String" "value" "[B" .null := F20.other W11 (Or.inl ne_st_ca)
  have F22 : Fld Z h2 st "java/lang/String" "coder" "B" (.int 0) := F_coder_st.ext E2
  have F23 : Fld Z h8 st "java/lang/String" "coder" "B" (.int 0) := F22.other W8 (Or.inl ne_st_ca)
  have F24 : Fld Z h11 st "java/lang/String" "coder" "B" (.int 0) := F23.other W11 (Or.inl ne_st_ca)
  have F25 : n0 ≤ h2.size := Nat.le_trans F3 E2.1
  have F26 : n0 ≤ h8.size := Nat.le_trans F25 (Nat.le_of_eq (Wr.size W8).symm)
  have F27 : n0 ≤ h11.size := Nat.le_trans F26 (Nat.le_of_eq (Wr.size W11).symm)
  have F28 : Keep h0 h2 [] := F4.ext E2
  have F29 : Keep h0 h8 [] := F28.wr W8 (Or.inr sz_ca)
  have F30 : Keep h0 h11 [] := F29.wr W11 (Or.inr sz_ca)
  have F31 : Exa Z h8 ca "[C" := Ea2.wr W8
  have F32 : Exa Z h11 ca "[C" := F31.wr W11
  have F33 : Arv Z h11 ta kt .char (6 : Int32) [(.int t0), (.int t1), (.int t2), (.int t3), (.int t4), (.int t5)] (.int 0) := F9.other W11 ne_ta_ca
  obtain ⟨_, _, ⟨T34, L34, k34, n34⟩, -, X34, ⟨Lc34, hQ34, l34, y34, z34⟩, st34⟩ := X11.specialBack hx (y := (⟨"java/lang/String", "<init>", "([C)V"⟩ : MethodName)) rfl hown (mvT hZ (ow hw 8 rfl)) (mvT hZ (ow hw 9 rfl)) (mvT hZ (ow hw 10 rfl)) (by decide) (backOf (W := 1) (rmS1_2 l Z a0 hw [] st ca k2 t0 t1 cs h11 n0 F27 F15 F18 F21 F24 ge_st V11 hb0.2 hb1.2 S_cs n_cs) hZ (ow hw 10 rfl) (ow hw 7 rfl) (by decide) (by decide)) (g := (mkF m 61 #[rv ta, iv 2] [(.ref ca), (.ref st), (.ref st)])) rfl (by rw [hml]; rfl) (Steps.refl _) (a := st) (argsL := [(.ref ca)]) (rest := [(.ref st)]) (lenOf pd_34 rfl) rfl (by show 2 * 0 + _ ≤ _; exact Nat.le_of_eq rfl) (hb hby d1_61) (fun _ _ => ⟨rfl, e11, (by decide : 2 + 1 ≤ _), (by decide : 6 + 2 ≤ _)⟩)
  dsimp only [Pt.U, Pt.locs, Pt.cells, Pt.slots] at X34 l34 y34 z34 st34 hQ34
  subst l34 y34 z34
  obtain ⟨sb, kb, rfl, N34q, K34, Q34_0, Q34_1, Q34_2, Q34_3, Q34_4⟩ := hQ34
  have N34 := Fr.app N11 N34q
  refine Go.to st34 ?_
  show Go _ _ _ _ T34 (mkF m 64 #[rv ta, iv 2] [(.ref st)])
  have ge_sb : n0 ≤ sb := Nat.le_trans F27 Q34_4
  have sz_sb : h0.size ≤ sb := Nat.le_trans F30.1 Q34_4
  have ne_ca_sb : ca ≠ sb := Nat.ne_of_lt (Nat.lt_of_lt_of_le V11.lt Q34_4)
  have ne_st_sb : st ≠ sb := Nat.ne_of_lt (Nat.lt_of_lt_of_le F18.lt Q34_4)
  have ne_ta_sb : ta ≠ sb := Nat.ne_of_lt (Nat.lt_of_lt_of_le F33.lt Q34_4)
  have F35 : Keep h0 T34.heap [] := F30.trans K34 (allS (Or.inr sz_st) all0)
  exact Go.retA X34 hx Bd.notSynchronized Bd.returns rfl rfl (hb hby d1_64) ⟨st, sb, kb, rfl, N34, F35, Q34_0, Q34_1, Q34_2, Q34_3, sz_st⟩ (by decide) (by decide)
def Q_rmC5_3 (Z : State) (va : Addr) (da : Addr) (kv : ClassId) (kd : ClassId) (c0 : Int32) (c1 : Int32) (c2 : Int32) (h0 : Heap) (n0 : Nat) (v : Option Value) (h : Heap) (L : List Loc) : Prop := v = some (.int 3) ∧ Fr n0 L ∧ Keep h0 h [da] ∧ Arv Z h da kd .byte (3 : Int32) ([(.int (own_b c0)), (.int (own_b c1)), (.int (own_b c2))]) (.int 0)
set_option maxRecDepth 65536 in
set_option maxHeartbeats 40000000 in
theorem rmC5_3 (l : Launch) (Z : State) (a0 : Array Value) (hw : ∀ d ∈ tables_1, d.before a0 Z = true) (ws : List Jvm.Cond) (va : Addr) (da : Addr) (kv : ClassId) (kd : ClassId) (c0 : Int32) (c1 : Int32) (c2 : Int32) (h0 : Heap) (n0 : Nat) (Z0 : n0 ≤ h0.size) (V_va : Arv Z h0 va kv .char (3 : Int32) ([(.int c0), (.int c1), (.int c2)]) (.int 0)) (V_da : Arv Z h0 da kd .byte (3 : Int32) ([(.int 0), (.int 0), (.int 0)]) (.int 0)) (g_da : n0 ≤ da) (ne_va_da : va ≠ da) (hc0 : (¬ (255 : Int32) < c0)) (hc1 : (¬ (255 : Int32) < c1)) (hc2 : (¬ (255 : Int32) < c2)) :
    MetFree l (⟨"java/lang/StringUTF16", "compress", "([CI[BII)I"⟩ : MethodName) (head1 (Jvm.Cond.code (⟨"java/lang/StringUTF16", "compress", "([CI[BII)I"⟩ : MethodName) jdk_52_method_21_code 7 (some .int) :: ws) ({ frames := 0, cells := 0, slots := 0, locals := 0 } : Room)) (fun as' U => as' = #[(.ref va), (.int 0), (.ref da), (.int 0), (.int 3)] ∧ Z.Warmed39 U.vm ∧ U.heap = h0) (fun _ _ _ _ _ => True) (fun _ U o U' => ∃ v L, o = .returned v ∧ Q_rmC5_3 Z va da kv kd c0 c1 c2 h0 n0 v U'.heap L ∧ FrameEnd U o U' L ({ frames := 0, cells := 0, slots := 0, locals := 0 } : Room).cells ({ frames := 0, cells := 0, slots := 0, locals := 0 } : Room).slots) := by
  refine MetFree.of_bodySF (plainFor_of_name pn_37) hisR ?_
  intro p e s m args below meth c s₁ Bd hml0 hP hK
  obtain ⟨rfl, hZ, hh⟩ := hP
  have hx := Bd.exec
  have hby := Bd.bytes
  have hml : c.maxLocals = 7 := hml0
  have hown : s.vm.findClass "java/lang/StringUTF16" = some m.cls := findClass_of_methodNamed Bd.named
  have hnm := (name_of_methodNamed Bd.named Bd.method).1
  have X0 : Stand p l e ({ frames := 0, cells := 0, slots := 0, locals := 0 } : Room) s m #[(.ref va), (.int 0), (.ref da), (.int 0), (.int 3)] below meth c s₁ [] 0 0 := Stand.of_body Bd
  have e0 : s₁.heap = h0 := by rw [← hh, Bd.state]; rfl
  have N0 := Fr.nil n0
  refine Go.enter (F := EndN s (Q_rmC5_3 Z va da kv kd c0 c1 c2 h0 n0) ({ frames := 0, cells := 0, slots := 0, locals := 0 } : Room).cells ({ frames := 0, cells := 0, slots := 0, locals := 0 } : Room).slots) (ef_38 m va (0 : Int32) da (0 : Int32) (3 : Int32)) ?_
  show Go _ _ _ _ s₁ (mkF m 0 #[rv va, iv 0, rv da, iv 0, iv 3, un, un] [])
  refine Go.iconst 1 X0 hx (0 : Int32) (hb hby d9_0) (by decide) rfl ?_
  refine Go.istore2 3 X0 hx (L' := #[rv va, iv 0, rv da, iv 0, iv 3, iv 0, un]) (hb hby d9_1) rfl rfl ?_
  refine Go.iload2 5 X0 hx (hb hby d9_3) rfl rfl ?_
  refine Go.iload2 7 X0 hx (hb hby d9_5) rfl rfl ?_
  refine Go.icmpN 10 X0 hx (hb hby d9_7) (XT.ii_ge_f (by decide)) rfl ?_
  refine Go.aload1 11 X0 hx (hb hby d9_10) rfl rfl rfl ?_
  refine Go.iload1 12 X0 hx (hb hby d9_11) rfl rfl ?_
  obtain ⟨cl1, Ar1, -, S1, M1, H1, -⟩ := id V_va
  have hin1 : ¬ ((0 : Int32) < 0 ∨ cl1.slots.size ≤ (0 : Int32).toNatClampNeg) := inb_of S1 ⟨by decide, by decide⟩
  refine Go.by (fun _ gk => X0.caload hx (j := (0 : Int32)) (v := (.int c0)) (by rw [e0]; exact Ar1.1) (State.isArrayOf_alike hZ.alike Ar1.2.1) Ar1.2.2 hin1 (Has.at H1 hin1 rfl) (g := (mkF m 12 #[rv va, iv 0, rv da, iv 0, iv 3, iv 0, un] [(.int 0), (.ref va)])) rfl rfl (hb hby d9_12) _ gk) ?_
  show Go _ _ _ _ s₁ (mkF m 13 #[rv va, iv 0, rv da, iv 0, iv 3, iv 0, un] [(.int c0)])
  refine Go.istore2 15 X0 hx (L' := #[rv va, iv 0, rv da, iv 0, iv 3, iv 0, iv c0]) (hb hby d9_13) rfl rfl ?_
  refine Go.iload2 17 X0 hx (hb hby d9_15) rfl rfl ?_
  refine Go.sipush 20 X0 hx (255 : Int32) (hb hby d9_17) (by decide) rfl ?_
  refine Go.icmpY 26 X0 hx (hb hby d9_20) (XT.ii_le_t hc0) (by decide) (by decide) ?_
  refine Go.aload1 27 X0 hx (hb hby d9_26) rfl rfl rfl ?_
  refine Go.iload1 28 X0 hx (hb hby d9_27) rfl rfl ?_
  refine Go.iload2 30 X0 hx (hb hby d9_28) rfl rfl ?_
  refine Go.i2b 31 X0 hx (hb hby d9_30) rfl ?_
  obtain ⟨cl2, Ar2, q2, S2, M2, H2, G2⟩ := id V_da
  have hin2 : ¬ ((0 : Int32) < 0 ∨ cl2.slots.size ≤ (0 : Int32).toNatClampNeg) := inb_of S2 ⟨by decide, by decide⟩
  obtain ⟨T2, h2, X2, e2, W2, st2⟩ := stB X0 hx hZ e0 Ar2 (j := (0 : Int32)) hin2 (g := (mkF m 31 #[rv va, iv 0, rv da, iv 0, iv 3, iv 0, iv c0] [(.int (c0.toInt8.toInt32)), (.int 0), (.ref da)])) rfl rfl (hb hby d9_31)
  have N2 := Fr.snoc X2 N0 g_da
  have V2 : Arv Z h2 da kd .byte (3 : Int32) [(.int (nar .byte (c0.toInt8.toInt32))), (.int 0), (.int 0)] (.int 0) := Arv.set Ar2 q2 S2 M2 H2 G2 (fits_nar_byte _) W2 0 rfl (Nat.le_of_ble_eq_true rfl)
  refine Go.by st2 ?_
  show Go _ _ _ _ T2 (mkF m 32 #[rv va, iv 0, rv da, iv 0, iv 3, iv 0, iv c0] [])
  rw [own_bn] at V2
  refine Go.iinc 35 X2 hx (1 : Int32) (L' := #[rv va, iv 1, rv da, iv 0, iv 3, iv 0, iv c0]) (hb hby d9_32) (by decide) rfl rfl rfl ?_
  refine Go.iinc 38 X2 hx (1 : Int32) (L' := #[rv va, iv 1, rv da, iv 1, iv 3, iv 0, iv c0]) (hb hby d9_35) (by decide) rfl rfl rfl ?_
  refine Go.iinc 41 X2 hx (1 : Int32) (L' := #[rv va, iv 1, rv da, iv 1, iv 3, iv 1, iv c0]) (hb hby d9_38) (by decide) rfl rfl rfl ?_
  refine Go.goto 3 X2 hx (hb hby d9_41) (by decide) (by decide) ?_
  refine Go.iload2 5 X2 hx (hb hby d9_3) rfl rfl ?_
  refine Go.iload2 7 X2 hx (hb hby d9_5) rfl rfl ?_
  refine Go.icmpN 10 X2 hx (hb hby d9_7) (XT.ii_ge_f (by decide)) rfl ?_
  refine Go.aload1 11 X2 hx (hb hby d9_10) rfl rfl rfl ?_
  refine Go.iload1 12 X2 hx (hb hby d9_11) rfl rfl ?_
  have F3 : Arv Z h2 va kv .char (3 : Int32) [(.int c0), (.int c1), (.int c2)] (.int 0) := V_va.other W2 ne_va_da
  obtain ⟨cl4, Ar4, -, S4, M4, H4, -⟩ := id F3
  have hin4 : ¬ ((1 : Int32) < 0 ∨ cl4.slots.size ≤ (1 : Int32).toNatClampNeg) := inb_of S4 ⟨by decide, by decide⟩
  refine Go.by (fun _ gk => X2.caload hx (j := (1 : Int32)) (v := (.int c1)) (by rw [e2]; exact Ar4.1) (State.isArrayOf_alike hZ.alike Ar4.2.1) Ar4.2.2 hin4 (Has.at H4 hin4 rfl) (g := (mkF m 12 #[rv va, iv 1, rv da, iv 1, iv 3, iv 1, iv c0] [(.int 1), (.ref va)])) rfl rfl (hb hby d9_12) _ gk) ?_
  show Go _ _ _ _ T2 (mkF m 13 #[rv va, iv 1, rv da, iv 1, iv 3, iv 1, iv c0] [(.int c1)])
  refine Go.istore2 15 X2 hx (L' := #[rv va, iv 1, rv da, iv 1, iv 3, iv 1, iv c1]) (hb hby d9_13) rfl rfl ?_
  refine Go.iload2 17 X2 hx (hb hby d9_15) rfl rfl ?_
  refine Go.sipush 20 X2 hx (255 : Int32) (hb hby d9_17) (by decide) rfl ?_
  refine Go.icmpY 26 X2 hx (hb hby d9_20) (XT.ii_le_t hc1) (by decide) (by decide) ?_
  refine Go.aload1 27 X2 hx (hb hby d9_26) rfl rfl rfl ?_
  refine Go.iload1 28 X2 hx (hb hby d9_27) rfl rfl ?_
  refine Go.iload2 30 X2 hx (hb hby d9_28) rfl rfl ?_
  refine Go.i2b 31 X2 hx (hb hby d9_30) rfl ?_
  obtain ⟨cl5, Ar5, q5, S5, M5, H5, G5⟩ := id V2
  have hin5 : ¬ ((1 : Int32) < 0 ∨ cl5.slots.size ≤ (1 : Int32).toNatClampNeg) := inb_of S5 ⟨by decide, by decide⟩
  obtain ⟨T5, h5, X5, e5, W5, st5⟩ := stB X2 hx hZ e2 Ar5 (j := (1 : Int32)) hin5 (g := (mkF m 31 #[rv va, iv 1, rv da, iv 1, iv 3, iv 1, iv c1] [(.int (c1.toInt8.toInt32)), (.int 1), (.ref da)])) rfl rfl (hb hby d9_31)
  have N5 := Fr.snoc X5 N2 g_da
  have V5 : Arv Z h5 da kd .byte (3 : Int32) [(.int (own_b c0)), (.int (nar .byte (c1.toInt8.toInt32))), (.int 0)] (.int 0) := Arv.set Ar5 q5 S5 M5 H5 G5 (fits_nar_byte _) W5 1 rfl (Nat.le_of_ble_eq_true rfl)
  refine Go.by st5 ?_
  show Go _ _ _ _ T5 (mkF m 32 #[rv va, iv 1, rv da, iv 1, iv 3, iv 1, iv c1] [])
  rw [own_bn] at V5
  refine Go.iinc 35 X5 hx (1 : Int32) (L' := #[rv va, iv 2, rv da, iv 1, iv 3, iv 1, iv c1]) (hb hby d9_32) (by decide) rfl rfl rfl ?_
  refine Go.iinc 38 X5 hx (1 : Int32) (L' := #[rv va, iv 2, rv da, iv 2, iv 3, iv 1, iv c1]) (hb hby d9_35) (by decide) rfl rfl rfl ?_
  refine Go.iinc 41 X5 hx (1 : Int32) (L' := #[rv va, iv 2, rv da, iv 2, iv 3, iv 2, iv c1]) (hb hby d9_38) (by decide) rfl rfl rfl ?_
  refine Go.goto 3 X5 hx (hb hby d9_41) (by decide) (by decide) ?_
  refine Go.iload2 5 X5 hx (hb hby d9_3) rfl rfl ?_
  refine Go.iload2 7 X5 hx (hb hby d9_5) rfl rfl ?_
  refine Go.icmpN 10 X5 hx (hb hby d9_7) (XT.ii_ge_f (by decide)) rfl ?_
  refine Go.aload1 11 X5 hx (hb hby d9_10) rfl rfl rfl ?_
  refine Go.iload1 12 X5 hx (hb hby d9_11) rfl rfl ?_
  have F6 : Arv Z h5 va kv .char (3 : Int32) [(.int c0), (.int c1), (.int c2)] (.int 0) := F3.other W5 ne_va_da
  obtain ⟨cl7, Ar7, -, S7, M7, H7, -⟩ := id F6
  have hin7 : ¬ ((2 : Int32) < 0 ∨ cl7.slots.size ≤ (2 : Int32).toNatClampNeg) := inb_of S7 ⟨by decide, by decide⟩
  refine Go.by (fun _ gk => X5.caload hx (j := (2 : Int32)) (v := (.int c2)) (by rw [e5]; exact Ar7.1) (State.isArrayOf_alike hZ.alike Ar7.2.1) Ar7.2.2 hin7 (Has.at H7 hin7 rfl) (g := (mkF m 12 #[rv va, iv 2, rv da, iv 2, iv 3, iv 2, iv c1] [(.int 2), (.ref va)])) rfl rfl (hb hby d9_12) _ gk) ?_
  show Go _ _ _ _ T5 (mkF m 13 #[rv va, iv 2, rv da, iv 2, iv 3, iv 2, iv c1] [(.int c2)])
  refine Go.istore2 15 X5 hx (L' := #[rv va, iv 2, rv da, iv 2, iv 3, iv 2, iv c2]) (hb hby d9_13) rfl rfl ?_
  refine Go.iload2 17 X5 hx (hb hby d9_15) rfl rfl ?_
  refine Go.sipush 20 X5 hx (255 : Int32) (hb hby d9_17) (by decide) rfl ?_
  refine Go.icmpY 26 X5 hx (hb hby d9_20) (XT.ii_le_t hc2) (by decide) (by decide) ?_
  refine Go.aload1 27 X5 hx (hb hby d9_26) rfl rfl rfl ?_
  refine Go.iload1 28 X5 hx (hb hby d9_27) rfl rfl ?_
  refine Go.iload2 30 X5 hx (hb hby d9_28) rfl rfl ?_
  refine Go.i2b 31 X5 hx (hb hby d9_30) rfl ?_
  obtain ⟨cl8, Ar8, q8, S8, M8, H8, G8⟩ := id V5
  have hin8 : ¬ ((2 : Int32) < 0 ∨ cl8.slots.size ≤ (2 : Int32).toNatClampNeg) := inb_of S8 ⟨by decide, by decide⟩
  obtain ⟨T8, h8, X8, e8, W8, st8⟩ := stB X5 hx hZ e5 Ar8 (j := (2 : Int32)) hin8 (g := (mkF m 31 #[rv va, iv 2, rv da, iv 2, iv 3, iv 2, iv c2] [(.int (c2.toInt8.toInt32)), (.int 2), (.ref da)])) rfl rfl (hb hby d9_31)
  have N8 := Fr.snoc X8 N5 g_da
  have V8 : Arv Z h8 da kd .byte (3 : Int32) [(.int (own_b c0)), (.int (own_b c1)), (.int (nar .byte (c2.toInt8.toInt32)))] (.int 0) := Arv.set Ar8 q8 S8 M8 H8 G8 (fits_nar_byte _) W8 2 rfl (Nat.le_of_ble_eq_true rfl)
  refine Go.by st8 ?_
  show Go _ _ _ _ T8 (mkF m 32 #[rv va, iv 2, rv da, iv 2, iv 3, iv 2, iv c2] [])
  rw [own_bn] at V8
  refine Go.iinc 35 X8 hx (1 : Int32) (L' := #[rv va, iv 3, rv da, iv 2, iv 3, iv 2, iv c2]) (hb hby d9_32) (by decide) rfl rfl rfl ?_
  refine Go.iinc 38 X8 hx (1 : Int32) (L' := #[rv va, iv 3, rv da, iv 3, iv 3, iv 2, iv c2]) (hb hby d9_35) (by decide) rfl rfl rfl ?_
  refine Go.iinc 41 X8 hx (1 : Int32) (L' := #[rv va, iv 3, rv da, iv 3, iv 3, iv 3, iv c2]) (hb hby d9_38) (by decide) rfl rfl rfl ?_
  refine Go.goto 3 X8 hx (hb hby d9_41) (by decide) (by decide) ?_
  refine Go.iload2 5 X8 hx (hb hby d9_3) rfl rfl ?_
  refine Go.iload2 7 X8 hx (hb hby d9_5) rfl rfl ?_
  refine Go.icmpY 44 X8 hx (hb hby d9_7) (XT.ii_ge_t (by decide)) (by decide) (by decide) ?_
  refine Go.iload2 46 X8 hx (hb hby d9_44) rfl rfl ?_
  have F9 : Keep h0 h2 [da] := (Keep.refl h0 [da]).wr W2 (Or.inl (List.mem_of_getElem? (i := 0) rfl))
  have F10 : Keep h0 h5 [da] := F9.wr W5 (Or.inl (List.mem_of_getElem? (i := 0) rfl))
  have F11 : Keep h0 h8 [da] := F10.wr W8 (Or.inl (List.mem_of_getElem? (i := 0) rfl))
  exact Go.retI X8 hx Bd.notSynchronized Bd.returns rfl (by simp) (hb hby d9_46) (by rw [e8]; exact ⟨rfl, N8, F11, V8⟩) (by decide) (by decide)
def Q_rmC3_3 (Z : State) (va : Addr) (kv : ClassId) (c0 : Int32) (c1 : Int32) (c2 : Int32) (h0 : Heap) (n0 : Nat) (v : Option Value) (h : Heap) (L : List Loc) : Prop := ∃ da : Addr, ∃ kd : ClassId, v = some (.ref da) ∧ Fr n0 L ∧ Keep h0 h [] ∧ Arv Z h da kd .byte (3 : Int32) ([(.int (own_b c0)), (.int (own_b c1)), (.int (own_b c2))]) (.int 0) ∧ h0.size ≤ da
set_option maxRecDepth 65536 in
set_option maxHeartbeats 40000000 in
theorem rmC3_3 (l : Launch) (Z : State) (a0 : Array Value) (hw : ∀ d ∈ tables_1, d.before a0 Z = true) (ws : List Jvm.Cond) (va : Addr) (kv : ClassId) (c0 : Int32) (c1 : Int32) (c2 : Int32) (h0 : Heap) (n0 : Nat) (Z0 : n0 ≤ h0.size) (V_va : Arv Z h0 va kv .char (3 : Int32) ([(.int c0), (.int c1), (.int c2)]) (.int 0)) (hc0 : (¬ (255 : Int32) < c0)) (hc1 : (¬ (255 : Int32) < c1)) (hc2 : (¬ (255 : Int32) < c2)) :
    MetFree l (⟨"java/lang/StringUTF16", "compress", "([CII)[B"⟩ : MethodName) (head1 (Jvm.Cond.code (⟨"java/lang/StringUTF16", "compress", "([CII)[B"⟩ : MethodName) jdk_52_method_16_code 6 (some (.array .byte)) :: ws) ({ frames := 1, cells := 1, slots := 3, locals := 18 } : Room)) (fun as' U => as' = #[(.ref va), (.int 0), (.int 3)] ∧ Z.Warmed39 U.vm ∧ U.heap = h0) (fun _ _ _ _ _ => True) (fun _ U o U' => ∃ v L, o = .returned v ∧ Q_rmC3_3 Z va kv c0 c1 c2 h0 n0 v U'.heap L ∧ FrameEnd U o U' L ({ frames := 1, cells := 1, slots := 3, locals := 18 } : Room).cells ({ frames := 1, cells := 1, slots := 3, locals := 18 } : Room).slots) := by
  refine MetFree.of_bodySF (plainFor_of_name pn_37) hisR ?_
  intro p e s m args below meth c s₁ Bd hml0 hP hK
  obtain ⟨rfl, hZ, hh⟩ := hP
  have hx := Bd.exec
  have hby := Bd.bytes
  have hml : c.maxLocals = 6 := hml0
  have hown : s.vm.findClass "java/lang/StringUTF16" = some m.cls := findClass_of_methodNamed Bd.named
  have hnm := (name_of_methodNamed Bd.named Bd.method).1
  have X0 : Stand p l e ({ frames := 1, cells := 1, slots := 3, locals := 18 } : Room) s m #[(.ref va), (.int 0), (.int 3)] below meth c s₁ [] 0 0 := Stand.of_body Bd
  have e0 : s₁.heap = h0 := by rw [← hh, Bd.state]; rfl
  have N0 := Fr.nil n0
  refine Go.enter (F := EndN s (Q_rmC3_3 Z va kv c0 c1 c2 h0 n0) ({ frames := 1, cells := 1, slots := 3, locals := 18 } : Room).cells ({ frames := 1, cells := 1, slots := 3, locals := 18 } : Room).slots) (ef_62 m va (0 : Int32) (3 : Int32)) ?_
  show Go _ _ _ _ s₁ (mkF m 0 #[rv va, iv 0, iv 3, un, un, un] [])
  refine Go.iload1 1 X0 hx (hb hby d8_0) rfl rfl ?_
  obtain ⟨da, g1⟩ : ∃ z, z = h0.size := ⟨_, rfl⟩
  have ge_da : n0 ≤ da := Nat.le_trans Z0 (Nat.le_of_eq g1.symm)
  have sz_da : h0.size ≤ da := Nat.le_trans (Keep.refl h0 []).1 (Nat.le_of_eq g1.symm)
  have ne_va_da : va ≠ da := Nat.ne_of_lt (Nat.lt_of_lt_of_le V_va.lt (Nat.le_of_eq g1.symm))
  obtain ⟨T1, h1, k1, X1, e1, E1, A1, Ea1, st1⟩ := newPE X0 hx hZ (ow hw 19 rfl) e0 (g := (mkF m 1 #[rv va, iv 0, iv 3, un, un, un] [(.int 3)])) rfl (hb hby d8_1) rfl (by decide) (cap := 3) (by decide) (by decide) (by decide) (by decide) (ad := "[B") rfl
  rw [← g1] at A1 Ea1 st1
  have V_da : Arv Z h1 da k1 .byte (3 : Int32) [(.int 0), (.int 0), (.int 0)] (.int 0) := (Arv.new A1 (by decide)).pad (pad_rep [] (.int 0) 3)
  refine Go.by st1 ?_
  show Go _ _ _ _ T1 (mkF m 3 #[rv va, iv 0, iv 3, un, un, un] [(.ref da)])
  refine Go.astore1 4 X1 hx (L' := #[rv va, iv 0, iv 3, rv da, un, un]) (hb hby d8_3) rfl rfl rfl ?_
  refine Go.aload1 5 X1 hx (hb hby d8_4) rfl rfl rfl ?_
  refine Go.iload1 6 X1 hx (hb hby d8_5) rfl rfl ?_
  refine Go.aload1 7 X1 hx (hb hby d8_6) rfl rfl rfl ?_
  refine Go.iconst 8 X1 hx (0 : Int32) (hb hby d8_7) (by decide) rfl ?_
  refine Go.iload1 9 X1 hx (hb hby d8_8) rfl rfl ?_
  have F2 : Arv Z h1 va kv .char (3 : Int32) [(.int c0), (.int c1), (.int c2)] (.int 0) := V_va.ext E1
  have F3 : n0 ≤ h1.size := Nat.le_trans Z0 E1.1
  obtain ⟨_, _, ⟨T4, L4, k4, n4⟩, -, X4, ⟨Lc4, hQ4, l4, y4, z4⟩, st4⟩ := Jvm.LawKit.callS X1 hx (y := (⟨"java/lang/StringUTF16", "compress", "([CI[BII)I"⟩ : MethodName)) hown (mvT hZ (ow hw 49 rfl)) (mvT hZ (ow hw 50 rfl)) (mvT hZ (ow hw 47 rfl)) (mvT hZ (ow hw 51 rfl)) (by decide) (backOf (W := 0) (rmC5_3 l Z a0 hw [] va da kv k1 c0 c1 c2 h1 n0 F3 F2 V_da ge_da ne_va_da hc0 hc1 hc2) hZ (ow hw 51 rfl) (ow hw 47 rfl) (by decide) (by decide)) (g := (mkF m 9 #[rv va, iv 0, iv 3, rv da, un, un] [(.int 3), (.int 0), (.ref da), (.int 0), (.ref va)])) rfl (by rw [hml]; rfl) (argsL := [(.ref va), (.int 0), (.ref da), (.int 0), (.int 3)]) (rest := []) (lenOf pd_71 rfl) rfl (by show 2 * 0 + _ ≤ _; exact Nat.le_of_eq rfl) (hb hby d8_9) (fun _ _ => ⟨rfl, e1, (by decide : 1 + 0 ≤ _), (by decide : 3 + 0 ≤ _)⟩)
  dsimp only [Pt.U, Pt.locs, Pt.cells, Pt.slots] at X4 l4 y4 z4 st4 hQ4
  subst l4 y4 z4
  obtain ⟨rfl, N4q, K4, Q4_0⟩ := hQ4
  have N4 := Fr.app N0 N4q
  refine Go.by st4 ?_
  show Go _ _ _ _ T4 (mkF m 12 #[rv va, iv 0, iv 3, rv da, un, un] [(.int 3)])
  refine Go.istore2 14 X4 hx (L' := #[rv va, iv 0, iv 3, rv da, iv 3, un]) (hb hby d8_12) rfl rfl ?_
  refine Go.iload2 16 X4 hx (hb hby d8_14) rfl rfl ?_
  refine Go.iload1 17 X4 hx (hb hby d8_16) rfl rfl ?_
  refine Go.icmpY 57 X4 hx (hb hby d8_17) (XT.ii_eq_t rfl) (by decide) (by decide) ?_
  refine Go.aload1 58 X4 hx (hb hby d8_57) rfl rfl rfl ?_
  have F5 : Keep h0 h1 [] := (Keep.refl h0 []).ext E1
  have F6 : Keep h0 T4.heap [] := F5.trans K4 (allS (Or.inr sz_da) all0)
  exact Go.retA X4 hx Bd.notSynchronized Bd.returns rfl rfl (hb hby d8_58) ⟨da, k1, rfl, N4, F6, Q4_0, sz_da⟩ (by decide) (by decide)
def Q_rmCoder_3 (Z : State) (da : Addr) (kd : ClassId) (vs : List Value) (h0 : Heap) (n0 : Nat) (v : Option Value) (h : Heap) (L : List Loc) : Prop := v = some (.int 0) ∧ Fr n0 L ∧ h = h0
set_option maxRecDepth 65536 in
set_option maxHeartbeats 40000000 in
theorem rmCoder_3 (l : Launch) (Z : State) (a0 : Array Value) (hw : ∀ d ∈ tables_1, d.before a0 Z = true) (ws : List Jvm.Cond) (da : Addr) (kd : ClassId) (vs : List Value) (h0 : Heap) (n0 : Nat) (Z0 : n0 ≤ h0.size) (V_da : Arv Z h0 da kd .byte (3 : Int32) vs (.int 0)) :
    MetFree l (⟨"java/lang/StringUTF16", "coderFromArrayLen", "([BI)B"⟩ : MethodName) (head1 (Jvm.Cond.code (⟨"java/lang/StringUTF16", "coderFromArrayLen", "([BI)B"⟩ : MethodName) jdk_52_method_15_code 2 (some .byte) :: ws) ({ frames := 0, cells := 0, slots := 0, locals := 0 } : Room)) (fun as' U => as' = #[(.ref da), (.int 3)] ∧ Z.Warmed39 U.vm ∧ U.heap = h0) (fun _ _ _ _ _ => True) (fun _ U o U' => ∃ v L, o = .returned v ∧ Q_rmCoder_3 Z da kd vs h0 n0 v U'.heap L ∧ FrameEnd U o U' L ({ frames := 0, cells := 0, slots := 0, locals := 0 } : Room).cells ({ frames := 0, cells := 0, slots := 0, locals := 0 } : Room).slots) := by
  refine MetFree.of_bodySF (plainFor_of_name pn_37) hisR ?_
  intro p e s m args below meth c s₁ Bd hml0 hP hK
  obtain ⟨rfl, hZ, hh⟩ := hP
  have hx := Bd.exec
  have hby := Bd.bytes
  have hml : c.maxLocals = 2 := hml0
  have hown : s.vm.findClass "java/lang/StringUTF16" = some m.cls := findClass_of_methodNamed Bd.named
  have hnm := (name_of_methodNamed Bd.named Bd.method).1
  have X0 : Stand p l e ({ frames := 0, cells := 0, slots := 0, locals := 0 } : Room) s m #[(.ref da), (.int 3)] below meth c s₁ [] 0 0 := Stand.of_body Bd
  have e0 : s₁.heap = h0 := by rw [← hh, Bd.state]; rfl
  have N0 := Fr.nil n0
  refine Go.enter (F := EndN s (Q_rmCoder_3 Z da kd vs h0 n0) ({ frames := 0, cells := 0, slots := 0, locals := 0 } : Room).cells ({ frames := 0, cells := 0, slots := 0, locals := 0 } : Room).slots) (ef_27 m da (3 : Int32)) ?_
  show Go _ _ _ _ s₁ (mkF m 0 #[rv da, iv 3] [])
  refine Go.iload1 1 X0 hx (hb hby d10_0) rfl rfl ?_
  refine Go.aload1 2 X0 hx (hb hby d10_1) rfl rfl rfl ?_
  obtain ⟨cl1, Ar1, -, S1, M1, -, -⟩ := id V_da
  refine Go.by (fun _ gk => X0.arraylength hx (by rw [e0]; exact Ar1.1) (State.isArrayOf_alike hZ.alike Ar1.2.1) (g := (mkF m 2 #[rv da, iv 3] [(.ref da), (.int 3)])) rfl rfl (hb hby d10_2) _ gk) ?_
  rw [len_of S1 M1]
  show Go _ _ _ _ s₁ (mkF m 3 #[rv da, iv 3] [(.int 3), (.int 3)])
  refine Go.isub 4 X0 hx (hb hby d10_3) rfl ?_
  rw [(by decide : ((3 : Int32) - (3 : Int32)) = (0 : Int32))]
  refine Go.bipush 6 X0 hx (31 : Int32) (hb hby d10_4) (by decide) rfl ?_
  refine Go.iushr 7 X0 hx (hb hby d10_6) rfl ?_
  rw [(by decide : (XT.ushr (0 : Int32) (31 : Int32)) = (0 : Int32))]
  refine Go.i2b 8 X0 hx (hb hby d10_7) rfl ?_
  rw [(by decide : ((0 : Int32).toInt8.toInt32) = (0 : Int32))]
  exact Go.retI X0 hx Bd.notSynchronized Bd.returns rfl (by simp) (hb hby d10_8) (by rw [e0]; exact ⟨rfl, N0, rfl⟩) (by decide) (by decide)
def Q_rmS4_3 (Z : State) (a : Addr) (va : Addr) (kv : ClassId) (c0 : Int32) (c1 : Int32) (c2 : Int32) (cs : Int32) (h0 : Heap) (n0 : Nat) (v : Option Value) (h : Heap) (L : List Loc) : Prop := ∃ b : Addr, ∃ kb : ClassId, v = none ∧ Fr n0 L ∧ Keep h0 h [a] ∧ Exa Z h a "java/lang/String" ∧ Fld Z h a "java/lang/String" "coder" "B" (.int 0) ∧ Fld Z h a "java/lang/String" "value" "[B" (.ref b) ∧ Arv Z h b kb .byte (3 : Int32) ([(.int (own_b c0)), (.int (own_b c1)), (.int (own_b c2))]) (.int 0) ∧ h0.size ≤ b
set_option maxRecDepth 65536 in
set_option maxHeartbeats 40000000 in
theorem rmS4_3 (l : Launch) (Z : State) (a0 : Array Value) (hw : ∀ d ∈ tables_1, d.before a0 Z = true) (ws : List Jvm.Cond) (a : Addr) (va : Addr) (kv : ClassId) (c0 : Int32) (c1 : Int32) (c2 : Int32) (cs : Int32) (h0 : Heap) (n0 : Nat) (Z0 : n0 ≤ h0.size) (O0 : Old Z n0 h0) (E_a : Exa Z h0 a "java/lang/String") (F_a_value : Fld Z h0 a "java/lang/String" "value" "[B" .null) (F_a_coder : Fld Z h0 a "java/lang/String" "coder" "B" (.int 0)) (g_a : n0 ≤ a) (V_va : Arv Z h0 va kv .char (3 : Int32) ([(.int c0), (.int c1), (.int c2)]) (.int 0)) (hc0 : (¬ (255 : Int32) < c0)) (hc1 : (¬ (255 : Int32) < c1)) (hc2 : (¬ (255 : Int32) < c2)) (S_cs : Sta Z Z.heap "java/lang/String" "COMPACT_STRINGS" "Z" (.int cs)) (n_cs : ¬ cs = 0) :
    MetFree l (⟨"java/lang/String", "<init>", "([CIILjava/lang/Void;)V"⟩ : MethodName) (head1 (Jvm.Cond.code (⟨"java/lang/String", "<init>", "([CIILjava/lang/Void;)V"⟩ : MethodName) jdk_42_method_149_code 6 none :: ws) ({ frames := 2, cells := 1, slots := 3, locals := 35 } : Room)) (fun as' U => as' = #[(.ref a), (.ref va), (.int 0), (.int 3), .null] ∧ Z.Warmed39 U.vm ∧ U.heap = h0) (fun _ _ _ _ _ => True) (fun _ U o U' => ∃ v L, o = .returned v ∧ Q_rmS4_3 Z a va kv c0 c1 c2 cs h0 n0 v U'.heap L ∧ FrameEnd U o U' L ({ frames := 2, cells := 1, slots := 3, locals := 35 } : Room).cells ({ frames := 2, cells := 1, slots := 3, locals := 35 } : Room).slots) := by
  refine MetFree.of_bodySF (plainFor_of_name pn_1) hisR ?_
  intro p e s m args below meth c s₁ Bd hml0 hP hK
  obtain ⟨rfl, hZ, hh⟩ := hP
  have hx := Bd.exec
  have hby := Bd.bytes
  have hml : c.maxLocals = 6 := hml0
  have hown : s.vm.findClass "java/lang/String" = some m.cls := findClass_of_methodNamed Bd.named
  have hnm := (name_of_methodNamed Bd.named Bd.method).1
  have X0 : Stand p l e ({ frames := 2, cells := 1, slots := 3, locals := 35 } : Room) s m #[(.ref a), (.ref va), (.int 0), (.int 3), .null] below meth c s₁ [] 0 0 := Stand.of_body Bd
  have e0 : s₁.heap = h0 := by rw [← hh, Bd.state]; rfl
  have N0 := Fr.nil n0
  refine Go.enter (F := EndN s (Q_rmS4_3 Z a va kv c0 c1 c2 cs h0 n0) ({ frames := 2, cells := 1, slots := 3, locals := 35 } : Room).cells ({ frames := 2, cells := 1, slots := 3, locals := 35 } : Room).slots) (ef_2 m a va (0 : Int32) (3 : Int32)) ?_
  show Go _ _ _ _ s₁ (mkF m 0 #[rv a, rv va, iv 0, iv 3, .val .null, un] [])
  refine Go.aload1 1 X0 hx (hb hby d3_0) rfl rfl rfl ?_
  obtain ⟨T1, X1, e1, st1⟩ := initO X0 hx hZ hown (ow hw 15 rfl) (ow hw 16 rfl) (ow hw 17 rfl) e0 (g := (mkF m 1 #[rv a, rv va, iv 0, iv 3, .val .null, un] [(.ref a)])) rfl (by rw [hml]; rfl) rfl (hb hby d3_1) (by decide) (W := 0) (by show 2 * 0 + _ ≤ _; exact Nat.le_of_eq rfl) (by decide)
  refine Go.by st1 ?_
  show Go _ _ _ _ T1 (mkF m 4 #[rv a, rv va, iv 0, iv 3, .val .null, un] [])
  refine Go.iload1 5 X1 hx (hb hby d3_4) rfl rfl ?_
  refine Go.ifY 27 X1 hx (hb hby d3_5) (XT.i0_ne_t (by decide)) (by decide) (by decide) ?_
  have F2 : Sta Z h0 "java/lang/String" "COMPACT_STRINGS" "Z" (.int cs) := S_cs.ext O0.2
  obtain ⟨T3, X3, e3, st3⟩ := getS2 X1 hx hZ hown (host := "") (Or.inl (ow hw 37 rfl)) Via.refl e1 F2 (g := (mkF m 27 #[rv a, rv va, iv 0, iv 3, .val .null, un] [])) rfl (hb hby d3_27)
  refine Go.by st3 ?_
  show Go _ _ _ _ T3 (mkF m 30 #[rv a, rv va, iv 0, iv 3, .val .null, un] [(.int cs)])
  refine Go.ifN 33 X3 hx (hb hby d3_30) (XT.i0_eq_f n_cs) rfl ?_
  refine Go.aload1 34 X3 hx (hb hby d3_33) rfl rfl rfl ?_
  refine Go.iload1 35 X3 hx (hb hby d3_34) rfl rfl ?_
  refine Go.iload1 36 X3 hx (hb hby d3_35) rfl rfl ?_
  obtain ⟨_, _, ⟨T4, L4, k4, n4⟩, -, X4, ⟨Lc4, hQ4, l4, y4, z4⟩, st4⟩ := Jvm.LawKit.callS X3 hx (y := (⟨"java/lang/StringUTF16", "compress", "([CII)[B"⟩ : MethodName)) hown (mvT hZ (ow hw 45 rfl)) (mvT hZ (ow hw 46 rfl)) (mvT hZ (ow hw 47 rfl)) (mvT hZ (ow hw 48 rfl)) (by decide) (backOf (W := 0) (rmC3_3 l Z a0 hw [] va kv c0 c1 c2 h0 n0 Z0 V_va hc0 hc1 hc2) hZ (ow hw 48 rfl) (ow hw 47 rfl) (by decide) (by decide)) (g := (mkF m 36 #[rv a, rv va, iv 0, iv 3, .val .null, un] [(.int 3), (.int 0), (.ref va)])) rfl (by rw [hml]; rfl) (argsL := [(.ref va), (.int 0), (.int 3)]) (rest := []) (lenOf pd_92 rfl) rfl (by show 2 * 0 + _ ≤ _; exact Nat.le_of_eq rfl) (hb hby d3_36) (fun _ _ => ⟨rfl, e3, (by decide : 0 + 1 ≤ _), (by decide : 0 + 3 ≤ _)⟩)
  dsimp only [Pt.U, Pt.locs, Pt.cells, Pt.slots] at X4 l4 y4 z4 st4 hQ4
  subst l4 y4 z4
  obtain ⟨b, kb, rfl, N4q, K4, Q4_0, Q4_1⟩ := hQ4
  have N4 := Fr.app N0 N4q
  refine Go.by st4 ?_
  show Go _ _ _ _ T4 (mkF m 39 #[rv a, rv va, iv 0, iv 3, .val .null, un] [(.ref b)])
  have ge_b : n0 ≤ b := Nat.le_trans Z0 Q4_1
  have sz_b : h0.size ≤ b := Nat.le_trans (Keep.refl h0 [a]).1 Q4_1
  have ne_a_b : a ≠ b := Nat.ne_of_lt (Nat.lt_of_lt_of_le E_a.lt Q4_1)
  have ne_va_b : va ≠ b := Nat.ne_of_lt (Nat.lt_of_lt_of_le V_va.lt Q4_1)
  refine Go.astore2 41 X4 hx (L' := #[rv a, rv va, iv 0, iv 3, .val .null, rv b]) (hb hby d3_39) rfl rfl rfl ?_
  refine Go.aload1 42 X4 hx (hb hby d3_41) rfl rfl rfl ?_
  refine Go.aload2 44 X4 hx (hb hby d3_42) rfl rfl rfl ?_
  refine Go.iload1 45 X4 hx (hb hby d3_44) rfl rfl ?_
  have F5 : n0 ≤ T4.heap.size := Nat.le_trans Z0 K4.1
  obtain ⟨_, _, ⟨T6, L6, k6, n6⟩, -, X6, ⟨Lc6, hQ6, l6, y6, z6⟩, st6⟩ := Jvm.LawKit.callS X4 hx (y := (⟨"java/lang/StringUTF16", "coderFromArrayLen", "([BI)B"⟩ : MethodName)) hown (mvT hZ (ow hw 52 rfl)) (mvT hZ (ow hw 53 rfl)) (mvT hZ (ow hw 47 rfl)) (mvT hZ (ow hw 54 rfl)) (by decide) (backOf (W := 1) (rmCoder_3 l Z a0 hw [] b kb ([(.int (own_b c0)), (.int (own_b c1)), (.int (own_b c2))]) T4.heap n0 F5 Q4_0) hZ (ow hw 54 rfl) (ow hw 47 rfl) (by decide) (by decide)) (g := (mkF m 45 #[rv a, rv va, iv 0, iv 3, .val .null, rv b] [(.int 3), (.ref b), (.ref a)])) rfl (by rw [hml]; rfl) (argsL := [(.ref b), (.int 3)]) (rest := [(.ref a)]) (lenOf pd_98 rfl) rfl (by show 2 * 0 + _ ≤ _; exact Nat.le_of_eq rfl) (hb hby d3_45) (fun _ _ => ⟨rfl, rfl, (by decide : 1 + 0 ≤ _), (by decide : 3 + 0 ≤ _)⟩)
  dsimp only [Pt.U, Pt.locs, Pt.cells, Pt.slots] at X6 l6 y6 z6 st6 hQ6
  subst l6 y6 z6
  obtain ⟨rfl, N6q, e6⟩ := hQ6
  have N6 := Fr.app N4 N6q
  refine Go.by st6 ?_
  show Go _ _ _ _ T6 (mkF m 48 #[rv a, rv va, iv 0, iv 3, .val .null, rv b] [(.int 0), (.ref a)])
  have F7 : Fld Z T4.heap a "java/lang/String" "coder" "B" (.int 0) := F_a_coder.keep K4 nin0
  have F8 : Exa Z T4.heap a "java/lang/String" := E_a.keep K4
  obtain ⟨T9, h9, X9, e9, W9, st9⟩ := putFN X6 hx hZ hown (ow hw 25 rfl) Via.refl e6 F7 F8 (Or.inr ⟨(ow hw 21 rfl), rfl, hnm⟩) (ow hw 6 rfl) (ty := .byte) (v' := (.int 0)) (by decide) rfl rfl (g := (mkF m 48 #[rv a, rv va, iv 0, iv 3, .val .null, rv b] [(.int 0), (.ref a)])) rfl rfl (hb hby d3_48)
  have N9 := Fr.snoc X9 N6 g_a
  have Fw9 : Fld Z h9 a "java/lang/String" "coder" "B" (.int 0) := F7.same W9
  refine Go.by st9 ?_
  show Go _ _ _ _ T9 (mkF m 51 #[rv a, rv va, iv 0, iv 3, .val .null, rv b] [])
  refine Go.aload1 52 X9 hx (hb hby d3_51) rfl rfl rfl ?_
  refine Go.aload2 54 X9 hx (hb hby d3_52) rfl rfl rfl ?_
  have F10 : Fld Z T4.heap a "java/lang/String" "value" "[B" .null := F_a_value.keep K4 nin0
  have F11 : Fld Z h9 a "java/lang/String" "value" "[B" .null := F10.other W9 (Or.inr (slot_ne (Or.inr (ow hw 20 rfl)) (Or.inr (ow hw 21 rfl)) (by decide) (t := (.array .byte)) (t' := .byte) (by decide) (by decide)))
  have F12 : Exa Z h9 a "java/lang/String" := F8.wr W9
  obtain ⟨T13, h13, X13, e13, W13, st13⟩ := putF X9 hx hZ hown (host := "") (Or.inl (ow hw 24 rfl)) Via.refl e9 F11 F12 (Or.inr ⟨(ow hw 20 rfl), rfl, hnm⟩) (ow hw 6 rfl) (ty := (.array .byte)) (by decide) rfl rfl (g := (mkF m 54 #[rv a, rv va, iv 0, iv 3, .val .null, rv b] [(.ref b), (.ref a)])) rfl rfl (hb hby d3_54)
  have N13 := Fr.snoc X13 N9 g_a
  have Fw13 : Fld Z h13 a "java/lang/String" "value" "[B" (.ref b) := F11.same W13
  refine Go.by st13 ?_
  show Go _ _ _ _ T13 (mkF m 57 #[rv a, rv va, iv 0, iv 3, .val .null, rv b] [])
  have F14 : Keep h0 T4.heap [a] := (Keep.refl h0 [a]).trans K4 all0
  have F15 : Keep h0 h9 [a] := F14.wr W9 (Or.inl (List.mem_of_getElem? (i := 0) rfl))
  have F16 : Keep h0 h13 [a] := F15.wr W13 (Or.inl (List.mem_of_getElem? (i := 0) rfl))
  have F17 : Exa Z h13 a "java/lang/String" := F12.wr W13
  have F18 : Fld Z h13 a "java/lang/String" "coder" "B" (.int 0) := Fw9.other W13 (Or.inr (slot_ne (Or.inr (ow hw 21 rfl)) (Or.inr (ow hw 20 rfl)) (by decide) (t := .byte) (t' := (.array .byte)) (by decide) (by decide)))
  have F19 : Arv Z h9 b kb .byte (3 : Int32) [(.int (own_b c0)), (.int (own_b c1)), (.int (own_b c2))] (.int 0) := Q4_0.other W9 (Ne.symm ne_a_b)
  have F20 : Arv Z h13 b kb .byte (3 : Int32) [(.int (own_b c0)), (.int (own_b c1)), (.int (own_b c2))] (.int 0) := F19.other W13 (Ne.symm ne_a_b)
  exact Go.retV X13 hx Bd.notSynchronized Bd.returns (hb hby d3_57) (by rw [e13]; exact ⟨b, kb, rfl, N13, F16, F17, F18, Fw13, F20, sz_b⟩) (by decide) (by decide)
def Q_rmS1_3 (Z : State) (a : Addr) (va : Addr) (kv : ClassId) (c0 : Int32) (c1 : Int32) (c2 : Int32) (cs : Int32) (h0 : Heap) (n0 : Nat) (v : Option Value) (h : Heap) (L : List Loc) : Prop := ∃ b : Addr, ∃ kb : ClassId, v = none ∧ Fr n0 L ∧ Keep h0 h [a] ∧ Exa Z h a "java/lang/String" ∧ Fld Z h a "java/lang/String" "coder" "B" (.int 0) ∧ Fld Z h a "java/lang/String" "value" "[B" (.ref b) ∧ Arv Z h b kb .byte (3 : Int32) ([(.int (own_b c0)), (.int (own_b c1)), (.int (own_b c2))]) (.int 0) ∧ h0.size ≤ b
set_option maxRecDepth 65536 in
set_option maxHeartbeats 40000000 in
theorem rmS1_3 (l : Launch) (Z : State) (a0 : Array Value) (hw : ∀ d ∈ tables_1, d.before a0 Z = true) (ws : List Jvm.Cond) (a : Addr) (va : Addr) (kv : ClassId) (c0 : Int32) (c1 : Int32) (c2 : Int32) (cs : Int32) (h0 : Heap) (n0 : Nat) (Z0 : n0 ≤ h0.size) (O0 : Old Z n0 h0) (E_a : Exa Z h0 a "java/lang/String") (F_a_value : Fld Z h0 a "java/lang/String" "value" "[B" .null) (F_a_coder : Fld Z h0 a "java/lang/String" "coder" "B" (.int 0)) (g_a : n0 ≤ a) (V_va : Arv Z h0 va kv .char (3 : Int32) ([(.int c0), (.int c1), (.int c2)]) (.int 0)) (hc0 : (¬ (255 : Int32) < c0)) (hc1 : (¬ (255 : Int32) < c1)) (hc2 : (¬ (255 : Int32) < c2)) (S_cs : Sta Z Z.heap "java/lang/String" "COMPACT_STRINGS" "Z" (.int cs)) (n_cs : ¬ cs = 0) :
    MetFree l (⟨"java/lang/String", "<init>", "([C)V"⟩ : MethodName) (head1 (Jvm.Cond.code (⟨"java/lang/String", "<init>", "([C)V"⟩ : MethodName) jdk_42_method_3_code 2 none :: ws) ({ frames := 3, cells := 1, slots := 3, locals := 52 } : Room)) (fun as' U => as' = #[(.ref a), (.ref va)] ∧ Z.Warmed39 U.vm ∧ U.heap = h0) (fun _ _ _ _ _ => True) (fun _ U o U' => ∃ v L, o = .returned v ∧ Q_rmS1_3 Z a va kv c0 c1 c2 cs h0 n0 v U'.heap L ∧ FrameEnd U o U' L ({ frames := 3, cells := 1, slots := 3, locals := 52 } : Room).cells ({ frames := 3, cells := 1, slots := 3, locals := 52 } : Room).slots) := by
  refine MetFree.of_bodySF (plainFor_of_name pn_1) hisR ?_
  intro p e s m args below meth c s₁ Bd hml0 hP hK
  obtain ⟨rfl, hZ, hh⟩ := hP
  have hx := Bd.exec
  have hby := Bd.bytes
  have hml : c.maxLocals = 2 := hml0
  have hown : s.vm.findClass "java/lang/String" = some m.cls := findClass_of_methodNamed Bd.named
  have hnm := (name_of_methodNamed Bd.named Bd.method).1
  have X0 : Stand p l e ({ frames := 3, cells := 1, slots := 3, locals := 52 } : Room) s m #[(.ref a), (.ref va)] below meth c s₁ [] 0 0 := Stand.of_body Bd
  have e0 : s₁.heap = h0 := by rw [← hh, Bd.state]; rfl
  have N0 := Fr.nil n0
  refine Go.enter (F := EndN s (Q_rmS1_3 Z a va kv c0 c1 c2 cs h0 n0) ({ frames := 3, cells := 1, slots := 3, locals := 52 } : Room).cells ({ frames := 3, cells := 1, slots := 3, locals := 52 } : Room).slots) (ef_16 m a va) ?_
  show Go _ _ _ _ s₁ (mkF m 0 #[rv a, rv va] [])
  refine Go.aload1 1 X0 hx (hb hby d2_0) rfl rfl rfl ?_
  refine Go.aload1 2 X0 hx (hb hby d2_1) rfl rfl rfl ?_
  refine Go.iconst 3 X0 hx (0 : Int32) (hb hby d2_2) (by decide) rfl ?_
  refine Go.aload1 4 X0 hx (hb hby d2_3) rfl rfl rfl ?_
  obtain ⟨cl1, Ar1, -, S1, M1, -, -⟩ := id V_va
  refine Go.by (fun _ gk => X0.arraylength hx (by rw [e0]; exact Ar1.1) (State.isArrayOf_alike hZ.alike Ar1.2.1) (g := (mkF m 4 #[rv a, rv va] [(.ref va), (.int 0), (.ref va), (.ref a)])) rfl rfl (hb hby d2_4) _ gk) ?_
  rw [len_of S1 M1]
  show Go _ _ _ _ s₁ (mkF m 5 #[rv a, rv va] [(.int 3), (.int 0), (.ref va), (.ref a)])
  refine Go.aconst_null 6 X0 hx (hb hby d2_5) rfl ?_
  obtain ⟨_, _, ⟨T2, L2, k2, n2⟩, -, X2, ⟨Lc2, hQ2, l2, y2, z2⟩, st2⟩ := X0.specialBack hx (y := (⟨"java/lang/String", "<init>", "([CIILjava/lang/Void;)V"⟩ : MethodName)) rfl hown (mvT hZ (ow hw 11 rfl)) (mvT hZ (ow hw 12 rfl)) (mvT hZ (ow hw 14 rfl)) (by decide) (backOf (W := 0) (rmS4_3 l Z a0 hw [] a va kv c0 c1 c2 cs h0 n0 Z0 O0 E_a F_a_value F_a_coder g_a V_va hc0 hc1 hc2 S_cs n_cs) hZ (ow hw 14 rfl) (ow hw 7 rfl) (by decide) (by decide)) (g := (mkF m 6 #[rv a, rv va] [.null, (.int 3), (.int 0), (.ref va), (.ref a)])) rfl (by rw [hml]; rfl) (Steps.refl _) (a := a) (argsL := [(.ref va), (.int 0), (.int 3), .null]) (rest := []) (lenOf pd_23 rfl) rfl (by show 2 * 0 + _ ≤ _; exact Nat.le_of_eq rfl) (hb hby d2_6) (fun _ _ => ⟨rfl, e0, (by decide : 0 + 1 ≤ _), (by decide : 0 + 3 ≤ _)⟩)
  dsimp only [Pt.U, Pt.locs, Pt.cells, Pt.slots] at X2 l2 y2 z2 st2 hQ2
  subst l2 y2 z2
  obtain ⟨b, kb, rfl, N2q, K2, Q2_0, Q2_1, Q2_2, Q2_3, Q2_4⟩ := hQ2
  have N2 := Fr.app N0 N2q
  refine Go.to st2 ?_
  show Go _ _ _ _ T2 (mkF m 9 #[rv a, rv va] [])
  have ge_b : n0 ≤ b := Nat.le_trans Z0 Q2_4
  have sz_b : h0.size ≤ b := Nat.le_trans (Keep.refl h0 [a]).1 Q2_4
  have ne_a_b : a ≠ b := Nat.ne_of_lt (Nat.lt_of_lt_of_le E_a.lt Q2_4)
  have ne_va_b : va ≠ b := Nat.ne_of_lt (Nat.lt_of_lt_of_le V_va.lt Q2_4)
  have F3 : Keep h0 T2.heap [a] := (Keep.refl h0 [a]).trans K2 (allS (Or.inl (List.mem_of_getElem? (i := 0) rfl)) all0)
  exact Go.retV X2 hx Bd.notSynchronized Bd.returns (hb hby d2_9) ⟨b, kb, rfl, N2, F3, Q2_0, Q2_1, Q2_2, Q2_3, sz_b⟩ (by decide) (by decide)
theorem d1_65 : decode method_3_code 65 = .ok (.iload_n 1, 1) := by decide +kernel
theorem d1_66 : decode method_3_code 66 = .ok (.iconst 3, 1) := by decide +kernel
theorem d1_67 : decode method_3_code 67 = .ok (.if_icmp .ne 32, 3) := by decide +kernel
theorem d1_70 : decode method_3_code 70 = .ok (.new 25, 3) := by decide +kernel
theorem d1_73 : decode method_3_code 73 = .ok (.dup, 1) := by decide +kernel
theorem d1_74 : decode method_3_code 74 = .ok (.iconst 3, 1) := by decide +kernel
theorem d1_75 : decode method_3_code 75 = .ok (.newarray .char, 2) := by decide +kernel
theorem d1_77 : decode method_3_code 77 = .ok (.dup, 1) := by decide +kernel
theorem d1_78 : decode method_3_code 78 = .ok (.iconst 0, 1) := by decide +kernel
theorem d1_79 : decode method_3_code 79 = .ok (.aload_n 0, 1) := by decide +kernel
theorem d1_80 : decode method_3_code 80 = .ok (.iconst 0, 1) := by decide +kernel
theorem d1_81 : decode method_3_code 81 = .ok (.caload, 1) := by decide +kernel
theorem d1_82 : decode method_3_code 82 = .ok (.castore, 1) := by decide +kernel
theorem d1_83 : decode method_3_code 83 = .ok (.dup, 1) := by decide +kernel
theorem d1_84 : decode method_3_code 84 = .ok (.iconst 1, 1) := by decide +kernel
theorem d1_85 : decode method_3_code 85 = .ok (.aload_n 0, 1) := by decide +kernel
theorem d1_86 : decode method_3_code 86 = .ok (.iconst 1, 1) := by decide +kernel
theorem d1_87 : decode method_3_code 87 = .ok (.caload, 1) := by decide +kernel
theorem d1_88 : decode method_3_code 88 = .ok (.castore, 1) := by decide +kernel
theorem d1_89 : decode method_3_code 89 = .ok (.dup, 1) := by decide +kernel
theorem d1_90 : decode method_3_code 90 = .ok (.iconst 2, 1) := by decide +kernel
theorem d1_91 : decode method_3_code 91 = .ok (.aload_n 0, 1) := by decide +kernel
theorem d1_92 : decode method_3_code 92 = .ok (.iconst 2, 1) := by decide +kernel
theorem d1_93 : decode method_3_code 93 = .ok (.caload, 1) := by decide +kernel
theorem d1_94 : decode method_3_code 94 = .ok (.castore, 1) := by decide +kernel
theorem d1_95 : decode method_3_code 95 = .ok (.invokespecial 27, 3) := by decide +kernel
theorem d1_98 : decode method_3_code 98 = .ok (.areturn, 1) := by decide +kernel
def Q_rmStr3 (Z : State) (ta : Addr) (kt : ClassId) (t0 : Int32) (t1 : Int32) (t2 : Int32) (t3 : Int32) (t4 : Int32) (t5 : Int32) (cs : Int32) (h0 : Heap) (n0 : Nat) (v : Option Value) (h : Heap) (L : List Loc) : Prop := ∃ st : Addr, ∃ sb : Addr, ∃ kb : ClassId, v = some (.ref st) ∧ Fr n0 L ∧ Keep h0 h [] ∧ Exa Z h st "java/lang/String" ∧ Fld Z h st "java/lang/String" "coder" "B" (.int 0) ∧ Fld Z h st "java/lang/String" "value" "[B" (.ref sb) ∧ Arv Z h sb kb .byte (3 : Int32) ([(.int (own_b t0)), (.int (own_b t1)), (.int (own_b t2))]) (.int 0) ∧ h0.size ≤ st
set_option maxRecDepth 65536 in
set_option maxHeartbeats 40000000 in
theorem rmStr3 (l : Launch) (Z : State) (a0 : Array Value) (hw : ∀ d ∈ tables_1, d.before a0 Z = true) (ws : List Jvm.Cond) (ta : Addr) (kt : ClassId) (t0 : Int32) (t1 : Int32) (t2 : Int32) (t3 : Int32) (t4 : Int32) (t5 : Int32) (cs : Int32) (h0 : Heap) (n0 : Nat) (Z0 : n0 ≤ h0.size) (O0 : Old Z n0 h0) (V_ta : Arv Z h0 ta kt .char (6 : Int32) ([(.int t0), (.int t1), (.int t2), (.int t3), (.int t4), (.int t5)]) (.int 0)) (hb0 : (¬ t0 < 0 ∧ ¬ (255 : Int32) < t0)) (hb1 : (¬ t1 < 0 ∧ ¬ (255 : Int32) < t1)) (hb2 : (¬ t2 < 0 ∧ ¬ (255 : Int32) < t2)) (S_cs : Sta Z Z.heap "java/lang/String" "COMPACT_STRINGS" "Z" (.int cs)) (n_cs : ¬ cs = 0) :
    MetFree l (⟨"com/example/entries_to_nodes/entriestonodes/xml/XsBooleanReadPinLaw", "str", "([CI)Ljava/lang/String;"⟩ : MethodName) (head1 (Jvm.Cond.code (⟨"com/example/entries_to_nodes/entriestonodes/xml/XsBooleanReadPinLaw", "str", "([CI)Ljava/lang/String;"⟩ : MethodName) method_3_code 2 (some (.object "java/lang/String")) :: ws) ({ frames := 4, cells := 3, slots := 10, locals := 66 } : Room)) (fun as' U => as' = #[(.ref ta), (.int 3)] ∧ Z.Warmed39 U.vm ∧ U.heap = h0) (fun _ _ _ _ _ => True) (fun _ U o U' => ∃ v L, o = .returned v ∧ Q_rmStr3 Z ta kt t0 t1 t2 t3 t4 t5 cs h0 n0 v U'.heap L ∧ FrameEnd U o U' L ({ frames := 4, cells := 3, slots := 10, locals := 66 } : Room).cells ({ frames := 4, cells := 3, slots := 10, locals := 66 } : Room).slots) := by
  refine MetFree.of_bodySF (plainFor_of_name pn_26) hisR ?_
  intro p e s m args below meth c s₁ Bd hml0 hP hK
  obtain ⟨rfl, hZ, hh⟩ := hP
  have hx := Bd.exec
  have hby := Bd.bytes
  have hml : c.maxLocals = 2 := hml0
  have hown : s.vm.findClass "com/example/entries_to_nodes/entriestonodes/xml/XsBooleanReadPinLaw" = some m.cls := findClass_of_methodNamed Bd.named
  have hnm := (name_of_methodNamed Bd.named Bd.method).1
  have X0 : Stand p l e ({ frames := 4, cells := 3, slots := 10, locals := 66 } : Room) s m #[(.ref ta), (.int 3)] below meth c s₁ [] 0 0 := Stand.of_body Bd
  have e0 : s₁.heap = h0 := by rw [← hh, Bd.state]; rfl
  have N0 := Fr.nil n0
  refine Go.enter (F := EndN s (Q_rmStr3 Z ta kt t0 t1 t2 t3 t4 t5 cs h0 n0) ({ frames := 4, cells := 3, slots := 10, locals := 66 } : Room).cells ({ frames := 4, cells := 3, slots := 10, locals := 66 } : Room).slots) (ef_27 m ta (3 : Int32)) ?_
  show Go _ _ _ _ s₁ (mkF m 0 #[rv ta, iv 3] [])
  refine Go.iload1 1 X0 hx (hb hby d1_0) rfl rfl ?_
  refine Go.ifY 15 X0 hx (hb hby d1_1) (XT.i0_ne_t (by decide)) (by decide) (by decide) ?_
  refine Go.iload1 16 X0 hx (hb hby d1_15) rfl rfl ?_
  refine Go.iconst 17 X0 hx (1 : Int32) (hb hby d1_16) (by decide) rfl ?_
  refine Go.icmpY 37 X0 hx (hb hby d1_17) (XT.ii_ne_t (by decide)) (by decide) (by decide) ?_
  refine Go.iload1 38 X0 hx (hb hby d1_37) rfl rfl ?_
  refine Go.iconst 39 X0 hx (2 : Int32) (hb hby d1_38) (by decide) rfl ?_
  refine Go.icmpY 65 X0 hx (hb hby d1_39) (XT.ii_ne_t (by decide)) (by decide) (by decide) ?_
  refine Go.iload1 66 X0 hx (hb hby d1_65) rfl rfl ?_
  refine Go.iconst 67 X0 hx (3 : Int32) (hb hby d1_66) (by decide) rfl ?_
  refine Go.icmpN 70 X0 hx (hb hby d1_67) (XT.ii_ne_f rfl) rfl ?_
  obtain ⟨st, g1⟩ : ∃ z, z = h0.size := ⟨_, rfl⟩
  have ge_st : n0 ≤ st := Nat.le_trans Z0 (Nat.le_of_eq g1.symm)
  have sz_st : h0.size ≤ st := Nat.le_trans (Keep.refl h0 []).1 (Nat.le_of_eq g1.symm)
  have ne_ta_st : ta ≠ st := Nat.ne_of_lt (Nat.lt_of_lt_of_le V_ta.lt (Nat.le_of_eq g1.symm))
  obtain ⟨T1, h1, X1, e1, E1, A1, D1, -, st1⟩ := newO X0 hx hZ hown (ow hw 5 rfl) (ow hw 6 rfl) (ow hw 7 rfl) e0 (g := (mkF m 70 #[rv ta, iv 3] [])) rfl (hb hby d1_70) (by decide) (by decide)
  rw [← g1] at A1 D1 st1
  have F_value_st : Fld Z h1 st "java/lang/String" "value" "[B" .null := D1 (Or.inr (ow hw 20 rfl)) (ty := (.array .byte)) (by decide)
  have F_coder_st : Fld Z h1 st "java/lang/String" "coder" "B" (.int 0) := D1 (Or.inr (ow hw 21 rfl)) (ty := .byte) (by decide)
  refine Go.by st1 ?_
  show Go _ _ _ _ T1 (mkF m 73 #[rv ta, iv 3] [(.ref st)])
  refine Go.dup 74 X1 hx (hb hby d1_73) rfl rfl ?_
  refine Go.iconst 75 X1 hx (3 : Int32) (hb hby d1_74) (by decide) rfl ?_
  obtain ⟨ca, g2⟩ : ∃ z, z = h1.size := ⟨_, rfl⟩
  have F3 : n0 ≤ h1.size := Nat.le_trans Z0 E1.1
  have ge_ca : n0 ≤ ca := Nat.le_trans F3 (Nat.le_of_eq g2.symm)
  have F4 : Keep h0 h1 [] := (Keep.refl h0 []).ext E1
  have sz_ca : h0.size ≤ ca := Nat.le_trans F4.1 (Nat.le_of_eq g2.symm)
  have ne_st_ca : st ≠ ca := Nat.ne_of_lt (Nat.lt_of_lt_of_le A1.lt (Nat.le_of_eq g2.symm))
  have F5 : Arv Z h1 ta kt .char (6 : Int32) [(.int t0), (.int t1), (.int t2), (.int t3), (.int t4), (.int t5)] (.int 0) := V_ta.ext E1
  have ne_ta_ca : ta ≠ ca := Nat.ne_of_lt (Nat.lt_of_lt_of_le F5.lt (Nat.le_of_eq g2.symm))
  obtain ⟨T2, h2, k2, X2, e2, E2, A2, Ea2, st2⟩ := newPE X1 hx hZ (ow hw 0 rfl) e1 (g := (mkF m 75 #[rv ta, iv 3] [(.int 3), (.ref st), (.ref st)])) rfl (hb hby d1_75) rfl (by decide) (cap := 3) (by decide) (by decide) (by decide) (by decide) (ad := "[C") rfl
  rw [← g2] at A2 Ea2 st2
  have V_ca : Arv Z h2 ca k2 .char (3 : Int32) [(.int 0), (.int 0), (.int 0)] (.int 0) := (Arv.new A2 (by decide)).pad (pad_rep [] (.int 0) 3)
  refine Go.by st2 ?_
  show Go _ _ _ _ T2 (mkF m 77 #[rv ta, iv 3] [(.ref ca), (.ref st), (.ref st)])
  refine Go.dup 78 X2 hx (hb hby d1_77) rfl rfl ?_
  refine Go.iconst 79 X2 hx (0 : Int32) (hb hby d1_78) (by decide) rfl ?_
  refine Go.aload1 80 X2 hx (hb hby d1_79) rfl rfl rfl ?_
  refine Go.iconst 81 X2 hx (0 : Int32) (hb hby d1_80) (by decide) rfl ?_
  have F6 : Arv Z h2 ta kt .char (6 : Int32) [(.int t0), (.int t1), (.int t2), (.int t3), (.int t4), (.int t5)] (.int 0) := F5.ext E2
  obtain ⟨cl7, Ar7, -, S7, M7, H7, -⟩ := id F6
  have hin7 : ¬ ((0 : Int32) < 0 ∨ cl7.slots.size ≤ (0 : Int32).toNatClampNeg) := inb_of S7 ⟨by decide, by decide⟩
  refine Go.by (fun _ gk => X2.caload hx (j := (0 : Int32)) (v := (.int t0)) (by rw [e2]; exact Ar7.1) (State.isArrayOf_alike hZ.alike Ar7.2.1) Ar7.2.2 hin7 (Has.at H7 hin7 rfl) (g := (mkF m 81 #[rv ta, iv 3] [(.int 0), (.ref ta), (.int 0), (.ref ca), (.ref ca), (.ref st), (.ref st)])) rfl rfl (hb hby d1_81) _ gk) ?_
  show Go _ _ _ _ T2 (mkF m 82 #[rv ta, iv 3] [(.int t0), (.int 0), (.ref ca), (.ref ca), (.ref st), (.ref st)])
  obtain ⟨cl8, Ar8, q8, S8, M8, H8, G8⟩ := id V_ca
  have hin8 : ¬ ((0 : Int32) < 0 ∨ cl8.slots.size ≤ (0 : Int32).toNatClampNeg) := inb_of S8 ⟨by decide, by decide⟩
  obtain ⟨T8, h8, X8, e8, W8, st8⟩ := stC X2 hx hZ e2 Ar8 (j := (0 : Int32)) hin8 (g := (mkF m 82 #[rv ta, iv 3] [(.int t0), (.int 0), (.ref ca), (.ref ca), (.ref st), (.ref st)])) rfl rfl (hb hby d1_82)
  have N8 := Fr.snoc X8 N0 ge_ca
  have V8 : Arv Z h8 ca k2 .char (3 : Int32) [(.int (nar .char t0)), (.int 0), (.int 0)] (.int 0) := Arv.set Ar8 q8 S8 M8 H8 G8 (fits_nar_char _) W8 0 rfl (Nat.le_of_ble_eq_true rfl)
  refine Go.by st8 ?_
  show Go _ _ _ _ T8 (mkF m 83 #[rv ta, iv 3] [(.ref ca), (.ref st), (.ref st)])
  rw [own_ncb (t := t0) hb0.1 hb0.2] at V8
  refine Go.dup 84 X8 hx (hb hby d1_83) rfl rfl ?_
  refine Go.iconst 85 X8 hx (1 : Int32) (hb hby d1_84) (by decide) rfl ?_
  refine Go.aload1 86 X8 hx (hb hby d1_85) rfl rfl rfl ?_
  refine Go.iconst 87 X8 hx (1 : Int32) (hb hby d1_86) (by decide) rfl ?_
  have F9 : Arv Z h8 ta kt .char (6 : Int32) [(.int t0), (.int t1), (.int t2), (.int t3), (.int t4), (.int t5)] (.int 0) := F6.other W8 ne_ta_ca
  obtain ⟨cl10, Ar10, -, S10, M10, H10, -⟩ := id F9
  have hin10 : ¬ ((1 : Int32) < 0 ∨ cl10.slots.size ≤ (1 : Int32).toNatClampNeg) := inb_of S10 ⟨by decide, by decide⟩
  refine Go.by (fun _ gk => X8.caload hx (j := (1 : Int32)) (v := (.int t1)) (by rw [e8]; exact Ar10.1) (State.isArrayOf_alike hZ.alike Ar10.2.1) Ar10.2.2 hin10 (Has.at H10 hin10 rfl) (g := (mkF m 87 #[rv ta, iv 3] [(.int 1), (.ref ta), (.int 1), (.ref ca), (.ref ca), (.ref st), (.ref st)])) rfl rfl (hb hby d1_87) _ gk) ?_
  show Go _ _ _ _ T8 (mkF m 88 #[rv ta, iv 3] [(.int t1), (.int 1), (.ref ca), (.ref ca), (.ref st), (.ref st)])
  obtain ⟨cl11, Ar11, q11, S11, M11, H11, G11⟩ := id V8
  have hin11 : ¬ ((1 : Int32) < 0 ∨ cl11.slots.size ≤ (1 : Int32).toNatClampNeg) := inb_of S11 ⟨by decide, by decide⟩
  obtain ⟨T11, h11, X11, e11, W11, st11⟩ := stC X8 hx hZ e8 Ar11 (j := (1 : Int32)) hin11 (g := (mkF m 88 #[rv ta, iv 3] [(.int t1), (.int 1), (.ref ca), (.ref ca), (.ref st), (.ref st)])) rfl rfl (hb hby d1_88)
  have N11 := Fr.snoc X11 N8 ge_ca
  have V11 : Arv Z h11 ca k2 .char (3 : Int32) [(.int t0), (.int (nar .char t1)), (.int 0)] (.int 0) := Arv.set Ar11 q11 S11 M11 H11 G11 (fits_nar_char _) W11 1 rfl (Nat.le_of_ble_eq_true rfl)
  refine Go.by st11 ?_
  show Go _ _ _ _ T11 (mkF m 89 #[rv ta, iv 3] [(.ref ca), (.ref st), (.ref st)])
  rw [own_ncb (t := t1) hb1.1 hb1.2] at V11
  refine Go.dup 90 X11 hx (hb hby d1_89) rfl rfl ?_
  refine Go.iconst 91 X11 hx (2 : Int32) (hb hby d1_90) (by decide) rfl ?_
  refine Go.aload1 92 X11 hx (hb hby d1_91) rfl rfl rfl ?_
  refine Go.iconst 93 X11 hx (2 : Int32) (hb hby d1_92) (by decide) rfl ?_
  have F12 : Arv Z h11 ta kt .char (6 : Int32) [(.int t0), (.int t1), (.int t2), (.int t3), (.int t4), (.int t5)] (.int 0) := F9.other W11 ne_ta_ca
  obtain ⟨cl13, Ar13, -, S13, M13, H13, -⟩ := id F12
  have hin13 : ¬ ((2 : Int32) < 0 ∨ cl13.slots.size ≤ (2 : Int32).toNatClampNeg) := inb_of S13 ⟨by decide, by decide⟩
  refine Go.by (fun _ gk => X11.caload hx (j := (2 : Int32)) (v := (.int t2)) (by rw [e11]; exact Ar13.1) (State.isArrayOf_alike hZ.alike Ar13.2.1) Ar13.2.2 hin13 (Has.at H13 hin13 rfl) (g := (mkF m 93 #[rv ta, iv 3] [(.int 2), (.ref ta), (.int 2), (.ref ca), (.ref ca), (.ref st), (.ref st)])) rfl rfl (hb hby d1_93) _ gk) ?_
  show Go _ _ _ _ T11 (mkF m 94 #[rv ta, iv 3] [(.int t2), (.int 2), (.ref ca), (.ref ca), (.ref st), (.ref st)])
  obtain ⟨cl14, Ar14, q14, S14, M14, H14, G14⟩ := id V11
  have hin14 : ¬ ((2 : Int32) < 0 ∨ cl14.slots.size ≤ (2 : Int32).toNatClampNeg) := inb_of S14 ⟨by decide, by decide⟩
  obtain ⟨T14, h14, X14, e14, W14, st14⟩ := stC X11 hx hZ e11 Ar14 (j := (2 : Int32)) hin14 (g := (mkF m 94 #[rv ta, iv 3] [(.int t2), (.int 2), (.ref ca), (.ref ca), (.ref st), (.ref st)])) rfl rfl (hb hby d1_94)
  have N14 := Fr.snoc X14 N11 ge_ca
  have V14 : Arv Z h14 ca k2 .char (3 : Int32) [(.int t0), (.int t1), (.int (nar .char t2))] (.int 0) := Arv.set Ar14 q14 S14 M14 H14 G14 (fits_nar_char _) W14 2 rfl (Nat.le_of_ble_eq_true rfl)
  refine Go.by st14 ?_
  show Go _ _ _ _ T14 (mkF m 95 #[rv ta, iv 3] [(.ref ca), (.ref st), (.ref st)])
  rw [own_ncb (t := t2) hb2.1 hb2.2] at V14
  have F15 : Old Z n0 h1 := O0.ext E1
  have F16 : Old Z n0 h2 := F15.ext E2
  have F17 : Old Z n0 h8 := F16.wr W8 ge_ca
  have F18 : Old Z n0 h11 := F17.wr W11 ge_ca
  have F19 : Old Z n0 h14 := F18.wr W14 ge_ca
  have F20 : Exa Z h2 st "java/lang/String" := A1.ext E2
  have F21 : Exa Z h8 st "java/lang/String" := F20.wr W8
  have F22 : Exa Z h11 st "java/lang/String" := F21.wr W11
  have F23 : Exa Z h14 st "java/lang/String" := F22.wr W14
  have F24 : Fld Z h2 st "java/lang/String" "value" "[B" .null := F_value_st.ext E2
  have F25 : Fld Z h8 st "java/lang/String" "value" "[B" .null := F24.other W8 (Or.inl ne_st_ca)
  have F26 : Fld Z h11 st "java/lang/String" "value" "[B" .null := F25.other W11 (Or.inl ne_st_ca)
  have F27 : Fld Z h14 st "java/lang/String" "value" "[B" .null := F26.other W14 (Or.inl ne_st_ca)
  have F28 : Fld Z h2 st "java/lang/String" "coder" "B" (.int 0) := F_coder_st.ext E2
  have F29 : Fld Z h8 st "java/lang/String" "coder" "B" (.int 0) := F28.other W8 (Or.inl ne_st_ca)
  have F30 : Fld Z h11 st "java/lang/String" "coder" "B" (.int 0) := F29.other W11 (Or.inl ne_st_ca)
  have F31 : Fld Z h14 st "java/lang/String" "coder" "B" (.int 0) := F30.other W14 (Or.inl ne_st_ca)
  have F32 : n0 ≤ h2.size := Nat.le_trans F3 E2.1
  have F33 : n0 ≤ h8.size := Nat.le_trans F32 (Nat.le_of_eq (Wr.size W8).symm)
  have F34 : n0 ≤ h11.size := Nat.le_trans F33 (Nat.le_of_eq (Wr.size W11).symm)
  have F35 : n0 ≤ h14.size := Nat.le_trans F34 (Nat.le_of_eq (Wr.size W14).symm)
  have F36 : Keep h0 h2 [] := F4.ext E2
  have F37 : Keep h0 h8 [] := F36.wr W8 (Or.inr sz_ca)
  have F38 : Keep h0 h11 [] := F37.wr W11 (Or.inr sz_ca)
  have F39 : Keep h0 h14 [] := F38.wr W14 (Or.inr sz_ca)
  have F40 : Exa Z h8 ca "[C" := Ea2.wr W8
  have F41 : Exa Z h11 ca "[C" := F40.wr W11
  have F42 : Exa Z h14 ca "[C" := F41.wr W14
  have F43 : Arv Z h14 ta kt .char (6 : Int32) [(.int t0), (.int t1), (.int t2), (.int t3), (.int t4), (.int t5)] (.int 0) := F12.other W14 ne_ta_ca
  obtain ⟨_, _, ⟨T44, L44, k44, n44⟩, -, X44, ⟨Lc44, hQ44, l44, y44, z44⟩, st44⟩ := X14.specialBack hx (y := (⟨"java/lang/String", "<init>", "([C)V"⟩ : MethodName)) rfl hown (mvT hZ (ow hw 8 rfl)) (mvT hZ (ow hw 9 rfl)) (mvT hZ (ow hw 10 rfl)) (by decide) (backOf (W := 1) (rmS1_3 l Z a0 hw [] st ca k2 t0 t1 t2 cs h14 n0 F35 F19 F23 F27 F31 ge_st V14 hb0.2 hb1.2 hb2.2 S_cs n_cs) hZ (ow hw 10 rfl) (ow hw 7 rfl) (by decide) (by decide)) (g := (mkF m 95 #[rv ta, iv 3] [(.ref ca), (.ref st), (.ref st)])) rfl (by rw [hml]; rfl) (Steps.refl _) (a := st) (argsL := [(.ref ca)]) (rest := [(.ref st)]) (lenOf pd_34 rfl) rfl (by show 2 * 0 + _ ≤ _; exact Nat.le_of_eq rfl) (hb hby d1_95) (fun _ _ => ⟨rfl, e14, (by decide : 2 + 1 ≤ _), (by decide : 7 + 3 ≤ _)⟩)
  dsimp only [Pt.U, Pt.locs, Pt.cells, Pt.slots] at X44 l44 y44 z44 st44 hQ44
  subst l44 y44 z44
  obtain ⟨sb, kb, rfl, N44q, K44, Q44_0, Q44_1, Q44_2, Q44_3, Q44_4⟩ := hQ44
  have N44 := Fr.app N14 N44q
  refine Go.to st44 ?_
  show Go _ _ _ _ T44 (mkF m 98 #[rv ta, iv 3] [(.ref st)])
  have ge_sb : n0 ≤ sb := Nat.le_trans F35 Q44_4
  have sz_sb : h0.size ≤ sb := Nat.le_trans F39.1 Q44_4
  have ne_ca_sb : ca ≠ sb := Nat.ne_of_lt (Nat.lt_of_lt_of_le V14.lt Q44_4)
  have ne_st_sb : st ≠ sb := Nat.ne_of_lt (Nat.lt_of_lt_of_le F23.lt Q44_4)
  have ne_ta_sb : ta ≠ sb := Nat.ne_of_lt (Nat.lt_of_lt_of_le F43.lt Q44_4)
  have F45 : Keep h0 T44.heap [] := F39.trans K44 (allS (Or.inr sz_st) all0)
  exact Go.retA X44 hx Bd.notSynchronized Bd.returns rfl rfl (hb hby d1_98) ⟨st, sb, kb, rfl, N44, F45, Q44_0, Q44_1, Q44_2, Q44_3, sz_st⟩ (by decide) (by decide)
def Q_rmC5_4 (Z : State) (va : Addr) (da : Addr) (kv : ClassId) (kd : ClassId) (c0 : Int32) (c1 : Int32) (c2 : Int32) (c3 : Int32) (h0 : Heap) (n0 : Nat) (v : Option Value) (h : Heap) (L : List Loc) : Prop := v = some (.int 4) ∧ Fr n0 L ∧ Keep h0 h [da] ∧ Arv Z h da kd .byte (4 : Int32) ([(.int (own_b c0)), (.int (own_b c1)), (.int (own_b c2)), (.int (own_b c3))]) (.int 0)
set_option maxRecDepth 65536 in
set_option maxHeartbeats 40000000 in
theorem rmC5_4 (l : Launch) (Z : State) (a0 : Array Value) (hw : ∀ d ∈ tables_1, d.before a0 Z = true) (ws : List Jvm.Cond) (va : Addr) (da : Addr) (kv : ClassId) (kd : ClassId) (c0 : Int32) (c1 : Int32) (c2 : Int32) (c3 : Int32) (h0 : Heap) (n0 : Nat) (Z0 : n0 ≤ h0.size) (V_va : Arv Z h0 va kv .char (4 : Int32) ([(.int c0), (.int c1), (.int c2), (.int c3)]) (.int 0)) (V_da : Arv Z h0 da kd .byte (4 : Int32) ([(.int 0), (.int 0), (.int 0), (.int 0)]) (.int 0)) (g_da : n0 ≤ da) (ne_va_da : va ≠ da) (hc0 : (¬ (255 : Int32) < c0)) (hc1 : (¬ (255 : Int32) < c1)) (hc2 : (¬ (255 : Int32) < c2)) (hc3 : (¬ (255 : Int32) < c3)) :
    MetFree l (⟨"java/lang/StringUTF16", "compress", "([CI[BII)I"⟩ : MethodName) (head1 (Jvm.Cond.code (⟨"java/lang/StringUTF16", "compress", "([CI[BII)I"⟩ : MethodName) jdk_52_method_21_code 7 (some .int) :: ws) ({ frames := 0, cells := 0, slots := 0, locals := 0 } : Room)) (fun as' U => as' = #[(.ref va), (.int 0), (.ref da), (.int 0), (.int 4)] ∧ Z.Warmed39 U.vm ∧ U.heap = h0) (fun _ _ _ _ _ => True) (fun _ U o U' => ∃ v L, o = .returned v ∧ Q_rmC5_4 Z va da kv kd c0 c1 c2 c3 h0 n0 v U'.heap L ∧ FrameEnd U o U' L ({ frames := 0, cells := 0, slots := 0, locals := 0 } : Room).cells ({ frames := 0, cells := 0, slots := 0, locals := 0 } : Room).slots) := by
  refine MetFree.of_bodySF (plainFor_of_name pn_37) hisR ?_
  intro p e s m args below meth c s₁ Bd hml0 hP hK
  obtain ⟨rfl, hZ, hh⟩ := hP
  have hx := Bd.exec
  have hby := Bd.bytes
  have hml : c.maxLocals = 7 := hml0
  have hown : s.vm.findClass "java/lang/StringUTF16" = some m.cls := findClass_of_methodNamed Bd.named
  have hnm := (name_of_methodNamed Bd.named Bd.method).1
  have X0 : Stand p l e ({ frames := 0, cells := 0, slots := 0, locals := 0 } : Room) s m #[(.ref va), (.int 0), (.ref da), (.int 0), (.int 4)] below meth c s₁ [] 0 0 := Stand.of_body Bd
  have e0 : s₁.heap = h0 := by rw [← hh, Bd.state]; rfl
  have N0 := Fr.nil n0
  refine Go.enter (F := EndN s (Q_rmC5_4 Z va da kv kd c0 c1 c2 c3 h0 n0) ({ frames := 0, cells := 0, slots := 0, locals := 0 } : Room).cells ({ frames := 0, cells := 0, slots := 0, locals := 0 } : Room).slots) (ef_38 m va (0 : Int32) da (0 : Int32) (4 : Int32)) ?_
  show Go _ _ _ _ s₁ (mkF m 0 #[rv va, iv 0, rv da, iv 0, iv 4, un, un] [])
  refine Go.iconst 1 X0 hx (0 : Int32) (hb hby d9_0) (by decide) rfl ?_
  refine Go.istore2 3 X0 hx (L' := #[rv va, iv 0, rv da, iv 0, iv 4, iv 0, un]) (hb hby d9_1) rfl rfl ?_
  refine Go.iload2 5 X0 hx (hb hby d9_3) rfl rfl ?_
  refine Go.iload2 7 X0 hx (hb hby d9_5) rfl rfl ?_
  refine Go.icmpN 10 X0 hx (hb hby d9_7) (XT.ii_ge_f (by decide)) rfl ?_
  refine Go.aload1 11 X0 hx (hb hby d9_10) rfl rfl rfl ?_
  refine Go.iload1 12 X0 hx (hb hby d9_11) rfl rfl ?_
  obtain ⟨cl1, Ar1, -, S1, M1, H1, -⟩ := id V_va
  have hin1 : ¬ ((0 : Int32) < 0 ∨ cl1.slots.size ≤ (0 : Int32).toNatClampNeg) := inb_of S1 ⟨by decide, by decide⟩
  refine Go.by (fun _ gk => X0.caload hx (j := (0 : Int32)) (v := (.int c0)) (by rw [e0]; exact Ar1.1) (State.isArrayOf_alike hZ.alike Ar1.2.1) Ar1.2.2 hin1 (Has.at H1 hin1 rfl) (g := (mkF m 12 #[rv va, iv 0, rv da, iv 0, iv 4, iv 0, un] [(.int 0), (.ref va)])) rfl rfl (hb hby d9_12) _ gk) ?_
  show Go _ _ _ _ s₁ (mkF m 13 #[rv va, iv 0, rv da, iv 0, iv 4, iv 0, un] [(.int c0)])
  refine Go.istore2 15 X0 hx (L' := #[rv va, iv 0, rv da, iv 0, iv 4, iv 0, iv c0]) (hb hby d9_13) rfl rfl ?_
  refine Go.iload2 17 X0 hx (hb hby d9_15) rfl rfl ?_
  refine Go.sipush 20 X0 hx (255 : Int32) (hb hby d9_17) (by decide) rfl ?_
  refine Go.icmpY 26 X0 hx (hb hby d9_20) (XT.ii_le_t hc0) (by decide) (by decide) ?_
  refine Go.aload1 27 X0 hx (hb hby d9_26) rfl rfl rfl ?_
  refine Go.iload1 28 X0 hx (hb hby d9_27) rfl rfl ?_
  refine Go.iload2 30 X0 hx (hb hby d9_28) rfl rfl ?_
  refine Go.i2b 31 X0 hx (hb hby d9_30) rfl ?_
  obtain ⟨cl2, Ar2, q2, S2, M2, H2, G2⟩ := id V_da
  have hin2 : ¬ ((0 : Int32) < 0 ∨ cl2.slots.size ≤ (0 : Int32).toNatClampNeg) := inb_of S2 ⟨by decide, by decide⟩
  obtain ⟨T2, h2, X2, e2, W2, st2⟩ := stB X0 hx hZ e0 Ar2 (j := (0 : Int32)) hin2 (g := (mkF m 31 #[rv va, iv 0, rv da, iv 0, iv 4, iv 0, iv c0] [(.int (c0.toInt8.toInt32)), (.int 0), (.ref da)])) rfl rfl (hb hby d9_31)
  have N2 := Fr.snoc X2 N0 g_da
  have V2 : Arv Z h2 da kd .byte (4 : Int32) [(.int (nar .byte (c0.toInt8.toInt32))), (.int 0), (.int 0), (.int 0)] (.int 0) := Arv.set Ar2 q2 S2 M2 H2 G2 (fits_nar_byte _) W2 0 rfl (Nat.le_of_ble_eq_true rfl)
  refine Go.by st2 ?_
  show Go _ _ _ _ T2 (mkF m 32 #[rv va, iv 0, rv da, iv 0, iv 4, iv 0, iv c0] [])
  rw [own_bn] at V2
  refine Go.iinc 35 X2 hx (1 : Int32) (L' := #[rv va, iv 1, rv da, iv 0, iv 4, iv 0, iv c0]) (hb hby d9_32) (by decide) rfl rfl rfl ?_
  refine Go.iinc 38 X2 hx (1 : Int32) (L' := #[rv va, iv 1, rv da, iv 1, iv 4, iv 0, iv c0]) (hb hby d9_35) (by decide) rfl rfl rfl ?_
  refine Go.iinc 41 X2 hx (1 : Int32) (L' := #[rv va, iv 1, rv da, iv 1, iv 4, iv 1, iv c0]) (hb hby d9_38) (by decide) rfl rfl rfl ?_
  refine Go.goto 3 X2 hx (hb hby d9_41) (by decide) (by decide) ?_
  refine Go.iload2 5 X2 hx (hb hby d9_3) rfl rfl ?_
  refine Go.iload2 7 X2 hx (hb hby d9_5) rfl rfl ?_
  refine Go.icmpN 10 X2 hx (hb hby d9_7) (XT.ii_ge_f (by decide)) rfl ?_
  refine Go.aload1 11 X2 hx (hb hby d9_10) rfl rfl rfl ?_
  refine Go.iload1 12 X2 hx (hb hby d9_11) rfl rfl ?_
  have F3 : Arv Z h2 va kv .char (4 : Int32) [(.int c0), (.int c1), (.int c2), (.int c3)] (.int 0) := V_va.other W2 ne_va_da
  obtain ⟨cl4, Ar4, -, S4, M4, H4, -⟩ := id F3
  have hin4 : ¬ ((1 : Int32) < 0 ∨ cl4.slots.size ≤ (1 : Int32).toNatClampNeg) := inb_of S4 ⟨by decide, by decide⟩
  refine Go.by (fun _ gk => X2.caload hx (j := (1 : Int32)) (v := (.int c1)) (by rw [e2]; exact Ar4.1) (State.isArrayOf_alike hZ.alike Ar4.2.1) Ar4.2.2 hin4 (Has.at H4 hin4 rfl) (g := (mkF m 12 #[rv va, iv 1, rv da, iv 1, iv 4, iv 1, iv c0] [(.int 1), (.ref va)])) rfl rfl (hb hby d9_12) _ gk) ?_
  show Go _ _ _ _ T2 (mkF m 13 #[rv va, iv 1, rv da, iv 1, iv 4, iv 1, iv c0] [(.int c1)])
  refine Go.istore2 15 X2 hx (L' := #[rv va, iv 1, rv da, iv 1, iv 4, iv 1, iv c1]) (hb hby d9_13) rfl rfl ?_
  refine Go.iload2 17 X2 hx (hb hby d9_15) rfl rfl ?_
  refine Go.sipush 20 X2 hx (255 : Int32) (hb hby d9_17) (by decide) rfl ?_
  refine Go.icmpY 26 X2 hx (hb hby d9_20) (XT.ii_le_t hc1) (by decide) (by decide) ?_
  refine Go.aload1 27 X2 hx (hb hby d9_26) rfl rfl rfl ?_
  refine Go.iload1 28 X2 hx (hb hby d9_27) rfl rfl ?_
  refine Go.iload2 30 X2 hx (hb hby d9_28) rfl rfl ?_
  refine Go.i2b 31 X2 hx (hb hby d9_30) rfl ?_
  obtain ⟨cl5, Ar5, q5, S5, M5, H5, G5⟩ := id V2
  have hin5 : ¬ ((1 : Int32) < 0 ∨ cl5.slots.size ≤ (1 : Int32).toNatClampNeg) := inb_of S5 ⟨by decide, by decide⟩
  obtain ⟨T5, h5, X5, e5, W5, st5⟩ := stB X2 hx hZ e2 Ar5 (j := (1 : Int32)) hin5 (g := (mkF m 31 #[rv va, iv 1, rv da, iv 1, iv 4, iv 1, iv c1] [(.int (c1.toInt8.toInt32)), (.int 1), (.ref da)])) rfl rfl (hb hby d9_31)
  have N5 := Fr.snoc X5 N2 g_da
  have V5 : Arv Z h5 da kd .byte (4 : Int32) [(.int (own_b c0)), (.int (nar .byte (c1.toInt8.toInt32))), (.int 0), (.int 0)] (.int 0) := Arv.set Ar5 q5 S5 M5 H5 G5 (fits_nar_byte _) W5 1 rfl (Nat.le_of_ble_eq_true rfl)
  refine Go.by st5 ?_
  show Go _ _ _ _ T5 (mkF m 32 #[rv va, iv 1, rv da, iv 1, iv 4, iv 1, iv c1] [])
  rw [own_bn] at V5
  refine Go.iinc 35 X5 hx (1 : Int32) (L' := #[rv va, iv 2, rv da, iv 1, iv 4, iv 1, iv c1]) (hb hby d9_32) (by decide) rfl rfl rfl ?_
  refine Go.iinc 38 X5 hx (1 : Int32) (L' := #[rv va, iv 2, rv da, iv 2, iv 4, iv 1, iv c1]) (hb hby d9_35) (by decide) rfl rfl rfl ?_
  refine Go.iinc 41 X5 hx (1 : Int32) (L' := #[rv va, iv 2, rv da, iv 2, iv 4, iv 2, iv c1]) (hb hby d9_38) (by decide) rfl rfl rfl ?_
  refine Go.goto 3 X5 hx (hb hby d9_41) (by decide) (by decide) ?_
  refine Go.iload2 5 X5 hx (hb hby d9_3) rfl rfl ?_
  refine Go.iload2 7 X5 hx (hb hby d9_5) rfl rfl ?_
  refine Go.icmpN 10 X5 hx (hb hby d9_7) (XT.ii_ge_f (by decide)) rfl ?_
  refine Go.aload1 11 X5 hx (hb hby d9_10) rfl rfl rfl ?_
  refine Go.iload1 12 X5 hx (hb hby d9_11) rfl rfl ?_
  have F6 : Arv Z h5 va kv .char (4 : Int32) [(.int c0), (.int c1), (.int c2), (.int c3)] (.int 0) := F3.other W5 ne_va_da
  obtain ⟨cl7, Ar7, -, S7, M7, H7, -⟩ := id F6
  have hin7 : ¬ ((2 : Int32) < 0 ∨ cl7.slots.size ≤ (2 : Int32).toNatClampNeg) := inb_of S7 ⟨by decide, by decide⟩
  refine Go.by (fun _ gk => X5.caload hx (j := (2 : Int32)) (v := (.int c2)) (by rw [e5]; exact Ar7.1) (State.isArrayOf_alike hZ.alike Ar7.2.1) Ar7.2.2 hin7 (Has.at H7 hin7 rfl) (g := (mkF m 12 #[rv va, iv 2, rv da, iv 2, iv 4, iv 2, iv c1] [(.int 2), (.ref va)])) rfl rfl (hb hby d9_12) _ gk) ?_
  show Go _ _ _ _ T5 (mkF m 13 #[rv va, iv 2, rv da, iv 2, iv 4, iv 2, iv c1] [(.int c2)])
  refine Go.istore2 15 X5 hx (L' := #[rv va, iv 2, rv da, iv 2, iv 4, iv 2, iv c2]) (hb hby d9_13) rfl rfl ?_
  refine Go.iload2 17 X5 hx (hb hby d9_15) rfl rfl ?_
  refine Go.sipush 20 X5 hx (255 : Int32) (hb hby d9_17) (by decide) rfl ?_
  refine Go.icmpY 26 X5 hx (hb hby d9_20) (XT.ii_le_t hc2) (by decide) (by decide) ?_
  refine Go.aload1 27 X5 hx (hb hby d9_26) rfl rfl rfl ?_
  refine Go.iload1 28 X5 hx (hb hby d9_27) rfl rfl ?_
  refine Go.iload2 30 X5 hx (hb hby d9_28) rfl rfl ?_
  refine Go.i2b 31 X5 hx (hb hby d9_30) rfl ?_
  obtain ⟨cl8, Ar8, q8, S8, M8, H8, G8⟩ := id V5
  have hin8 : ¬ ((2 : Int32) < 0 ∨ cl8.slots.size ≤ (2 : Int32).toNatClampNeg) := inb_of S8 ⟨by decide, by decide⟩
  obtain ⟨T8, h8, X8, e8, W8, st8⟩ := stB X5 hx hZ e5 Ar8 (j := (2 : Int32)) hin8 (g := (mkF m 31 #[rv va, iv 2, rv da, iv 2, iv 4, iv 2, iv c2] [(.int (c2.toInt8.toInt32)), (.int 2), (.ref da)])) rfl rfl (hb hby d9_31)
  have N8 := Fr.snoc X8 N5 g_da
  have V8 : Arv Z h8 da kd .byte (4 : Int32) [(.int (own_b c0)), (.int (own_b c1)), (.int (nar .byte (c2.toInt8.toInt32))), (.int 0)] (.int 0) := Arv.set Ar8 q8 S8 M8 H8 G8 (fits_nar_byte _) W8 2 rfl (Nat.le_of_ble_eq_true rfl)
  refine Go.by st8 ?_
  show Go _ _ _ _ T8 (mkF m 32 #[rv va, iv 2, rv da, iv 2, iv 4, iv 2, iv c2] [])
  rw [own_bn] at V8
  refine Go.iinc 35 X8 hx (1 : Int32) (L' := #[rv va, iv 3, rv da, iv 2, iv 4, iv 2, iv c2]) (hb hby d9_32) (by decide) rfl rfl rfl ?_
  refine Go.iinc 38 X8 hx (1 : Int32) (L' := #[rv va, iv 3, rv da, iv 3, iv 4, iv 2, iv c2]) (hb hby d9_35) (by decide) rfl rfl rfl ?_
  refine Go.iinc 41 X8 hx (1 : Int32) (L' := #[rv va, iv 3, rv da, iv 3, iv 4, iv 3, iv c2]) (hb hby d9_38) (by decide) rfl rfl rfl ?_
  refine Go.goto 3 X8 hx (hb hby d9_41) (by decide) (by decide) ?_
  refine Go.iload2 5 X8 hx (hb hby d9_3) rfl rfl ?_
  refine Go.iload2 7 X8 hx (hb hby d9_5) rfl rfl ?_
  refine Go.icmpN 10 X8 hx (hb hby d9_7) (XT.ii_ge_f (by decide)) rfl ?_
  refine Go.aload1 11 X8 hx (hb hby d9_10) rfl rfl rfl ?_
  refine Go.iload1 12 X8 hx (hb hby d9_11) rfl rfl ?_
  have F9 : Arv Z h8 va kv .char (4 : Int32) [(.int c0), (.int c1), (.int c2), (.int c3)] (.int 0) := F6.other W8 ne_va_da
  obtain ⟨cl10, Ar10, -, S10, M10, H10, -⟩ := id F9
  have hin10 : ¬ ((3 : Int32) < 0 ∨ cl10.slots.size ≤ (3 : Int32).toNatClampNeg) := inb_of S10 ⟨by decide, by decide⟩
  refine Go.by (fun _ gk => X8.caload hx (j := (3 : Int32)) (v := (.int c3)) (by rw [e8]; exact Ar10.1) (State.isArrayOf_alike hZ.alike Ar10.2.1) Ar10.2.2 hin10 (Has.at H10 hin10 rfl) (g := (mkF m 12 #[rv va, iv 3, rv da, iv 3, iv 4, iv 3, iv c2] [(.int 3), (.ref va)])) rfl rfl (hb hby d9_12) _ gk) ?_
  show Go _ _ _ _ T8 (mkF m 13 #[rv va, iv 3, rv da, iv 3, iv 4, iv 3, iv c2] [(.int c3)])
  refine Go.istore2 15 X8 hx (L' := #[rv va, iv 3, rv da, iv 3, iv 4, iv 3, iv c3]) (hb hby d9_13) rfl rfl ?_
  refine Go.iload2 17 X8 hx (hb hby d9_15) rfl rfl ?_
  refine Go.sipush 20 X8 hx (255 : Int32) (hb hby d9_17) (by decide) rfl ?_
  refine Go.icmpY 26 X8 hx (hb hby d9_20) (XT.ii_le_t hc3) (by decide) (by decide) ?_
  refine Go.aload1 27 X8 hx (hb hby d9_26) rfl rfl rfl ?_
  refine Go.iload1 28 X8 hx (hb hby d9_27) rfl rfl ?_
  refine Go.iload2 30 X8 hx (hb hby d9_28) rfl rfl ?_
  refine Go.i2b 31 X8 hx (hb hby d9_30) rfl ?_
  obtain ⟨cl11, Ar11, q11, S11, M11, H11, G11⟩ := id V8
  have hin11 : ¬ ((3 : Int32) < 0 ∨ cl11.slots.size ≤ (3 : Int32).toNatClampNeg) := inb_of S11 ⟨by decide, by decide⟩
  obtain ⟨T11, h11, X11, e11, W11, st11⟩ := stB X8 hx hZ e8 Ar11 (j := (3 : Int32)) hin11 (g := (mkF m 31 #[rv va, iv 3, rv da, iv 3, iv 4, iv 3, iv c3] [(.int (c3.toInt8.toInt32)), (.int 3), (.ref da)])) rfl rfl (hb hby d9_31)
  have N11 := Fr.snoc X11 N8 g_da
  have V11 : Arv Z h11 da kd .byte (4 : Int32) [(.int (own_b c0)), (.int (own_b c1)), (.int (own_b c2)), (.int (nar .byte (c3.toInt8.toInt32)))] (.int 0) := Arv.set Ar11 q11 S11 M11 H11 G11 (fits_nar_byte _) W11 3 rfl (Nat.le_of_ble_eq_true rfl)
  refine Go.by st11 ?_
  show Go _ _ _ _ T11 (mkF m 32 #[rv va, iv 3, rv da, iv 3, iv 4, iv 3, iv c3] [])
  rw [own_bn] at V11
  refine Go.iinc 35 X11 hx (1 : Int32) (L' := #[rv va, iv 4, rv da, iv 3, iv 4, iv 3, iv c3]) (hb hby d9_32) (by decide) rfl rfl rfl ?_
  refine Go.iinc 38 X11 hx (1 : Int32) (L' := #[rv va, iv 4, rv da, iv 4, iv 4, iv 3, iv c3]) (hb hby d9_35) (by decide) rfl rfl rfl ?_
  refine Go.iinc 41 X11 hx (1 : Int32) (L' := #[rv va, iv 4, rv da, iv 4, iv 4, iv 4, iv c3]) (hb hby d9_38) (by decide) rfl rfl rfl ?_
  refine Go.goto 3 X11 hx (hb hby d9_41) (by decide) (by decide) ?_
  refine Go.iload2 5 X11 hx (hb hby d9_3) rfl rfl ?_
  refine Go.iload2 7 X11 hx (hb hby d9_5) rfl rfl ?_
  refine Go.icmpY 44 X11 hx (hb hby d9_7) (XT.ii_ge_t (by decide)) (by decide) (by decide) ?_
  refine Go.iload2 46 X11 hx (hb hby d9_44) rfl rfl ?_
  have F12 : Keep h0 h2 [da] := (Keep.refl h0 [da]).wr W2 (Or.inl (List.mem_of_getElem? (i := 0) rfl))
  have F13 : Keep h0 h5 [da] := F12.wr W5 (Or.inl (List.mem_of_getElem? (i := 0) rfl))
  have F14 : Keep h0 h8 [da] := F13.wr W8 (Or.inl (List.mem_of_getElem? (i := 0) rfl))
  have F15 : Keep h0 h11 [da] := F14.wr W11 (Or.inl (List.mem_of_getElem? (i := 0) rfl))
  exact Go.retI X11 hx Bd.notSynchronized Bd.returns rfl (by simp) (hb hby d9_46) (by rw [e11]; exact ⟨rfl, N11, F15, V11⟩) (by decide) (by decide)
def Q_rmC3_4 (Z : State) (va : Addr) (kv : ClassId) (c0 : Int32) (c1 : Int32) (c2 : Int32) (c3 : Int32) (h0 : Heap) (n0 : Nat) (v : Option Value) (h : Heap) (L : List Loc) : Prop := ∃ da : Addr, ∃ kd : ClassId, v = some (.ref da) ∧ Fr n0 L ∧ Keep h0 h [] ∧ Arv Z h da kd .byte (4 : Int32) ([(.int (own_b c0)), (.int (own_b c1)), (.int (own_b c2)), (.int (own_b c3))]) (.int 0) ∧ h0.size ≤ da
set_option maxRecDepth 65536 in
set_option maxHeartbeats 40000000 in
theorem rmC3_4 (l : Launch) (Z : State) (a0 : Array Value) (hw : ∀ d ∈ tables_1, d.before a0 Z = true) (ws : List Jvm.Cond) (va : Addr) (kv : ClassId) (c0 : Int32) (c1 : Int32) (c2 : Int32) (c3 : Int32) (h0 : Heap) (n0 : Nat) (Z0 : n0 ≤ h0.size) (V_va : Arv Z h0 va kv .char (4 : Int32) ([(.int c0), (.int c1), (.int c2), (.int c3)]) (.int 0)) (hc0 : (¬ (255 : Int32) < c0)) (hc1 : (¬ (255 : Int32) < c1)) (hc2 : (¬ (255 : Int32) < c2)) (hc3 : (¬ (255 : Int32) < c3)) :
    MetFree l (⟨"java/lang/StringUTF16", "compress", "([CII)[B"⟩ : MethodName) (head1 (Jvm.Cond.code (⟨"java/lang/StringUTF16", "compress", "([CII)[B"⟩ : MethodName) jdk_52_method_16_code 6 (some (.array .byte)) :: ws) ({ frames := 1, cells := 1, slots := 4, locals := 18 } : Room)) (fun as' U => as' = #[(.ref va), (.int 0), (.int 4)] ∧ Z.Warmed39 U.vm ∧ U.heap = h0) (fun _ _ _ _ _ => True) (fun _ U o U' => ∃ v L, o = .returned v ∧ Q_rmC3_4 Z va kv c0 c1 c2 c3 h0 n0 v U'.heap L ∧ FrameEnd U o U' L ({ frames := 1, cells := 1, slots := 4, locals := 18 } : Room).cells ({ frames := 1, cells := 1, slots := 4, locals := 18 } : Room).slots) := by
  refine MetFree.of_bodySF (plainFor_of_name pn_37) hisR ?_
  intro p e s m args below meth c s₁ Bd hml0 hP hK
  obtain ⟨rfl, hZ, hh⟩ := hP
  have hx := Bd.exec
  have hby := Bd.bytes
  have hml : c.maxLocals = 6 := hml0
  have hown : s.vm.findClass "java/lang/StringUTF16" = some m.cls := findClass_of_methodNamed Bd.named
  have hnm := (name_of_methodNamed Bd.named Bd.method).1
  have X0 : Stand p l e ({ frames := 1, cells := 1, slots := 4, locals := 18 } : Room) s m #[(.ref va), (.int 0), (.int 4)] below meth c s₁ [] 0 0 := Stand.of_body Bd
  have e0 : s₁.heap = h0 := by rw [← hh, Bd.state]; rfl
  have N0 := Fr.nil n0
  refine Go.enter (F := EndN s (Q_rmC3_4 Z va kv c0 c1 c2 c3 h0 n0) ({ frames := 1, cells := 1, slots := 4, locals := 18 } : Room).cells ({ frames := 1, cells := 1, slots := 4, locals := 18 } : Room).slots) (ef_62 m va (0 : Int32) (4 : Int32)) ?_
  show Go _ _ _ _ s₁ (mkF m 0 #[rv va, iv 0, iv 4, un, un, un] [])
  refine Go.iload1 1 X0 hx (hb hby d8_0) rfl rfl ?_
  obtain ⟨da, g1⟩ : ∃ z, z = h0.size := ⟨_, rfl⟩
  have ge_da : n0 ≤ da := Nat.le_trans Z0 (Nat.le_of_eq g1.symm)
  have sz_da : h0.size ≤ da := Nat.le_trans (Keep.refl h0 []).1 (Nat.le_of_eq g1.symm)
  have ne_va_da : va ≠ da := Nat.ne_of_lt (Nat.lt_of_lt_of_le V_va.lt (Nat.le_of_eq g1.symm))
  obtain ⟨T1, h1, k1, X1, e1, E1, A1, Ea1, st1⟩ := newPE X0 hx hZ (ow hw 19 rfl) e0 (g := (mkF m 1 #[rv va, iv 0, iv 4, un, un, un] [(.int 4)])) rfl (hb hby d8_1) rfl (by decide) (cap := 4) (by decide) (by decide) (by decide) (by decide) (ad := "[B") rfl
  rw [← g1] at A1 Ea1 st1
  have V_da : Arv Z h1 da k1 .byte (4 : Int32) [(.int 0), (.int 0), (.int 0), (.int 0)] (.int 0) := (Arv.new A1 (by decide)).pad (pad_rep [] (.int 0) 4)
  refine Go.by st1 ?_
  show Go _ _ _ _ T1 (mkF m 3 #[rv va, iv 0, iv 4, un, un, un] [(.ref da)])
  refine Go.astore1 4 X1 hx (L' := #[rv va, iv 0, iv 4, rv da, un, un]) (hb hby d8_3) rfl rfl rfl ?_
  refine Go.aload1 5 X1 hx (hb hby d8_4) rfl rfl rfl ?_
  refine Go.iload1 6 X1 hx (hb hby d8_5) rfl rfl ?_
  refine Go.aload1 7 X1 hx (hb hby d8_6) rfl rfl rfl ?_
  refine Go.iconst 8 X1 hx (0 : Int32) (hb hby d8_7) (by decide) rfl ?_
  refine Go.iload1 9 X1 hx (hb hby d8_8) rfl rfl ?_
  have F2 : Arv Z h1 va kv .char (4 : Int32) [(.int c0), (.int c1), (.int c2), (.int c3)] (.int 0) := V_va.ext E1
  have F3 : n0 ≤ h1.size := Nat.le_trans Z0 E1.1
  obtain ⟨_, _, ⟨T4, L4, k4, n4⟩, -, X4, ⟨Lc4, hQ4, l4, y4, z4⟩, st4⟩ := Jvm.LawKit.callS X1 hx (y := (⟨"java/lang/StringUTF16", "compress", "([CI[BII)I"⟩ : MethodName)) hown (mvT hZ (ow hw 49 rfl)) (mvT hZ (ow hw 50 rfl)) (mvT hZ (ow hw 47 rfl)) (mvT hZ (ow hw 51 rfl)) (by decide) (backOf (W := 0) (rmC5_4 l Z a0 hw [] va da kv k1 c0 c1 c2 c3 h1 n0 F3 F2 V_da ge_da ne_va_da hc0 hc1 hc2 hc3) hZ (ow hw 51 rfl) (ow hw 47 rfl) (by decide) (by decide)) (g := (mkF m 9 #[rv va, iv 0, iv 4, rv da, un, un] [(.int 4), (.int 0), (.ref da), (.int 0), (.ref va)])) rfl (by rw [hml]; rfl) (argsL := [(.ref va), (.int 0), (.ref da), (.int 0), (.int 4)]) (rest := []) (lenOf pd_71 rfl) rfl (by show 2 * 0 + _ ≤ _; exact Nat.le_of_eq rfl) (hb hby d8_9) (fun _ _ => ⟨rfl, e1, (by decide : 1 + 0 ≤ _), (by decide : 4 + 0 ≤ _)⟩)
  dsimp only [Pt.U, Pt.locs, Pt.cells, Pt.slots] at X4 l4 y4 z4 st4 hQ4
  subst l4 y4 z4
  obtain ⟨rfl, N4q, K4, Q4_0⟩ := hQ4
  have N4 := Fr.app N0 N4q
  refine Go.by st4 ?_
  show Go _ _ _ _ T4 (mkF m 12 #[rv va, iv 0, iv 4, rv da, un, un] [(.int 4)])
  refine Go.istore2 14 X4 hx (L' := #[rv va, iv 0, iv 4, rv da, iv 4, un]) (hb hby d8_12) rfl rfl ?_
  refine Go.iload2 16 X4 hx (hb hby d8_14) rfl rfl ?_
  refine Go.iload1 17 X4 hx (hb hby d8_16) rfl rfl ?_
  refine Go.icmpY 57 X4 hx (hb hby d8_17) (XT.ii_eq_t rfl) (by decide) (by decide) ?_
  refine Go.aload1 58 X4 hx (hb hby d8_57) rfl rfl rfl ?_
  have F5 : Keep h0 h1 [] := (Keep.refl h0 []).ext E1
  have F6 : Keep h0 T4.heap [] := F5.trans K4 (allS (Or.inr sz_da) all0)
  exact Go.retA X4 hx Bd.notSynchronized Bd.returns rfl rfl (hb hby d8_58) ⟨da, k1, rfl, N4, F6, Q4_0, sz_da⟩ (by decide) (by decide)
def Q_rmCoder_4 (Z : State) (da : Addr) (kd : ClassId) (vs : List Value) (h0 : Heap) (n0 : Nat) (v : Option Value) (h : Heap) (L : List Loc) : Prop := v = some (.int 0) ∧ Fr n0 L ∧ h = h0
set_option maxRecDepth 65536 in
set_option maxHeartbeats 40000000 in
theorem rmCoder_4 (l : Launch) (Z : State) (a0 : Array Value) (hw : ∀ d ∈ tables_1, d.before a0 Z = true) (ws : List Jvm.Cond) (da : Addr) (kd : ClassId) (vs : List Value) (h0 : Heap) (n0 : Nat) (Z0 : n0 ≤ h0.size) (V_da : Arv Z h0 da kd .byte (4 : Int32) vs (.int 0)) :
    MetFree l (⟨"java/lang/StringUTF16", "coderFromArrayLen", "([BI)B"⟩ : MethodName) (head1 (Jvm.Cond.code (⟨"java/lang/StringUTF16", "coderFromArrayLen", "([BI)B"⟩ : MethodName) jdk_52_method_15_code 2 (some .byte) :: ws) ({ frames := 0, cells := 0, slots := 0, locals := 0 } : Room)) (fun as' U => as' = #[(.ref da), (.int 4)] ∧ Z.Warmed39 U.vm ∧ U.heap = h0) (fun _ _ _ _ _ => True) (fun _ U o U' => ∃ v L, o = .returned v ∧ Q_rmCoder_4 Z da kd vs h0 n0 v U'.heap L ∧ FrameEnd U o U' L ({ frames := 0, cells := 0, slots := 0, locals := 0 } : Room).cells ({ frames := 0, cells := 0, slots := 0, locals := 0 } : Room).slots) := by
  refine MetFree.of_bodySF (plainFor_of_name pn_37) hisR ?_
  intro p e s m args below meth c s₁ Bd hml0 hP hK
  obtain ⟨rfl, hZ, hh⟩ := hP
  have hx := Bd.exec
  have hby := Bd.bytes
  have hml : c.maxLocals = 2 := hml0
  have hown : s.vm.findClass "java/lang/StringUTF16" = some m.cls := findClass_of_methodNamed Bd.named
  have hnm := (name_of_methodNamed Bd.named Bd.method).1
  have X0 : Stand p l e ({ frames := 0, cells := 0, slots := 0, locals := 0 } : Room) s m #[(.ref da), (.int 4)] below meth c s₁ [] 0 0 := Stand.of_body Bd
  have e0 : s₁.heap = h0 := by rw [← hh, Bd.state]; rfl
  have N0 := Fr.nil n0
  refine Go.enter (F := EndN s (Q_rmCoder_4 Z da kd vs h0 n0) ({ frames := 0, cells := 0, slots := 0, locals := 0 } : Room).cells ({ frames := 0, cells := 0, slots := 0, locals := 0 } : Room).slots) (ef_27 m da (4 : Int32)) ?_
  show Go _ _ _ _ s₁ (mkF m 0 #[rv da, iv 4] [])
  refine Go.iload1 1 X0 hx (hb hby d10_0) rfl rfl ?_
  refine Go.aload1 2 X0 hx (hb hby d10_1) rfl rfl rfl ?_
  obtain ⟨cl1, Ar1, -, S1, M1, -, -⟩ := id V_da
  refine Go.by (fun _ gk => X0.arraylength hx (by rw [e0]; exact Ar1.1) (State.isArrayOf_alike hZ.alike Ar1.2.1) (g := (mkF m 2 #[rv da, iv 4] [(.ref da), (.int 4)])) rfl rfl (hb hby d10_2) _ gk) ?_
  rw [len_of S1 M1]
  show Go _ _ _ _ s₁ (mkF m 3 #[rv da, iv 4] [(.int 4), (.int 4)])
  refine Go.isub 4 X0 hx (hb hby d10_3) rfl ?_
  rw [(by decide : ((4 : Int32) - (4 : Int32)) = (0 : Int32))]
  refine Go.bipush 6 X0 hx (31 : Int32) (hb hby d10_4) (by decide) rfl ?_
  refine Go.iushr 7 X0 hx (hb hby d10_6) rfl ?_
  rw [(by decide : (XT.ushr (0 : Int32) (31 : Int32)) = (0 : Int32))]
  refine Go.i2b 8 X0 hx (hb hby d10_7) rfl ?_
  rw [(by decide : ((0 : Int32).toInt8.toInt32) = (0 : Int32))]
  exact Go.retI X0 hx Bd.notSynchronized Bd.returns rfl (by simp) (hb hby d10_8) (by rw [e0]; exact ⟨rfl, N0, rfl⟩) (by decide) (by decide)
def Q_rmS4_4 (Z : State) (a : Addr) (va : Addr) (kv : ClassId) (c0 : Int32) (c1 : Int32) (c2 : Int32) (c3 : Int32) (cs : Int32) (h0 : Heap) (n0 : Nat) (v : Option Value) (h : Heap) (L : List Loc) : Prop := ∃ b : Addr, ∃ kb : ClassId, v = none ∧ Fr n0 L ∧ Keep h0 h [a] ∧ Exa Z h a "java/lang/String" ∧ Fld Z h a "java/lang/String" "coder" "B" (.int 0) ∧ Fld Z h a "java/lang/String" "value" "[B" (.ref b) ∧ Arv Z h b kb .byte (4 : Int32) ([(.int (own_b c0)), (.int (own_b c1)), (.int (own_b c2)), (.int (own_b c3))]) (.int 0) ∧ h0.size ≤ b
set_option maxRecDepth 65536 in
set_option maxHeartbeats 40000000 in
theorem rmS4_4 (l : Launch) (Z : State) (a0 : Array Value) (hw : ∀ d ∈ tables_1, d.before a0 Z = true) (ws : List Jvm.Cond) (a : Addr) (va : Addr) (kv : ClassId) (c0 : Int32) (c1 : Int32) (c2 : Int32) (c3 : Int32) (cs : Int32) (h0 : Heap) (n0 : Nat) (Z0 : n0 ≤ h0.size) (O0 : Old Z n0 h0) (E_a : Exa Z h0 a "java/lang/String") (F_a_value : Fld Z h0 a "java/lang/String" "value" "[B" .null) (F_a_coder : Fld Z h0 a "java/lang/String" "coder" "B" (.int 0)) (g_a : n0 ≤ a) (V_va : Arv Z h0 va kv .char (4 : Int32) ([(.int c0), (.int c1), (.int c2), (.int c3)]) (.int 0)) (hc0 : (¬ (255 : Int32) < c0)) (hc1 : (¬ (255 : Int32) < c1)) (hc2 : (¬ (255 : Int32) < c2)) (hc3 : (¬ (255 : Int32) < c3)) (S_cs : Sta Z Z.heap "java/lang/String" "COMPACT_STRINGS" "Z" (.int cs)) (n_cs : ¬ cs = 0) :
    MetFree l (⟨"java/lang/String", "<init>", "([CIILjava/lang/Void;)V"⟩ : MethodName) (head1 (Jvm.Cond.code (⟨"java/lang/String", "<init>", "([CIILjava/lang/Void;)V"⟩ : MethodName) jdk_42_method_149_code 6 none :: ws) ({ frames := 2, cells := 1, slots := 4, locals := 35 } : Room)) (fun as' U => as' = #[(.ref a), (.ref va), (.int 0), (.int 4), .null] ∧ Z.Warmed39 U.vm ∧ U.heap = h0) (fun _ _ _ _ _ => True) (fun _ U o U' => ∃ v L, o = .returned v ∧ Q_rmS4_4 Z a va kv c0 c1 c2 c3 cs h0 n0 v U'.heap L ∧ FrameEnd U o U' L ({ frames := 2, cells := 1, slots := 4, locals := 35 } : Room).cells ({ frames := 2, cells := 1, slots := 4, locals := 35 } : Room).slots) := by
  refine MetFree.of_bodySF (plainFor_of_name pn_1) hisR ?_
  intro p e s m args below meth c s₁ Bd hml0 hP hK
  obtain ⟨rfl, hZ, hh⟩ := hP
  have hx := Bd.exec
  have hby := Bd.bytes
  have hml : c.maxLocals = 6 := hml0
  have hown : s.vm.findClass "java/lang/String" = some m.cls := findClass_of_methodNamed Bd.named
  have hnm := (name_of_methodNamed Bd.named Bd.method).1
  have X0 : Stand p l e ({ frames := 2, cells := 1, slots := 4, locals := 35 } : Room) s m #[(.ref a), (.ref va), (.int 0), (.int 4), .null] below meth c s₁ [] 0 0 := Stand.of_body Bd
  have e0 : s₁.heap = h0 := by rw [← hh, Bd.state]; rfl
  have N0 := Fr.nil n0
  refine Go.enter (F := EndN s (Q_rmS4_4 Z a va kv c0 c1 c2 c3 cs h0 n0) ({ frames := 2, cells := 1, slots := 4, locals := 35 } : Room).cells ({ frames := 2, cells := 1, slots := 4, locals := 35 } : Room).slots) (ef_2 m a va (0 : Int32) (4 : Int32)) ?_
  show Go _ _ _ _ s₁ (mkF m 0 #[rv a, rv va, iv 0, iv 4, .val .null, un] [])
  refine Go.aload1 1 X0 hx (hb hby d3_0) rfl rfl rfl ?_
  obtain ⟨T1, X1, e1, st1⟩ := initO X0 hx hZ hown (ow hw 15 rfl) (ow hw 16 rfl) (ow hw 17 rfl) e0 (g := (mkF m 1 #[rv a, rv va, iv 0, iv 4, .val .null, un] [(.ref a)])) rfl (by rw [hml]; rfl) rfl (hb hby d3_1) (by decide) (W := 0) (by show 2 * 0 + _ ≤ _; exact Nat.le_of_eq rfl) (by decide)
  refine Go.by st1 ?_
  show Go _ _ _ _ T1 (mkF m 4 #[rv a, rv va, iv 0, iv 4, .val .null, un] [])
  refine Go.iload1 5 X1 hx (hb hby d3_4) rfl rfl ?_
  refine Go.ifY 27 X1 hx (hb hby d3_5) (XT.i0_ne_t (by decide)) (by decide) (by decide) ?_
  have F2 : Sta Z h0 "java/lang/String" "COMPACT_STRINGS" "Z" (.int cs) := S_cs.ext O0.2
  obtain ⟨T3, X3, e3, st3⟩ := getS2 X1 hx hZ hown (host := "") (Or.inl (ow hw 37 rfl)) Via.refl e1 F2 (g := (mkF m 27 #[rv a, rv va, iv 0, iv 4, .val .null, un] [])) rfl (hb hby d3_27)
  refine Go.by st3 ?_
  show Go _ _ _ _ T3 (mkF m 30 #[rv a, rv va, iv 0, iv 4, .val .null, un] [(.int cs)])
  refine Go.ifN 33 X3 hx (hb hby d3_30) (XT.i0_eq_f n_cs) rfl ?_
  refine Go.aload1 34 X3 hx (hb hby d3_33) rfl rfl rfl ?_
  refine Go.iload1 35 X3 hx (hb hby d3_34) rfl rfl ?_
  refine Go.iload1 36 X3 hx (hb hby d3_35) rfl rfl ?_
  obtain ⟨_, _, ⟨T4, L4, k4, n4⟩, -, X4, ⟨Lc4, hQ4, l4, y4, z4⟩, st4⟩ := Jvm.LawKit.callS X3 hx (y := (⟨"java/lang/StringUTF16", "compress", "([CII)[B"⟩ : MethodName)) hown (mvT hZ (ow hw 45 rfl)) (mvT hZ (ow hw 46 rfl)) (mvT hZ (ow hw 47 rfl)) (mvT hZ (ow hw 48 rfl)) (by decide) (backOf (W := 0) (rmC3_4 l Z a0 hw [] va kv c0 c1 c2 c3 h0 n0 Z0 V_va hc0 hc1 hc2 hc3) hZ (ow hw 48 rfl) (ow hw 47 rfl) (by decide) (by decide)) (g := (mkF m 36 #[rv a, rv va, iv 0, iv 4, .val .null, un] [(.int 4), (.int 0), (.ref va)])) rfl (by rw [hml]; rfl) (argsL := [(.ref va), (.int 0), (.int 4)]) (rest := []) (lenOf pd_92 rfl) rfl (by show 2 * 0 + _ ≤ _; exact Nat.le_of_eq rfl) (hb hby d3_36) (fun _ _ => ⟨rfl, e3, (by decide : 0 + 1 ≤ _), (by decide : 0 + 4 ≤ _)⟩)
  dsimp only [Pt.U, Pt.locs, Pt.cells, Pt.slots] at X4 l4 y4 z4 st4 hQ4
  subst l4 y4 z4
  obtain ⟨b, kb, rfl, N4q, K4, Q4_0, Q4_1⟩ := hQ4
  have N4 := Fr.app N0 N4q
  refine Go.by st4 ?_
  show Go _ _ _ _ T4 (mkF m 39 #[rv a, rv va, iv 0, iv 4, .val .null, un] [(.ref b)])
  have ge_b : n0 ≤ b := Nat.le_trans Z0 Q4_1
  have sz_b : h0.size ≤ b := Nat.le_trans (Keep.refl h0 [a]).1 Q4_1
  have ne_a_b : a ≠ b := Nat.ne_of_lt (Nat.lt_of_lt_of_le E_a.lt Q4_1)
  have ne_va_b : va ≠ b := Nat.ne_of_lt (Nat.lt_of_lt_of_le V_va.lt Q4_1)
  refine Go.astore2 41 X4 hx (L' := #[rv a, rv va, iv 0, iv 4, .val .null, rv b]) (hb hby d3_39) rfl rfl rfl ?_
  refine Go.aload1 42 X4 hx (hb hby d3_41) rfl rfl rfl ?_
  refine Go.aload2 44 X4 hx (hb hby d3_42) rfl rfl rfl ?_
  refine Go.iload1 45 X4 hx (hb hby d3_44) rfl rfl ?_
  have F5 : n0 ≤ T4.heap.size := Nat.le_trans Z0 K4.1
  obtain ⟨_, _, ⟨T6, L6, k6, n6⟩, -, X6, ⟨Lc6, hQ6, l6, y6, z6⟩, st6⟩ := Jvm.LawKit.callS X4 hx (y := (⟨"java/lang/StringUTF16", "coderFromArrayLen", "([BI)B"⟩ : MethodName)) hown (mvT hZ (ow hw 52 rfl)) (mvT hZ (ow hw 53 rfl)) (mvT hZ (ow hw 47 rfl)) (mvT hZ (ow hw 54 rfl)) (by decide) (backOf (W := 1) (rmCoder_4 l Z a0 hw [] b kb ([(.int (own_b c0)), (.int (own_b c1)), (.int (own_b c2)), (.int (own_b c3))]) T4.heap n0 F5 Q4_0) hZ (ow hw 54 rfl) (ow hw 47 rfl) (by decide) (by decide)) (g := (mkF m 45 #[rv a, rv va, iv 0, iv 4, .val .null, rv b] [(.int 4), (.ref b), (.ref a)])) rfl (by rw [hml]; rfl) (argsL := [(.ref b), (.int 4)]) (rest := [(.ref a)]) (lenOf pd_98 rfl) rfl (by show 2 * 0 + _ ≤ _; exact Nat.le_of_eq rfl) (hb hby d3_45) (fun _ _ => ⟨rfl, rfl, (by decide : 1 + 0 ≤ _), (by decide : 4 + 0 ≤ _)⟩)
  dsimp only [Pt.U, Pt.locs, Pt.cells, Pt.slots] at X6 l6 y6 z6 st6 hQ6
  subst l6 y6 z6
  obtain ⟨rfl, N6q, e6⟩ := hQ6
  have N6 := Fr.app N4 N6q
  refine Go.by st6 ?_
  show Go _ _ _ _ T6 (mkF m 48 #[rv a, rv va, iv 0, iv 4, .val .null, rv b] [(.int 0), (.ref a)])
  have F7 : Fld Z T4.heap a "java/lang/String" "coder" "B" (.int 0) := F_a_coder.keep K4 nin0
  have F8 : Exa Z T4.heap a "java/lang/String" := E_a.keep K4
  obtain ⟨T9, h9, X9, e9, W9, st9⟩ := putFN X6 hx hZ hown (ow hw 25 rfl) Via.refl e6 F7 F8 (Or.inr ⟨(ow hw 21 rfl), rfl, hnm⟩) (ow hw 6 rfl) (ty := .byte) (v' := (.int 0)) (by decide) rfl rfl (g := (mkF m 48 #[rv a, rv va, iv 0, iv 4, .val .null, rv b] [(.int 0), (.ref a)])) rfl rfl (hb hby d3_48)
  have N9 := Fr.snoc X9 N6 g_a
  have Fw9 : Fld Z h9 a "java/lang/String" "coder" "B" (.int 0) := F7.same W9
  refine Go.by st9 ?_
  show Go _ _ _ _ T9 (mkF m 51 #[rv a, rv va, iv 0, iv 4, .val .null, rv b] [])
  refine Go.aload1 52 X9 hx (hb hby d3_51) rfl rfl rfl ?_
  refine Go.aload2 54 X9 hx (hb hby d3_52) rfl rfl rfl ?_
  have F10 : Fld Z T4.heap a "java/lang/String" "value" "[B" .null := F_a_value.keep K4 nin0
  have F11 : Fld Z h9 a "java/lang/String" "value" "[B" .null := F10.other W9 (Or.inr (slot_ne (Or.inr (ow hw 20 rfl)) (Or.inr (ow hw 21 rfl)) (by decide) (t := (.array .byte)) (t' := .byte) (by decide) (by decide)))
  have F12 : Exa Z h9 a "java/lang/String" := F8.wr W9
  obtain ⟨T13, h13, X13, e13, W13, st13⟩ := putF X9 hx hZ hown (host := "") (Or.inl (ow hw 24 rfl)) Via.refl e9 F11 F12 (Or.inr ⟨(ow hw 20 rfl), rfl, hnm⟩) (ow hw 6 rfl) (ty := (.array .byte)) (by decide) rfl rfl (g := (mkF m 54 #[rv a, rv va, iv 0, iv 4, .val .null, rv b] [(.ref b), (.ref a)])) rfl rfl (hb hby d3_54)
  have N13 := Fr.snoc X13 N9 g_a
  have Fw13 : Fld Z h13 a "java/lang/String" "value" "[B" (.ref b) := F11.same W13
  refine Go.by st13 ?_
  show Go _ _ _ _ T13 (mkF m 57 #[rv a, rv va, iv 0, iv 4, .val .null, rv b] [])
  have F14 : Keep h0 T4.heap [a] := (Keep.refl h0 [a]).trans K4 all0
  have F15 : Keep h0 h9 [a] := F14.wr W9 (Or.inl (List.mem_of_getElem? (i := 0) rfl))
  have F16 : Keep h0 h13 [a] := F15.wr W13 (Or.inl (List.mem_of_getElem? (i := 0) rfl))
  have F17 : Exa Z h13 a "java/lang/String" := F12.wr W13
  have F18 : Fld Z h13 a "java/lang/String" "coder" "B" (.int 0) := Fw9.other W13 (Or.inr (slot_ne (Or.inr (ow hw 21 rfl)) (Or.inr (ow hw 20 rfl)) (by decide) (t := .byte) (t' := (.array .byte)) (by decide) (by decide)))
  have F19 : Arv Z h9 b kb .byte (4 : Int32) [(.int (own_b c0)), (.int (own_b c1)), (.int (own_b c2)), (.int (own_b c3))] (.int 0) := Q4_0.other W9 (Ne.symm ne_a_b)
  have F20 : Arv Z h13 b kb .byte (4 : Int32) [(.int (own_b c0)), (.int (own_b c1)), (.int (own_b c2)), (.int (own_b c3))] (.int 0) := F19.other W13 (Ne.symm ne_a_b)
  exact Go.retV X13 hx Bd.notSynchronized Bd.returns (hb hby d3_57) (by rw [e13]; exact ⟨b, kb, rfl, N13, F16, F17, F18, Fw13, F20, sz_b⟩) (by decide) (by decide)
def Q_rmS1_4 (Z : State) (a : Addr) (va : Addr) (kv : ClassId) (c0 : Int32) (c1 : Int32) (c2 : Int32) (c3 : Int32) (cs : Int32) (h0 : Heap) (n0 : Nat) (v : Option Value) (h : Heap) (L : List Loc) : Prop := ∃ b : Addr, ∃ kb : ClassId, v = none ∧ Fr n0 L ∧ Keep h0 h [a] ∧ Exa Z h a "java/lang/String" ∧ Fld Z h a "java/lang/String" "coder" "B" (.int 0) ∧ Fld Z h a "java/lang/String" "value" "[B" (.ref b) ∧ Arv Z h b kb .byte (4 : Int32) ([(.int (own_b c0)), (.int (own_b c1)), (.int (own_b c2)), (.int (own_b c3))]) (.int 0) ∧ h0.size ≤ b
set_option maxRecDepth 65536 in
set_option maxHeartbeats 40000000 in
theorem rmS1_4 (l : Launch) (Z : State) (a0 : Array Value) (hw : ∀ d ∈ tables_1, d.before a0 Z = true) (ws : List Jvm.Cond) (a : Addr) (va : Addr) (kv : ClassId) (c0 : Int32) (c1 : Int32) (c2 : Int32) (c3 : Int32) (cs : Int32) (h0 : Heap) (n0 : Nat) (Z0 : n0 ≤ h0.size) (O0 : Old Z n0 h0) (E_a : Exa Z h0 a "java/lang/String") (F_a_value : Fld Z h0 a "java/lang/String" "value" "[B" .null) (F_a_coder : Fld Z h0 a "java/lang/String" "coder" "B" (.int 0)) (g_a : n0 ≤ a) (V_va : Arv Z h0 va kv .char (4 : Int32) ([(.int c0), (.int c1), (.int c2), (.int c3)]) (.int 0)) (hc0 : (¬ (255 : Int32) < c0)) (hc1 : (¬ (255 : Int32) < c1)) (hc2 : (¬ (255 : Int32) < c2)) (hc3 : (¬ (255 : Int32) < c3)) (S_cs : Sta Z Z.heap "java/lang/String" "COMPACT_STRINGS" "Z" (.int cs)) (n_cs : ¬ cs = 0) :
    MetFree l (⟨"java/lang/String", "<init>", "([C)V"⟩ : MethodName) (head1 (Jvm.Cond.code (⟨"java/lang/String", "<init>", "([C)V"⟩ : MethodName) jdk_42_method_3_code 2 none :: ws) ({ frames := 3, cells := 1, slots := 4, locals := 52 } : Room)) (fun as' U => as' = #[(.ref a), (.ref va)] ∧ Z.Warmed39 U.vm ∧ U.heap = h0) (fun _ _ _ _ _ => True) (fun _ U o U' => ∃ v L, o = .returned v ∧ Q_rmS1_4 Z a va kv c0 c1 c2 c3 cs h0 n0 v U'.heap L ∧ FrameEnd U o U' L ({ frames := 3, cells := 1, slots := 4, locals := 52 } : Room).cells ({ frames := 3, cells := 1, slots := 4, locals := 52 } : Room).slots) := by
  refine MetFree.of_bodySF (plainFor_of_name pn_1) hisR ?_
  intro p e s m args below meth c s₁ Bd hml0 hP hK
  obtain ⟨rfl, hZ, hh⟩ := hP
  have hx := Bd.exec
  have hby := Bd.bytes
  have hml : c.maxLocals = 2 := hml0
  have hown : s.vm.findClass "java/lang/String" = some m.cls := findClass_of_methodNamed Bd.named
  have hnm := (name_of_methodNamed Bd.named Bd.method).1
  have X0 : Stand p l e ({ frames := 3, cells := 1, slots := 4, locals := 52 } : Room) s m #[(.ref a), (.ref va)] below meth c s₁ [] 0 0 := Stand.of_body Bd
  have e0 : s₁.heap = h0 := by rw [← hh, Bd.state]; rfl
  have N0 := Fr.nil n0
  refine Go.enter (F := EndN s (Q_rmS1_4 Z a va kv c0 c1 c2 c3 cs h0 n0) ({ frames := 3, cells := 1, slots := 4, locals := 52 } : Room).cells ({ frames := 3, cells := 1, slots := 4, locals := 52 } : Room).slots) (ef_16 m a va) ?_
  show Go _ _ _ _ s₁ (mkF m 0 #[rv a, rv va] [])
  refine Go.aload1 1 X0 hx (hb hby d2_0) rfl rfl rfl ?_
  refine Go.aload1 2 X0 hx (hb hby d2_1) rfl rfl rfl ?_
  refine Go.iconst 3 X0 hx (0 : Int32) (hb hby d2_2) (by decide) rfl ?_
  refine Go.aload1 4 X0 hx (hb hby d2_3) rfl rfl rfl ?_
  obtain ⟨cl1, Ar1, -, S1, M1, -, -⟩ := id V_va
  refine Go.by (fun _ gk => X0.arraylength hx (by rw [e0]; exact Ar1.1) (State.isArrayOf_alike hZ.alike Ar1.2.1) (g := (mkF m 4 #[rv a, rv va] [(.ref va), (.int 0), (.ref va), (.ref a)])) rfl rfl (hb hby d2_4) _ gk) ?_
  rw [len_of S1 M1]
  show Go _ _ _ _ s₁ (mkF m 5 #[rv a, rv va] [(.int 4), (.int 0), (.ref va), (.ref a)])
  refine Go.aconst_null 6 X0 hx (hb hby d2_5) rfl ?_
  obtain ⟨_, _, ⟨T2, L2, k2, n2⟩, -, X2, ⟨Lc2, hQ2, l2, y2, z2⟩, st2⟩ := X0.specialBack hx (y := (⟨"java/lang/String", "<init>", "([CIILjava/lang/Void;)V"⟩ : MethodName)) rfl hown (mvT hZ (ow hw 11 rfl)) (mvT hZ (ow hw 12 rfl)) (mvT hZ (ow hw 14 rfl)) (by decide) (backOf (W := 0) (rmS4_4 l Z a0 hw [] a va kv c0 c1 c2 c3 cs h0 n0 Z0 O0 E_a F_a_value F_a_coder g_a V_va hc0 hc1 hc2 hc3 S_cs n_cs) hZ (ow hw 14 rfl) (ow hw 7 rfl) (by decide) (by decide)) (g := (mkF m 6 #[rv a, rv va] [.null, (.int 4), (.int 0), (.ref va), (.ref a)])) rfl (by rw [hml]; rfl) (Steps.refl _) (a := a) (argsL := [(.ref va), (.int 0), (.int 4), .null]) (rest := []) (lenOf pd_23 rfl) rfl (by show 2 * 0 + _ ≤ _; exact Nat.le_of_eq rfl) (hb hby d2_6) (fun _ _ => ⟨rfl, e0, (by decide : 0 + 1 ≤ _), (by decide : 0 + 4 ≤ _)⟩)
  dsimp only [Pt.U, Pt.locs, Pt.cells, Pt.slots] at X2 l2 y2 z2 st2 hQ2
  subst l2 y2 z2
  obtain ⟨b, kb, rfl, N2q, K2, Q2_0, Q2_1, Q2_2, Q2_3, Q2_4⟩ := hQ2
  have N2 := Fr.app N0 N2q
  refine Go.to st2 ?_
  show Go _ _ _ _ T2 (mkF m 9 #[rv a, rv va] [])
  have ge_b : n0 ≤ b := Nat.le_trans Z0 Q2_4
  have sz_b : h0.size ≤ b := Nat.le_trans (Keep.refl h0 [a]).1 Q2_4
  have ne_a_b : a ≠ b := Nat.ne_of_lt (Nat.lt_of_lt_of_le E_a.lt Q2_4)
  have ne_va_b : va ≠ b := Nat.ne_of_lt (Nat.lt_of_lt_of_le V_va.lt Q2_4)
  have F3 : Keep h0 T2.heap [a] := (Keep.refl h0 [a]).trans K2 (allS (Or.inl (List.mem_of_getElem? (i := 0) rfl)) all0)
  exact Go.retV X2 hx Bd.notSynchronized Bd.returns (hb hby d2_9) ⟨b, kb, rfl, N2, F3, Q2_0, Q2_1, Q2_2, Q2_3, sz_b⟩ (by decide) (by decide)
theorem d1_99 : decode method_3_code 99 = .ok (.iload_n 1, 1) := by decide +kernel
theorem d1_100 : decode method_3_code 100 = .ok (.iconst 4, 1) := by decide +kernel
theorem d1_101 : decode method_3_code 101 = .ok (.if_icmp .ne 38, 3) := by decide +kernel
theorem d1_104 : decode method_3_code 104 = .ok (.new 25, 3) := by decide +kernel
theorem d1_107 : decode method_3_code 107 = .ok (.dup, 1) := by decide +kernel
theorem d1_108 : decode method_3_code 108 = .ok (.iconst 4, 1) := by decide +kernel
theorem d1_109 : decode method_3_code 109 = .ok (.newarray .char, 2) := by decide +kernel
theorem d1_111 : decode method_3_code 111 = .ok (.dup, 1) := by decide +kernel
theorem d1_112 : decode method_3_code 112 = .ok (.iconst 0, 1) := by decide +kernel
theorem d1_113 : decode method_3_code 113 = .ok (.aload_n 0, 1) := by decide +kernel
theorem d1_114 : decode method_3_code 114 = .ok (.iconst 0, 1) := by decide +kernel
theorem d1_115 : decode method_3_code 115 = .ok (.caload, 1) := by decide +kernel
theorem d1_116 : decode method_3_code 116 = .ok (.castore, 1) := by decide +kernel
theorem d1_117 : decode method_3_code 117 = .ok (.dup, 1) := by decide +kernel
theorem d1_118 : decode method_3_code 118 = .ok (.iconst 1, 1) := by decide +kernel
theorem d1_119 : decode method_3_code 119 = .ok (.aload_n 0, 1) := by decide +kernel
theorem d1_120 : decode method_3_code 120 = .ok (.iconst 1, 1) := by decide +kernel
theorem d1_121 : decode method_3_code 121 = .ok (.caload, 1) := by decide +kernel
theorem d1_122 : decode method_3_code 122 = .ok (.castore, 1) := by decide +kernel
theorem d1_123 : decode method_3_code 123 = .ok (.dup, 1) := by decide +kernel
theorem d1_124 : decode method_3_code 124 = .ok (.iconst 2, 1) := by decide +kernel
theorem d1_125 : decode method_3_code 125 = .ok (.aload_n 0, 1) := by decide +kernel
theorem d1_126 : decode method_3_code 126 = .ok (.iconst 2, 1) := by decide +kernel
theorem d1_127 : decode method_3_code 127 = .ok (.caload, 1) := by decide +kernel
theorem d1_128 : decode method_3_code 128 = .ok (.castore, 1) := by decide +kernel
theorem d1_129 : decode method_3_code 129 = .ok (.dup, 1) := by decide +kernel
theorem d1_130 : decode method_3_code 130 = .ok (.iconst 3, 1) := by decide +kernel
theorem d1_131 : decode method_3_code 131 = .ok (.aload_n 0, 1) := by decide +kernel
theorem d1_132 : decode method_3_code 132 = .ok (.iconst 3, 1) := by decide +kernel
theorem d1_133 : decode method_3_code 133 = .ok (.caload, 1) := by decide +kernel
theorem d1_134 : decode method_3_code 134 = .ok (.castore, 1) := by decide +kernel
theorem d1_135 : decode method_3_code 135 = .ok (.invokespecial 27, 3) := by decide +kernel
theorem d1_138 : decode method_3_code 138 = .ok (.areturn, 1) := by decide +kernel
def Q_rmStr4 (Z : State) (ta : Addr) (kt : ClassId) (t0 : Int32) (t1 : Int32) (t2 : Int32) (t3 : Int32) (t4 : Int32) (t5 : Int32) (cs : Int32) (h0 : Heap) (n0 : Nat) (v : Option Value) (h : Heap) (L : List Loc) : Prop := ∃ st : Addr, ∃ sb : Addr, ∃ kb : ClassId, v = some (.ref st) ∧ Fr n0 L ∧ Keep h0 h [] ∧ Exa Z h st "java/lang/String" ∧ Fld Z h st "java/lang/String" "coder" "B" (.int 0) ∧ Fld Z h st "java/lang/String" "value" "[B" (.ref sb) ∧ Arv Z h sb kb .byte (4 : Int32) ([(.int (own_b t0)), (.int (own_b t1)), (.int (own_b t2)), (.int (own_b t3))]) (.int 0) ∧ h0.size ≤ st
set_option maxRecDepth 65536 in
set_option maxHeartbeats 40000000 in
theorem rmStr4 (l : Launch) (Z : State) (a0 : Array Value) (hw : ∀ d ∈ tables_1, d.before a0 Z = true) (ws : List Jvm.Cond) (ta : Addr) (kt : ClassId) (t0 : Int32) (t1 : Int32) (t2 : Int32) (t3 : Int32) (t4 : Int32) (t5 : Int32) (cs : Int32) (h0 : Heap) (n0 : Nat) (Z0 : n0 ≤ h0.size) (O0 : Old Z n0 h0) (V_ta : Arv Z h0 ta kt .char (6 : Int32) ([(.int t0), (.int t1), (.int t2), (.int t3), (.int t4), (.int t5)]) (.int 0)) (hb0 : (¬ t0 < 0 ∧ ¬ (255 : Int32) < t0)) (hb1 : (¬ t1 < 0 ∧ ¬ (255 : Int32) < t1)) (hb2 : (¬ t2 < 0 ∧ ¬ (255 : Int32) < t2)) (hb3 : (¬ t3 < 0 ∧ ¬ (255 : Int32) < t3)) (S_cs : Sta Z Z.heap "java/lang/String" "COMPACT_STRINGS" "Z" (.int cs)) (n_cs : ¬ cs = 0) :
    MetFree l (⟨"com/example/entries_to_nodes/entriestonodes/xml/XsBooleanReadPinLaw", "str", "([CI)Ljava/lang/String;"⟩ : MethodName) (head1 (Jvm.Cond.code (⟨"com/example/entries_to_nodes/entriestonodes/xml/XsBooleanReadPinLaw", "str", "([CI)Ljava/lang/String;"⟩ : MethodName) method_3_code 2 (some (.object "java/lang/String")) :: ws) ({ frames := 4, cells := 3, slots := 12, locals := 66 } : Room)) (fun as' U => as' = #[(.ref ta), (.int 4)] ∧ Z.Warmed39 U.vm ∧ U.heap = h0) (fun _ _ _ _ _ => True) (fun _ U o U' => ∃ v L, o = .returned v ∧ Q_rmStr4 Z ta kt t0 t1 t2 t3 t4 t5 cs h0 n0 v U'.heap L ∧ FrameEnd U o U' L ({ frames := 4, cells := 3, slots := 12, locals := 66 } : Room).cells ({ frames := 4, cells := 3, slots := 12, locals := 66 } : Room).slots) := by
  refine MetFree.of_bodySF (plainFor_of_name pn_26) hisR ?_
  intro p e s m args below meth c s₁ Bd hml0 hP hK
  obtain ⟨rfl, hZ, hh⟩ := hP
  have hx := Bd.exec
  have hby := Bd.bytes
  have hml : c.maxLocals = 2 := hml0
  have hown : s.vm.findClass "com/example/entries_to_nodes/entriestonodes/xml/XsBooleanReadPinLaw" = some m.cls := findClass_of_methodNamed Bd.named
  have hnm := (name_of_methodNamed Bd.named Bd.method).1
  have X0 : Stand p l e ({ frames := 4, cells := 3, slots := 12, locals := 66 } : Room) s m #[(.ref ta), (.int 4)] below meth c s₁ [] 0 0 := Stand.of_body Bd
  have e0 : s₁.heap = h0 := by rw [← hh, Bd.state]; rfl
  have N0 := Fr.nil n0
  refine Go.enter (F := EndN s (Q_rmStr4 Z ta kt t0 t1 t2 t3 t4 t5 cs h0 n0) ({ frames := 4, cells := 3, slots := 12, locals := 66 } : Room).cells ({ frames := 4, cells := 3, slots := 12, locals := 66 } : Room).slots) (ef_27 m ta (4 : Int32)) ?_
  show Go _ _ _ _ s₁ (mkF m 0 #[rv ta, iv 4] [])
  refine Go.iload1 1 X0 hx (hb hby d1_0) rfl rfl ?_
  refine Go.ifY 15 X0 hx (hb hby d1_1) (XT.i0_ne_t (by decide)) (by decide) (by decide) ?_
  refine Go.iload1 16 X0 hx (hb hby d1_15) rfl rfl ?_
  refine Go.iconst 17 X0 hx (1 : Int32) (hb hby d1_16) (by decide) rfl ?_
  refine Go.icmpY 37 X0 hx (hb hby d1_17) (XT.ii_ne_t (by decide)) (by decide) (by decide) ?_
  refine Go.iload1 38 X0 hx (hb hby d1_37) rfl rfl ?_
  refine Go.iconst 39 X0 hx (2 : Int32) (hb hby d1_38) (by decide) rfl ?_
  refine Go.icmpY 65 X0 hx (hb hby d1_39) (XT.ii_ne_t (by decide)) (by decide) (by decide) ?_
  refine Go.iload1 66 X0 hx (hb hby d1_65) rfl rfl ?_
  refine Go.iconst 67 X0 hx (3 : Int32) (hb hby d1_66) (by decide) rfl ?_
  refine Go.icmpY 99 X0 hx (hb hby d1_67) (XT.ii_ne_t (by decide)) (by decide) (by decide) ?_
  refine Go.iload1 100 X0 hx (hb hby d1_99) rfl rfl ?_
  refine Go.iconst 101 X0 hx (4 : Int32) (hb hby d1_100) (by decide) rfl ?_
  refine Go.icmpN 104 X0 hx (hb hby d1_101) (XT.ii_ne_f rfl) rfl ?_
  obtain ⟨st, g1⟩ : ∃ z, z = h0.size := ⟨_, rfl⟩
  have ge_st : n0 ≤ st := Nat.le_trans Z0 (Nat.le_of_eq g1.symm)
  have sz_st : h0.size ≤ st := Nat.le_trans (Keep.refl h0 []).1 (Nat.le_of_eq g1.symm)
  have ne_ta_st : ta ≠ st := Nat.ne_of_lt (Nat.lt_of_lt_of_le V_ta.lt (Nat.le_of_eq g1.symm))
  obtain ⟨T1, h1, X1, e1, E1, A1, D1, -, st1⟩ := newO X0 hx hZ hown (ow hw 5 rfl) (ow hw 6 rfl) (ow hw 7 rfl) e0 (g := (mkF m 104 #[rv ta, iv 4] [])) rfl (hb hby d1_104) (by decide) (by decide)
  rw [← g1] at A1 D1 st1
  have F_value_st : Fld Z h1 st "java/lang/String" "value" "[B" .null := D1 (Or.inr (ow hw 20 rfl)) (ty := (.array .byte)) (by decide)
  have F_coder_st : Fld Z h1 st "java/lang/String" "coder" "B" (.int 0) := D1 (Or.inr (ow hw 21 rfl)) (ty := .byte) (by decide)
  refine Go.by st1 ?_
  show Go _ _ _ _ T1 (mkF m 107 #[rv ta, iv 4] [(.ref st)])
  refine Go.dup 108 X1 hx (hb hby d1_107) rfl rfl ?_
  refine Go.iconst 109 X1 hx (4 : Int32) (hb hby d1_108) (by decide) rfl ?_
  obtain ⟨ca, g2⟩ : ∃ z, z = h1.size := ⟨_, rfl⟩
  have F3 : n0 ≤ h1.size := Nat.le_trans Z0 E1.1
  have ge_ca : n0 ≤ ca := Nat.le_trans F3 (Nat.le_of_eq g2.symm)
  have F4 : Keep h0 h1 [] := (Keep.refl h0 []).ext E1
  have sz_ca : h0.size ≤ ca := Nat.le_trans F4.1 (Nat.le_of_eq g2.symm)
  have ne_st_ca : st ≠ ca := Nat.ne_of_lt (Nat.lt_of_lt_of_le A1.lt (Nat.le_of_eq g2.symm))
  have F5 : Arv Z h1 ta kt .char (6 : Int32) [(.int t0), (.int t1), (.int t2), (.int t3), (.int t4), (.int t5)] (.int 0) := V_ta.ext E1
  have ne_ta_ca : ta ≠ ca := Nat.ne_of_lt (Nat.lt_of_lt_of_le F5.lt (Nat.le_of_eq g2.symm))
  obtain ⟨T2, h2, k2, X2, e2, E2, A2, Ea2, st2⟩ := newPE X1 hx hZ (ow hw 0 rfl) e1 (g := (mkF m 109 #[rv ta, iv 4] [(.int 4), (.ref st), (.ref st)])) rfl (hb hby d1_109) rfl (by decide) (cap := 4) (by decide) (by decide) (by decide) (by decide) (ad := "[C") rfl
  rw [← g2] at A2 Ea2 st2
  have V_ca : Arv Z h2 ca k2 .char (4 : Int32) [(.int 0), (.int 0), (.int 0), (.int 0)] (.int 0) := (Arv.new A2 (by decide)).pad (pad_rep [] (.int 0) 4)
  refine Go.by st2 ?_
  show Go _ _ _ _ T2 (mkF m 111 #[rv ta, iv 4] [(.ref ca), (.ref st), (.ref st)])
  refine Go.dup 112 X2 hx (hb hby d1_111) rfl rfl ?_
  refine Go.iconst 113 X2 hx (0 : Int32) (hb hby d1_112) (by decide) rfl ?_
  refine Go.aload1 114 X2 hx (hb hby d1_113) rfl rfl rfl ?_
  refine Go.iconst 115 X2 hx (0 : Int32) (hb hby d1_114) (by decide) rfl ?_
  have F6 : Arv Z h2 ta kt .char (6 : Int32) [(.int t0), (.int t1), (.int t2), (.int t3), (.int t4), (.int t5)] (.int 0) := F5.ext E2
  obtain ⟨cl7, Ar7, -, S7, M7, H7, -⟩ := id F6
  have hin7 : ¬ ((0 : Int32) < 0 ∨ cl7.slots.size ≤ (0 : Int32).toNatClampNeg) := inb_of S7 ⟨by decide, by decide⟩
  refine Go.by (fun _ gk => X2.caload hx (j := (0 : Int32)) (v := (.int t0)) (by rw [e2]; exact Ar7.1) (State.isArrayOf_alike hZ.alike Ar7.2.1) Ar7.2.2 hin7 (Has.at H7 hin7 rfl) (g := (mkF m 115 #[rv ta, iv 4] [(.int 0), (.ref ta), (.int 0), (.ref ca), (.ref ca), (.ref st), (.ref st)])) rfl rfl (hb hby d1_115) _ gk) ?_
  show Go _ _ _ _ T2 (mkF m 116 #[rv ta, iv 4] [(.int t0), (.int 0), (.ref ca), (.ref ca), (.ref st), (.ref st)])
  obtain ⟨cl8, Ar8, q8, S8, M8, H8, G8⟩ := id V_ca
  have hin8 : ¬ ((0 : Int32) < 0 ∨ cl8.slots.size ≤ (0 : Int32).toNatClampNeg) := inb_of S8 ⟨by decide, by decide⟩
  obtain ⟨T8, h8, X8, e8, W8, st8⟩ := stC X2 hx hZ e2 Ar8 (j := (0 : Int32)) hin8 (g := (mkF m 116 #[rv ta, iv 4] [(.int t0), (.int 0), (.ref ca), (.ref ca), (.ref st), (.ref st)])) rfl rfl (hb hby d1_116)
  have N8 := Fr.snoc X8 N0 ge_ca
  have V8 : Arv Z h8 ca k2 .char (4 : Int32) [(.int (nar .char t0)), (.int 0), (.int 0), (.int 0)] (.int 0) := Arv.set Ar8 q8 S8 M8 H8 G8 (fits_nar_char _) W8 0 rfl (Nat.le_of_ble_eq_true rfl)
  refine Go.by st8 ?_
  show Go _ _ _ _ T8 (mkF m 117 #[rv ta, iv 4] [(.ref ca), (.ref st), (.ref st)])
  rw [own_ncb (t := t0) hb0.1 hb0.2] at V8
  refine Go.dup 118 X8 hx (hb hby d1_117) rfl rfl ?_
  refine Go.iconst 119 X8 hx (1 : Int32) (hb hby d1_118) (by decide) rfl ?_
  refine Go.aload1 120 X8 hx (hb hby d1_119) rfl rfl rfl ?_
  refine Go.iconst 121 X8 hx (1 : Int32) (hb hby d1_120) (by decide) rfl ?_
  have F9 : Arv Z h8 ta kt .char (6 : Int32) [(.int t0), (.int t1), (.int t2), (.int t3), (.int t4), (.int t5)] (.int 0) := F6.other W8 ne_ta_ca
  obtain ⟨cl10, Ar10, -, S10, M10, H10, -⟩ := id F9
  have hin10 : ¬ ((1 : Int32) < 0 ∨ cl10.slots.size ≤ (1 : Int32).toNatClampNeg) := inb_of S10 ⟨by decide, by decide⟩
  refine Go.by (fun _ gk => X8.caload hx (j := (1 : Int32)) (v := (.int t1)) (by rw [e8]; exact Ar10.1) (State.isArrayOf_alike hZ.alike Ar10.2.1) Ar10.2.2 hin10 (Has.at H10 hin10 rfl) (g := (mkF m 121 #[rv ta, iv 4] [(.int 1), (.ref ta), (.int 1), (.ref ca), (.ref ca), (.ref st), (.ref st)])) rfl rfl (hb hby d1_121) _ gk) ?_
  show Go _ _ _ _ T8 (mkF m 122 #[rv ta, iv 4] [(.int t1), (.int 1), (.ref ca), (.ref ca), (.ref st), (.ref st)])
  obtain ⟨cl11, Ar11, q11, S11, M11, H11, G11⟩ := id V8
  have hin11 : ¬ ((1 : Int32) < 0 ∨ cl11.slots.size ≤ (1 : Int32).toNatClampNeg) := inb_of S11 ⟨by decide, by decide⟩
  obtain ⟨T11, h11, X11, e11, W11, st11⟩ := stC X8 hx hZ e8 Ar11 (j := (1 : Int32)) hin11 (g := (mkF m 122 #[rv ta, iv 4] [(.int t1), (.int 1), (.ref ca), (.ref ca), (.ref st), (.ref st)])) rfl rfl (hb hby d1_122)
  have N11 := Fr.snoc X11 N8 ge_ca
  have V11 : Arv Z h11 ca k2 .char (4 : Int32) [(.int t0), (.int (nar .char t1)), (.int 0), (.int 0)] (.int 0) := Arv.set Ar11 q11 S11 M11 H11 G11 (fits_nar_char _) W11 1 rfl (Nat.le_of_ble_eq_true rfl)
  refine Go.by st11 ?_
  show Go _ _ _ _ T11 (mkF m 123 #[rv ta, iv 4] [(.ref ca), (.ref st), (.ref st)])
  rw [own_ncb (t := t1) hb1.1 hb1.2] at V11
  refine Go.dup 124 X11 hx (hb hby d1_123) rfl rfl ?_
  refine Go.iconst 125 X11 hx (2 : Int32) (hb hby d1_124) (by decide) rfl ?_
  refine Go.aload1 126 X11 hx (hb hby d1_125) rfl rfl rfl ?_
  refine Go.iconst 127 X11 hx (2 : Int32) (hb hby d1_126) (by decide) rfl ?_
  have F12 : Arv Z h11 ta kt .char (6 : Int32) [(.int t0), (.int t1), (.int t2), (.int t3), (.int t4), (.int t5)] (.int 0) := F9.other W11 ne_ta_ca
  obtain ⟨cl13, Ar13, -, S13, M13, H13, -⟩ := id F12
  have hin13 : ¬ ((2 : Int32) < 0 ∨ cl13.slots.size ≤ (2 : Int32).toNatClampNeg) := inb_of S13 ⟨by decide, by decide⟩
  refine Go.by (fun _ gk => X11.caload hx (j := (2 : Int32)) (v := (.int t2)) (by rw [e11]; exact Ar13.1) (State.isArrayOf_alike hZ.alike Ar13.2.1) Ar13.2.2 hin13 (Has.at H13 hin13 rfl) (g := (mkF m 127 #[rv ta, iv 4] [(.int 2), (.ref ta), (.int 2), (.ref ca), (.ref ca), (.ref st), (.ref st)])) rfl rfl (hb hby d1_127) _ gk) ?_
  show Go _ _ _ _ T11 (mkF m 128 #[rv ta, iv 4] [(.int t2), (.int 2), (.ref ca), (.ref ca), (.ref st), (.ref st)])
  obtain ⟨cl14, Ar14, q14, S14, M14, H14, G14⟩ := id V11
  have hin14 : ¬ ((2 : Int32) < 0 ∨ cl14.slots.size ≤ (2 : Int32).toNatClampNeg) := inb_of S14 ⟨by decide, by decide⟩
  obtain ⟨T14, h14, X14, e14, W14, st14⟩ := stC X11 hx hZ e11 Ar14 (j := (2 : Int32)) hin14 (g := (mkF m 128 #[rv ta, iv 4] [(.int t2), (.int 2), (.ref ca), (.ref ca), (.ref st), (.ref st)])) rfl rfl (hb hby d1_128)
  have N14 := Fr.snoc X14 N11 ge_ca
  have V14 : Arv Z h14 ca k2 .char (4 : Int32) [(.int t0), (.int t1), (.int (nar .char t2)), (.int 0)] (.int 0) := Arv.set Ar14 q14 S14 M14 H14 G14 (fits_nar_char _) W14 2 rfl (Nat.le_of_ble_eq_true rfl)
  refine Go.by st14 ?_
  show Go _ _ _ _ T14 (mkF m 129 #[rv ta, iv 4] [(.ref ca), (.ref st), (.ref st)])
  rw [own_ncb (t := t2) hb2.1 hb2.2] at V14
  refine Go.dup 130 X14 hx (hb hby d1_129) rfl rfl ?_
  refine Go.iconst 131 X14 hx (3 : Int32) (hb hby d1_130) (by decide) rfl ?_
  refine Go.aload1 132 X14 hx (hb hby d1_131) rfl rfl rfl ?_
  refine Go.iconst 133 X14 hx (3 : Int32) (hb hby d1_132) (by decide) rfl ?_
  have F15 : Arv Z h14 ta kt .char (6 : Int32) [(.int t0), (.int t1), (.int t2), (.int t3), (.int t4), (.int t5)] (.int 0) := F12.other W14 ne_ta_ca
  obtain ⟨cl16, Ar16, -, S16, M16, H16, -⟩ := id F15
  have hin16 : ¬ ((3 : Int32) < 0 ∨ cl16.slots.size ≤ (3 : Int32).toNatClampNeg) := inb_of S16 ⟨by decide, by decide⟩
  refine Go.by (fun _ gk => X14.caload hx (j := (3 : Int32)) (v := (.int t3)) (by rw [e14]; exact Ar16.1) (State.isArrayOf_alike hZ.alike Ar16.2.1) Ar16.2.2 hin16 (Has.at H16 hin16 rfl) (g := (mkF m 133 #[rv ta, iv 4] [(.int 3), (.ref ta), (.int 3), (.ref ca), (.ref ca), (.ref st), (.ref st)])) rfl rfl (hb hby d1_133) _ gk) ?_
  show Go _ _ _ _ T14 (mkF m 134 #[rv ta, iv 4] [(.int t3), (.int 3), (.ref ca), (.ref ca), (.ref st), (.ref st)])
  obtain ⟨cl17, Ar17, q17, S17, M17, H17, G17⟩ := id V14
  have hin17 : ¬ ((3 : Int32) < 0 ∨ cl17.slots.size ≤ (3 : Int32).toNatClampNeg) := inb_of S17 ⟨by decide, by decide⟩
  obtain ⟨T17, h17, X17, e17, W17, st17⟩ := stC X14 hx hZ e14 Ar17 (j := (3 : Int32)) hin17 (g := (mkF m 134 #[rv ta, iv 4] [(.int t3), (.int 3), (.ref ca), (.ref ca), (.ref st), (.ref st)])) rfl rfl (hb hby d1_134)
  have N17 := Fr.snoc X17 N14 ge_ca
  have V17 : Arv Z h17 ca k2 .char (4 : Int32) [(.int t0), (.int t1), (.int t2), (.int (nar .char t3))] (.int 0) := Arv.set Ar17 q17 S17 M17 H17 G17 (fits_nar_char _) W17 3 rfl (Nat.le_of_ble_eq_true rfl)
  refine Go.by st17 ?_
  show Go _ _ _ _ T17 (mkF m 135 #[rv ta, iv 4] [(.ref ca), (.ref st), (.ref st)])
  rw [own_ncb (t := t3) hb3.1 hb3.2] at V17
  have F18 : Old Z n0 h1 := O0.ext E1
  have F19 : Old Z n0 h2 := F18.ext E2
  have F20 : Old Z n0 h8 := F19.wr W8 ge_ca
  have F21 : Old Z n0 h11 := F20.wr W11 ge_ca
  have F22 : Old Z n0 h14 := F21.wr W14 ge_ca
  have F23 : Old Z n0 h17 := F22.wr W17 ge_ca
  have F24 : Exa Z h2 st "java/lang/String" := A1.ext E2
  have F25 : Exa Z h8 st "java/lang/String" := F24.wr W8
  have F26 : Exa Z h11 st "java/lang/String" := F25.wr W11
  have F27 : Exa Z h14 st "java/lang/String" := F26.wr W14
  have F28 : Exa Z h17 st "java/lang/String" := F27.wr W17
  have F29 : Fld Z h2 st "java/lang/String" "value" "[B" .null := F_value_st.ext E2
  have F30 : Fld Z h8 st "java/lang/String" "value" "[B" .null := F29.other W8 (Or.inl ne_st_ca)
  have F31 : Fld Z h11 st "java/lang/String" "value" "[B" .null := F30.other W11 (Or.inl ne_st_ca)
  have F32 : Fld Z h14 st "java/lang/String" "value" "[B" .null := F31.other W14 (Or.inl ne_st_ca)
  have F33 : Fld Z h17 st "java/lang/String" "value" "[B" .null := F32.other W17 (Or.inl ne_st_ca)
  have F34 : Fld Z h2 st "java/lang/String" "coder" "B" (.int 0) := F_coder_st.ext E2
  have F35 : Fld Z h8 st "java/lang/String" "coder" "B" (.int 0) := F34.other W8 (Or.inl ne_st_ca)
  have F36 : Fld Z h11 st "java/lang/String" "coder" "B" (.int 0) := F35.other W11 (Or.inl ne_st_ca)
  have F37 : Fld Z h14 st "java/lang/String" "coder" "B" (.int 0) := F36.other W14 (Or.inl ne_st_ca)
  have F38 : Fld Z h17 st "java/lang/String" "coder" "B" (.int 0) := F37.other W17 (Or.inl ne_st_ca)
  have F39 : n0 ≤ h2.size := Nat.le_trans F3 E2.1
  have F40 : n0 ≤ h8.size := Nat.le_trans F39 (Nat.le_of_eq (Wr.size W8).symm)
  have F41 : n0 ≤ h11.size := Nat.le_trans F40 (Nat.le_of_eq (Wr.size W11).symm)
  have F42 : n0 ≤ h14.size := Nat.le_trans F41 (Nat.le_of_eq (Wr.size W14).symm)
  have F43 : n0 ≤ h17.size := Nat.le_trans F42 (Nat.le_of_eq (Wr.size W17).symm)
  have F44 : Keep h0 h2 [] := F4.ext E2
  have F45 : Keep h0 h8 [] := F44.wr W8 (Or.inr sz_ca)
  have F46 : Keep h0 h11 [] := F45.wr W11 (Or.inr sz_ca)
  have F47 : Keep h0 h14 [] := F46.wr W14 (Or.inr sz_ca)
  have F48 : Keep h0 h17 [] := F47.wr W17 (Or.inr sz_ca)
  have F49 : Exa Z h8 ca "[C" := Ea2.wr W8
  have F50 : Exa Z h11 ca "[C" := F49.wr W11
  have F51 : Exa Z h14 ca "[C" := F50.wr W14
  have F52 : Exa Z h17 ca "[C" := F51.wr W17
  have F53 : Arv Z h17 ta kt .char (6 : Int32) [(.int t0), (.int t1), (.int t2), (.int t3), (.int t4), (.int t5)] (.int 0) := F15.other W17 ne_ta_ca
  obtain ⟨_, _, ⟨T54, L54, k54, n54⟩, -, X54, ⟨Lc54, hQ54, l54, y54, z54⟩, st54⟩ := X17.specialBack hx (y := (⟨"java/lang/String", "<init>", "([C)V"⟩ : MethodName)) rfl hown (mvT hZ (ow hw 8 rfl)) (mvT hZ (ow hw 9 rfl)) (mvT hZ (ow hw 10 rfl)) (by decide) (backOf (W := 1) (rmS1_4 l Z a0 hw [] st ca k2 t0 t1 t2 t3 cs h17 n0 F43 F23 F28 F33 F38 ge_st V17 hb0.2 hb1.2 hb2.2 hb3.2 S_cs n_cs) hZ (ow hw 10 rfl) (ow hw 7 rfl) (by decide) (by decide)) (g := (mkF m 135 #[rv ta, iv 4] [(.ref ca), (.ref st), (.ref st)])) rfl (by rw [hml]; rfl) (Steps.refl _) (a := st) (argsL := [(.ref ca)]) (rest := [(.ref st)]) (lenOf pd_34 rfl) rfl (by show 2 * 0 + _ ≤ _; exact Nat.le_of_eq rfl) (hb hby d1_135) (fun _ _ => ⟨rfl, e17, (by decide : 2 + 1 ≤ _), (by decide : 8 + 4 ≤ _)⟩)
  dsimp only [Pt.U, Pt.locs, Pt.cells, Pt.slots] at X54 l54 y54 z54 st54 hQ54
  subst l54 y54 z54
  obtain ⟨sb, kb, rfl, N54q, K54, Q54_0, Q54_1, Q54_2, Q54_3, Q54_4⟩ := hQ54
  have N54 := Fr.app N17 N54q
  refine Go.to st54 ?_
  show Go _ _ _ _ T54 (mkF m 138 #[rv ta, iv 4] [(.ref st)])
  have ge_sb : n0 ≤ sb := Nat.le_trans F43 Q54_4
  have sz_sb : h0.size ≤ sb := Nat.le_trans F48.1 Q54_4
  have ne_ca_sb : ca ≠ sb := Nat.ne_of_lt (Nat.lt_of_lt_of_le V17.lt Q54_4)
  have ne_st_sb : st ≠ sb := Nat.ne_of_lt (Nat.lt_of_lt_of_le F28.lt Q54_4)
  have ne_ta_sb : ta ≠ sb := Nat.ne_of_lt (Nat.lt_of_lt_of_le F53.lt Q54_4)
  have F55 : Keep h0 T54.heap [] := F48.trans K54 (allS (Or.inr sz_st) all0)
  exact Go.retA X54 hx Bd.notSynchronized Bd.returns rfl rfl (hb hby d1_138) ⟨st, sb, kb, rfl, N54, F55, Q54_0, Q54_1, Q54_2, Q54_3, sz_st⟩ (by decide) (by decide)
def Q_rmC5_5 (Z : State) (va : Addr) (da : Addr) (kv : ClassId) (kd : ClassId) (c0 : Int32) (c1 : Int32) (c2 : Int32) (c3 : Int32) (c4 : Int32) (h0 : Heap) (n0 : Nat) (v : Option Value) (h : Heap) (L : List Loc) : Prop := v = some (.int 5) ∧ Fr n0 L ∧ Keep h0 h [da] ∧ Arv Z h da kd .byte (5 : Int32) ([(.int (own_b c0)), (.int (own_b c1)), (.int (own_b c2)), (.int (own_b c3)), (.int (own_b c4))]) (.int 0)
set_option maxRecDepth 65536 in
set_option maxHeartbeats 40000000 in
theorem rmC5_5 (l : Launch) (Z : State) (a0 : Array Value) (hw : ∀ d ∈ tables_1, d.before a0 Z = true) (ws : List Jvm.Cond) (va : Addr) (da : Addr) (kv : ClassId) (kd : ClassId) (c0 : Int32) (c1 : Int32) (c2 : Int32) (c3 : Int32) (c4 : Int32) (h0 : Heap) (n0 : Nat) (Z0 : n0 ≤ h0.size) (V_va : Arv Z h0 va kv .char (5 : Int32) ([(.int c0), (.int c1), (.int c2), (.int c3), (.int c4)]) (.int 0)) (V_da : Arv Z h0 da kd .byte (5 : Int32) ([(.int 0), (.int 0), (.int 0), (.int 0), (.int 0)]) (.int 0)) (g_da : n0 ≤ da) (ne_va_da : va ≠ da) (hc0 : (¬ (255 : Int32) < c0)) (hc1 : (¬ (255 : Int32) < c1)) (hc2 : (¬ (255 : Int32) < c2)) (hc3 : (¬ (255 : Int32) < c3)) (hc4 : (¬ (255 : Int32) < c4)) :
    MetFree l (⟨"java/lang/StringUTF16", "compress", "([CI[BII)I"⟩ : MethodName) (head1 (Jvm.Cond.code (⟨"java/lang/StringUTF16", "compress", "([CI[BII)I"⟩ : MethodName) jdk_52_method_21_code 7 (some .int) :: ws) ({ frames := 0, cells := 0, slots := 0, locals := 0 } : Room)) (fun as' U => as' = #[(.ref va), (.int 0), (.ref da), (.int 0), (.int 5)] ∧ Z.Warmed39 U.vm ∧ U.heap = h0) (fun _ _ _ _ _ => True) (fun _ U o U' => ∃ v L, o = .returned v ∧ Q_rmC5_5 Z va da kv kd c0 c1 c2 c3 c4 h0 n0 v U'.heap L ∧ FrameEnd U o U' L ({ frames := 0, cells := 0, slots := 0, locals := 0 } : Room).cells ({ frames := 0, cells := 0, slots := 0, locals := 0 } : Room).slots) := by
  refine MetFree.of_bodySF (plainFor_of_name pn_37) hisR ?_
  intro p e s m args below meth c s₁ Bd hml0 hP hK
  obtain ⟨rfl, hZ, hh⟩ := hP
  have hx := Bd.exec
  have hby := Bd.bytes
  have hml : c.maxLocals = 7 := hml0
  have hown : s.vm.findClass "java/lang/StringUTF16" = some m.cls := findClass_of_methodNamed Bd.named
  have hnm := (name_of_methodNamed Bd.named Bd.method).1
  have X0 : Stand p l e ({ frames := 0, cells := 0, slots := 0, locals := 0 } : Room) s m #[(.ref va), (.int 0), (.ref da), (.int 0), (.int 5)] below meth c s₁ [] 0 0 := Stand.of_body Bd
  have e0 : s₁.heap = h0 := by rw [← hh, Bd.state]; rfl
  have N0 := Fr.nil n0
  refine Go.enter (F := EndN s (Q_rmC5_5 Z va da kv kd c0 c1 c2 c3 c4 h0 n0) ({ frames := 0, cells := 0, slots := 0, locals := 0 } : Room).cells ({ frames := 0, cells := 0, slots := 0, locals := 0 } : Room).slots) (ef_38 m va (0 : Int32) da (0 : Int32) (5 : Int32)) ?_
  show Go _ _ _ _ s₁ (mkF m 0 #[rv va, iv 0, rv da, iv 0, iv 5, un, un] [])
  refine Go.iconst 1 X0 hx (0 : Int32) (hb hby d9_0) (by decide) rfl ?_
  refine Go.istore2 3 X0 hx (L' := #[rv va, iv 0, rv da, iv 0, iv 5, iv 0, un]) (hb hby d9_1) rfl rfl ?_
  refine Go.iload2 5 X0 hx (hb hby d9_3) rfl rfl ?_
  refine Go.iload2 7 X0 hx (hb hby d9_5) rfl rfl ?_
  refine Go.icmpN 10 X0 hx (hb hby d9_7) (XT.ii_ge_f (by decide)) rfl ?_
  refine Go.aload1 11 X0 hx (hb hby d9_10) rfl rfl rfl ?_
  refine Go.iload1 12 X0 hx (hb hby d9_11) rfl rfl ?_
  obtain ⟨cl1, Ar1, -, S1, M1, H1, -⟩ := id V_va
  have hin1 : ¬ ((0 : Int32) < 0 ∨ cl1.slots.size ≤ (0 : Int32).toNatClampNeg) := inb_of S1 ⟨by decide, by decide⟩
  refine Go.by (fun _ gk => X0.caload hx (j := (0 : Int32)) (v := (.int c0)) (by rw [e0]; exact Ar1.1) (State.isArrayOf_alike hZ.alike Ar1.2.1) Ar1.2.2 hin1 (Has.at H1 hin1 rfl) (g := (mkF m 12 #[rv va, iv 0, rv da, iv 0, iv 5, iv 0, un] [(.int 0), (.ref va)])) rfl rfl (hb hby d9_12) _ gk) ?_
  show Go _ _ _ _ s₁ (mkF m 13 #[rv va, iv 0, rv da, iv 0, iv 5, iv 0, un] [(.int c0)])
  refine Go.istore2 15 X0 hx (L' := #[rv va, iv 0, rv da, iv 0, iv 5, iv 0, iv c0]) (hb hby d9_13) rfl rfl ?_
  refine Go.iload2 17 X0 hx (hb hby d9_15) rfl rfl ?_
  refine Go.sipush 20 X0 hx (255 : Int32) (hb hby d9_17) (by decide) rfl ?_
  refine Go.icmpY 26 X0 hx (hb hby d9_20) (XT.ii_le_t hc0) (by decide) (by decide) ?_
  refine Go.aload1 27 X0 hx (hb hby d9_26) rfl rfl rfl ?_
  refine Go.iload1 28 X0 hx (hb hby d9_27) rfl rfl ?_
  refine Go.iload2 30 X0 hx (hb hby d9_28) rfl rfl ?_
  refine Go.i2b 31 X0 hx (hb hby d9_30) rfl ?_
  obtain ⟨cl2, Ar2, q2, S2, M2, H2, G2⟩ := id V_da
  have hin2 : ¬ ((0 : Int32) < 0 ∨ cl2.slots.size ≤ (0 : Int32).toNatClampNeg) := inb_of S2 ⟨by decide, by decide⟩
  obtain ⟨T2, h2, X2, e2, W2, st2⟩ := stB X0 hx hZ e0 Ar2 (j := (0 : Int32)) hin2 (g := (mkF m 31 #[rv va, iv 0, rv da, iv 0, iv 5, iv 0, iv c0] [(.int (c0.toInt8.toInt32)), (.int 0), (.ref da)])) rfl rfl (hb hby d9_31)
  have N2 := Fr.snoc X2 N0 g_da
  have V2 : Arv Z h2 da kd .byte (5 : Int32) [(.int (nar .byte (c0.toInt8.toInt32))), (.int 0), (.int 0), (.int 0), (.int 0)] (.int 0) := Arv.set Ar2 q2 S2 M2 H2 G2 (fits_nar_byte _) W2 0 rfl (Nat.le_of_ble_eq_true rfl)
  refine Go.by st2 ?_
  show Go _ _ _ _ T2 (mkF m 32 #[rv va, iv 0, rv da, iv 0, iv 5, iv 0, iv c0] [])
  rw [own_bn] at V2
  refine Go.iinc 35 X2 hx (1 : Int32) (L' := #[rv va, iv 1, rv da, iv 0, iv 5, iv 0, iv c0]) (hb hby d9_32) (by decide) rfl rfl rfl ?_
  refine Go.iinc 38 X2 hx (1 : Int32) (L' := #[rv va, iv 1, rv da, iv 1, iv 5, iv 0, iv c0]) (hb hby d9_35) (by decide) rfl rfl rfl ?_
  refine Go.iinc 41 X2 hx (1 : Int32) (L' := #[rv va, iv 1, rv da, iv 1, iv 5, iv 1, iv c0]) (hb hby d9_38) (by decide) rfl rfl rfl ?_
  refine Go.goto 3 X2 hx (hb hby d9_41) (by decide) (by decide) ?_
  refine Go.iload2 5 X2 hx (hb hby d9_3) rfl rfl ?_
  refine Go.iload2 7 X2 hx (hb hby d9_5) rfl rfl ?_
  refine Go.icmpN 10 X2 hx (hb hby d9_7) (XT.ii_ge_f (by decide)) rfl ?_
  refine Go.aload1 11 X2 hx (hb hby d9_10) rfl rfl rfl ?_
  refine Go.iload1 12 X2 hx (hb hby d9_11) rfl rfl ?_
  have F3 : Arv Z h2 va kv .char (5 : Int32) [(.int c0), (.int c1), (.int c2), (.int c3), (.int c4)] (.int 0) := V_va.other W2 ne_va_da
  obtain ⟨cl4, Ar4, -, S4, M4, H4, -⟩ := id F3
  have hin4 : ¬ ((1 : Int32) < 0 ∨ cl4.slots.size ≤ (1 : Int32).toNatClampNeg) := inb_of S4 ⟨by decide, by decide⟩
  refine Go.by (fun _ gk => X2.caload hx (j := (1 : Int32)) (v := (.int c1)) (by rw [e2]; exact Ar4.1) (State.isArrayOf_alike hZ.alike Ar4.2.1) Ar4.2.2 hin4 (Has.at H4 hin4 rfl) (g := (mkF m 12 #[rv va, iv 1, rv da, iv 1, iv 5, iv 1, iv c0] [(.int 1), (.ref va)])) rfl rfl (hb hby d9_12) _ gk) ?_
  show Go _ _ _ _ T2 (mkF m 13 #[rv va, iv 1, rv da, iv 1, iv 5, iv 1, iv c0] [(.int c1)])
  refine Go.istore2 15 X2 hx (L' := #[rv va, iv 1, rv da, iv 1, iv 5, iv 1, iv c1]) (hb hby d9_13) rfl rfl ?_
  refine Go.iload2 17 X2 hx (hb hby d9_15) rfl rfl ?_
  refine Go.sipush 20 X2 hx (255 : Int32) (hb hby d9_17) (by decide) rfl ?_
  refine Go.icmpY 26 X2 hx (hb hby d9_20) (XT.ii_le_t hc1) (by decide) (by decide) ?_
  refine Go.aload1 27 X2 hx (hb hby d9_26) rfl rfl rfl ?_
  refine Go.iload1 28 X2 hx (hb hby d9_27) rfl rfl ?_
  refine Go.iload2 30 X2 hx (hb hby d9_28) rfl rfl ?_
  refine Go.i2b 31 X2 hx (hb hby d9_30) rfl ?_
  obtain ⟨cl5, Ar5, q5, S5, M5, H5, G5⟩ := id V2
  have hin5 : ¬ ((1 : Int32) < 0 ∨ cl5.slots.size ≤ (1 : Int32).toNatClampNeg) := inb_of S5 ⟨by decide, by decide⟩
  obtain ⟨T5, h5, X5, e5, W5, st5⟩ := stB X2 hx hZ e2 Ar5 (j := (1 : Int32)) hin5 (g := (mkF m 31 #[rv va, iv 1, rv da, iv 1, iv 5, iv 1, iv c1] [(.int (c1.toInt8.toInt32)), (.int 1), (.ref da)])) rfl rfl (hb hby d9_31)
  have N5 := Fr.snoc X5 N2 g_da
  have V5 : Arv Z h5 da kd .byte (5 : Int32) [(.int (own_b c0)), (.int (nar .byte (c1.toInt8.toInt32))), (.int 0), (.int 0), (.int 0)] (.int 0) := Arv.set Ar5 q5 S5 M5 H5 G5 (fits_nar_byte _) W5 1 rfl (Nat.le_of_ble_eq_true rfl)
  refine Go.by st5 ?_
  show Go _ _ _ _ T5 (mkF m 32 #[rv va, iv 1, rv da, iv 1, iv 5, iv 1, iv c1] [])
  rw [own_bn] at V5
  refine Go.iinc 35 X5 hx (1 : Int32) (L' := #[rv va, iv 2, rv da, iv 1, iv 5, iv 1, iv c1]) (hb hby d9_32) (by decide) rfl rfl rfl ?_
  refine Go.iinc 38 X5 hx (1 : Int32) (L' := #[rv va, iv 2, rv da, iv 2, iv 5, iv 1, iv c1]) (hb hby d9_35) (by decide) rfl rfl rfl ?_
  refine Go.iinc 41 X5 hx (1 : Int32) (L' := #[rv va, iv 2, rv da, iv 2, iv 5, iv 2, iv c1]) (hb hby d9_38) (by decide) rfl rfl rfl ?_
  refine Go.goto 3 X5 hx (hb hby d9_41) (by decide) (by decide) ?_
  refine Go.iload2 5 X5 hx (hb hby d9_3) rfl rfl ?_
  refine Go.iload2 7 X5 hx (hb hby d9_5) rfl rfl ?_
  refine Go.icmpN 10 X5 hx (hb hby d9_7) (XT.ii_ge_f (by decide)) rfl ?_
  refine Go.aload1 11 X5 hx (hb hby d9_10) rfl rfl rfl ?_
  refine Go.iload1 12 X5 hx (hb hby d9_11) rfl rfl ?_
  have F6 : Arv Z h5 va kv .char (5 : Int32) [(.int c0), (.int c1), (.int c2), (.int c3), (.int c4)] (.int 0) := F3.other W5 ne_va_da
  obtain ⟨cl7, Ar7, -, S7, M7, H7, -⟩ := id F6
  have hin7 : ¬ ((2 : Int32) < 0 ∨ cl7.slots.size ≤ (2 : Int32).toNatClampNeg) := inb_of S7 ⟨by decide, by decide⟩
  refine Go.by (fun _ gk => X5.caload hx (j := (2 : Int32)) (v := (.int c2)) (by rw [e5]; exact Ar7.1) (State.isArrayOf_alike hZ.alike Ar7.2.1) Ar7.2.2 hin7 (Has.at H7 hin7 rfl) (g := (mkF m 12 #[rv va, iv 2, rv da, iv 2, iv 5, iv 2, iv c1] [(.int 2), (.ref va)])) rfl rfl (hb hby d9_12) _ gk) ?_
  show Go _ _ _ _ T5 (mkF m 13 #[rv va, iv 2, rv da, iv 2, iv 5, iv 2, iv c1] [(.int c2)])
  refine Go.istore2 15 X5 hx (L' := #[rv va, iv 2, rv da, iv 2, iv 5, iv 2, iv c2]) (hb hby d9_13) rfl rfl ?_
  refine Go.iload2 17 X5 hx (hb hby d9_15) rfl rfl ?_
  refine Go.sipush 20 X5 hx (255 : Int32) (hb hby d9_17) (by decide) rfl ?_
  refine Go.icmpY 26 X5 hx (hb hby d9_20) (XT.ii_le_t hc2) (by decide) (by decide) ?_
  refine Go.aload1 27 X5 hx (hb hby d9_26) rfl rfl rfl ?_
  refine Go.iload1 28 X5 hx (hb hby d9_27) rfl rfl ?_
  refine Go.iload2 30 X5 hx (hb hby d9_28) rfl rfl ?_
  refine Go.i2b 31 X5 hx (hb hby d9_30) rfl ?_
  obtain ⟨cl8, Ar8, q8, S8, M8, H8, G8⟩ := id V5
  have hin8 : ¬ ((2 : Int32) < 0 ∨ cl8.slots.size ≤ (2 : Int32).toNatClampNeg) := inb_of S8 ⟨by decide, by decide⟩
  obtain ⟨T8, h8, X8, e8, W8, st8⟩ := stB X5 hx hZ e5 Ar8 (j := (2 : Int32)) hin8 (g := (mkF m 31 #[rv va, iv 2, rv da, iv 2, iv 5, iv 2, iv c2] [(.int (c2.toInt8.toInt32)), (.int 2), (.ref da)])) rfl rfl (hb hby d9_31)
  have N8 := Fr.snoc X8 N5 g_da
  have V8 : Arv Z h8 da kd .byte (5 : Int32) [(.int (own_b c0)), (.int (own_b c1)), (.int (nar .byte (c2.toInt8.toInt32))), (.int 0), (.int 0)] (.int 0) := Arv.set Ar8 q8 S8 M8 H8 G8 (fits_nar_byte _) W8 2 rfl (Nat.le_of_ble_eq_true rfl)
  refine Go.by st8 ?_
  show Go _ _ _ _ T8 (mkF m 32 #[rv va, iv 2, rv da, iv 2, iv 5, iv 2, iv c2] [])
  rw [own_bn] at V8
  refine Go.iinc 35 X8 hx (1 : Int32) (L' := #[rv va, iv 3, rv da, iv 2, iv 5, iv 2, iv c2]) (hb hby d9_32) (by decide) rfl rfl rfl ?_
  refine Go.iinc 38 X8 hx (1 : Int32) (L' := #[rv va, iv 3, rv da, iv 3, iv 5, iv 2, iv c2]) (hb hby d9_35) (by decide) rfl rfl rfl ?_
  refine Go.iinc 41 X8 hx (1 : Int32) (L' := #[rv va, iv 3, rv da, iv 3, iv 5, iv 3, iv c2]) (hb hby d9_38) (by decide) rfl rfl rfl ?_
  refine Go.goto 3 X8 hx (hb hby d9_41) (by decide) (by decide) ?_
  refine Go.iload2 5 X8 hx (hb hby d9_3) rfl rfl ?_
  refine Go.iload2 7 X8 hx (hb hby d9_5) rfl rfl ?_
  refine Go.icmpN 10 X8 hx (hb hby d9_7) (XT.ii_ge_f (by decide)) rfl ?_
  refine Go.aload1 11 X8 hx (hb hby d9_10) rfl rfl rfl ?_
  refine Go.iload1 12 X8 hx (hb hby d9_11) rfl rfl ?_
  have F9 : Arv Z h8 va kv .char (5 : Int32) [(.int c0), (.int c1), (.int c2), (.int c3), (.int c4)] (.int 0) := F6.other W8 ne_va_da
  obtain ⟨cl10, Ar10, -, S10, M10, H10, -⟩ := id F9
  have hin10 : ¬ ((3 : Int32) < 0 ∨ cl10.slots.size ≤ (3 : Int32).toNatClampNeg) := inb_of S10 ⟨by decide, by decide⟩
  refine Go.by (fun _ gk => X8.caload hx (j := (3 : Int32)) (v := (.int c3)) (by rw [e8]; exact Ar10.1) (State.isArrayOf_alike hZ.alike Ar10.2.1) Ar10.2.2 hin10 (Has.at H10 hin10 rfl) (g := (mkF m 12 #[rv va, iv 3, rv da, iv 3, iv 5, iv 3, iv c2] [(.int 3), (.ref va)])) rfl rfl (hb hby d9_12) _ gk) ?_
  show Go _ _ _ _ T8 (mkF m 13 #[rv va, iv 3, rv da, iv 3, iv 5, iv 3, iv c2] [(.int c3)])
  refine Go.istore2 15 X8 hx (L' := #[rv va, iv 3, rv da, iv 3, iv 5, iv 3, iv c3]) (hb hby d9_13) rfl rfl ?_
  refine Go.iload2 17 X8 hx (hb hby d9_15) rfl rfl ?_
  refine Go.sipush 20 X8 hx (255 : Int32) (hb hby d9_17) (by decide) rfl ?_
  refine Go.icmpY 26 X8 hx (hb hby d9_20) (XT.ii_le_t hc3) (by decide) (by decide) ?_
  refine Go.aload1 27 X8 hx (hb hby d9_26) rfl rfl rfl ?_
  refine Go.iload1 28 X8 hx (hb hby d9_27) rfl rfl ?_
  refine Go.iload2 30 X8 hx (hb hby d9_28) rfl rfl ?_
  refine Go.i2b 31 X8 hx (hb hby d9_30) rfl ?_
  obtain ⟨cl11, Ar11, q11, S11, M11, H11, G11⟩ := id V8
  have hin11 : ¬ ((3 : Int32) < 0 ∨ cl11.slots.size ≤ (3 : Int32).toNatClampNeg) := inb_of S11 ⟨by decide, by decide⟩
  obtain ⟨T11, h11, X11, e11, W11, st11⟩ := stB X8 hx hZ e8 Ar11 (j := (3 : Int32)) hin11 (g := (mkF m 31 #[rv va, iv 3, rv da, iv 3, iv 5, iv 3, iv c3] [(.int (c3.toInt8.toInt32)), (.int 3), (.ref da)])) rfl rfl (hb hby d9_31)
  have N11 := Fr.snoc X11 N8 g_da
  have V11 : Arv Z h11 da kd .byte (5 : Int32) [(.int (own_b c0)), (.int (own_b c1)), (.int (own_b c2)), (.int (nar .byte (c3.toInt8.toInt32))), (.int 0)] (.int 0) := Arv.set Ar11 q11 S11 M11 H11 G11 (fits_nar_byte _) W11 3 rfl (Nat.le_of_ble_eq_true rfl)
  refine Go.by st11 ?_
  show Go _ _ _ _ T11 (mkF m 32 #[rv va, iv 3, rv da, iv 3, iv 5, iv 3, iv c3] [])
  rw [own_bn] at V11
  refine Go.iinc 35 X11 hx (1 : Int32) (L' := #[rv va, iv 4, rv da, iv 3, iv 5, iv 3, iv c3]) (hb hby d9_32) (by decide) rfl rfl rfl ?_
  refine Go.iinc 38 X11 hx (1 : Int32) (L' := #[rv va, iv 4, rv da, iv 4, iv 5, iv 3, iv c3]) (hb hby d9_35) (by decide) rfl rfl rfl ?_
  refine Go.iinc 41 X11 hx (1 : Int32) (L' := #[rv va, iv 4, rv da, iv 4, iv 5, iv 4, iv c3]) (hb hby d9_38) (by decide) rfl rfl rfl ?_
  refine Go.goto 3 X11 hx (hb hby d9_41) (by decide) (by decide) ?_
  refine Go.iload2 5 X11 hx (hb hby d9_3) rfl rfl ?_
  refine Go.iload2 7 X11 hx (hb hby d9_5) rfl rfl ?_
  refine Go.icmpN 10 X11 hx (hb hby d9_7) (XT.ii_ge_f (by decide)) rfl ?_
  refine Go.aload1 11 X11 hx (hb hby d9_10) rfl rfl rfl ?_
  refine Go.iload1 12 X11 hx (hb hby d9_11) rfl rfl ?_
  have F12 : Arv Z h11 va kv .char (5 : Int32) [(.int c0), (.int c1), (.int c2), (.int c3), (.int c4)] (.int 0) := F9.other W11 ne_va_da
  obtain ⟨cl13, Ar13, -, S13, M13, H13, -⟩ := id F12
  have hin13 : ¬ ((4 : Int32) < 0 ∨ cl13.slots.size ≤ (4 : Int32).toNatClampNeg) := inb_of S13 ⟨by decide, by decide⟩
  refine Go.by (fun _ gk => X11.caload hx (j := (4 : Int32)) (v := (.int c4)) (by rw [e11]; exact Ar13.1) (State.isArrayOf_alike hZ.alike Ar13.2.1) Ar13.2.2 hin13 (Has.at H13 hin13 rfl) (g := (mkF m 12 #[rv va, iv 4, rv da, iv 4, iv 5, iv 4, iv c3] [(.int 4), (.ref va)])) rfl rfl (hb hby d9_12) _ gk) ?_
  show Go _ _ _ _ T11 (mkF m 13 #[rv va, iv 4, rv da, iv 4, iv 5, iv 4, iv c3] [(.int c4)])
  refine Go.istore2 15 X11 hx (L' := #[rv va, iv 4, rv da, iv 4, iv 5, iv 4, iv c4]) (hb hby d9_13) rfl rfl ?_
  refine Go.iload2 17 X11 hx (hb hby d9_15) rfl rfl ?_
  refine Go.sipush 20 X11 hx (255 : Int32) (hb hby d9_17) (by decide) rfl ?_
  refine Go.icmpY 26 X11 hx (hb hby d9_20) (XT.ii_le_t hc4) (by decide) (by decide) ?_
  refine Go.aload1 27 X11 hx (hb hby d9_26) rfl rfl rfl ?_
  refine Go.iload1 28 X11 hx (hb hby d9_27) rfl rfl ?_
  refine Go.iload2 30 X11 hx (hb hby d9_28) rfl rfl ?_
  refine Go.i2b 31 X11 hx (hb hby d9_30) rfl ?_
  obtain ⟨cl14, Ar14, q14, S14, M14, H14, G14⟩ := id V11
  have hin14 : ¬ ((4 : Int32) < 0 ∨ cl14.slots.size ≤ (4 : Int32).toNatClampNeg) := inb_of S14 ⟨by decide, by decide⟩
  obtain ⟨T14, h14, X14, e14, W14, st14⟩ := stB X11 hx hZ e11 Ar14 (j := (4 : Int32)) hin14 (g := (mkF m 31 #[rv va, iv 4, rv da, iv 4, iv 5, iv 4, iv c4] [(.int (c4.toInt8.toInt32)), (.int 4), (.ref da)])) rfl rfl (hb hby d9_31)
  have N14 := Fr.snoc X14 N11 g_da
  have V14 : Arv Z h14 da kd .byte (5 : Int32) [(.int (own_b c0)), (.int (own_b c1)), (.int (own_b c2)), (.int (own_b c3)), (.int (nar .byte (c4.toInt8.toInt32)))] (.int 0) := Arv.set Ar14 q14 S14 M14 H14 G14 (fits_nar_byte _) W14 4 rfl (Nat.le_of_ble_eq_true rfl)
  refine Go.by st14 ?_
  show Go _ _ _ _ T14 (mkF m 32 #[rv va, iv 4, rv da, iv 4, iv 5, iv 4, iv c4] [])
  rw [own_bn] at V14
  refine Go.iinc 35 X14 hx (1 : Int32) (L' := #[rv va, iv 5, rv da, iv 4, iv 5, iv 4, iv c4]) (hb hby d9_32) (by decide) rfl rfl rfl ?_
  refine Go.iinc 38 X14 hx (1 : Int32) (L' := #[rv va, iv 5, rv da, iv 5, iv 5, iv 4, iv c4]) (hb hby d9_35) (by decide) rfl rfl rfl ?_
  refine Go.iinc 41 X14 hx (1 : Int32) (L' := #[rv va, iv 5, rv da, iv 5, iv 5, iv 5, iv c4]) (hb hby d9_38) (by decide) rfl rfl rfl ?_
  refine Go.goto 3 X14 hx (hb hby d9_41) (by decide) (by decide) ?_
  refine Go.iload2 5 X14 hx (hb hby d9_3) rfl rfl ?_
  refine Go.iload2 7 X14 hx (hb hby d9_5) rfl rfl ?_
  refine Go.icmpY 44 X14 hx (hb hby d9_7) (XT.ii_ge_t (by decide)) (by decide) (by decide) ?_
  refine Go.iload2 46 X14 hx (hb hby d9_44) rfl rfl ?_
  have F15 : Keep h0 h2 [da] := (Keep.refl h0 [da]).wr W2 (Or.inl (List.mem_of_getElem? (i := 0) rfl))
  have F16 : Keep h0 h5 [da] := F15.wr W5 (Or.inl (List.mem_of_getElem? (i := 0) rfl))
  have F17 : Keep h0 h8 [da] := F16.wr W8 (Or.inl (List.mem_of_getElem? (i := 0) rfl))
  have F18 : Keep h0 h11 [da] := F17.wr W11 (Or.inl (List.mem_of_getElem? (i := 0) rfl))
  have F19 : Keep h0 h14 [da] := F18.wr W14 (Or.inl (List.mem_of_getElem? (i := 0) rfl))
  exact Go.retI X14 hx Bd.notSynchronized Bd.returns rfl (by simp) (hb hby d9_46) (by rw [e14]; exact ⟨rfl, N14, F19, V14⟩) (by decide) (by decide)
def Q_rmC3_5 (Z : State) (va : Addr) (kv : ClassId) (c0 : Int32) (c1 : Int32) (c2 : Int32) (c3 : Int32) (c4 : Int32) (h0 : Heap) (n0 : Nat) (v : Option Value) (h : Heap) (L : List Loc) : Prop := ∃ da : Addr, ∃ kd : ClassId, v = some (.ref da) ∧ Fr n0 L ∧ Keep h0 h [] ∧ Arv Z h da kd .byte (5 : Int32) ([(.int (own_b c0)), (.int (own_b c1)), (.int (own_b c2)), (.int (own_b c3)), (.int (own_b c4))]) (.int 0) ∧ h0.size ≤ da
set_option maxRecDepth 65536 in
set_option maxHeartbeats 40000000 in
theorem rmC3_5 (l : Launch) (Z : State) (a0 : Array Value) (hw : ∀ d ∈ tables_1, d.before a0 Z = true) (ws : List Jvm.Cond) (va : Addr) (kv : ClassId) (c0 : Int32) (c1 : Int32) (c2 : Int32) (c3 : Int32) (c4 : Int32) (h0 : Heap) (n0 : Nat) (Z0 : n0 ≤ h0.size) (V_va : Arv Z h0 va kv .char (5 : Int32) ([(.int c0), (.int c1), (.int c2), (.int c3), (.int c4)]) (.int 0)) (hc0 : (¬ (255 : Int32) < c0)) (hc1 : (¬ (255 : Int32) < c1)) (hc2 : (¬ (255 : Int32) < c2)) (hc3 : (¬ (255 : Int32) < c3)) (hc4 : (¬ (255 : Int32) < c4)) :
    MetFree l (⟨"java/lang/StringUTF16", "compress", "([CII)[B"⟩ : MethodName) (head1 (Jvm.Cond.code (⟨"java/lang/StringUTF16", "compress", "([CII)[B"⟩ : MethodName) jdk_52_method_16_code 6 (some (.array .byte)) :: ws) ({ frames := 1, cells := 1, slots := 5, locals := 18 } : Room)) (fun as' U => as' = #[(.ref va), (.int 0), (.int 5)] ∧ Z.Warmed39 U.vm ∧ U.heap = h0) (fun _ _ _ _ _ => True) (fun _ U o U' => ∃ v L, o = .returned v ∧ Q_rmC3_5 Z va kv c0 c1 c2 c3 c4 h0 n0 v U'.heap L ∧ FrameEnd U o U' L ({ frames := 1, cells := 1, slots := 5, locals := 18 } : Room).cells ({ frames := 1, cells := 1, slots := 5, locals := 18 } : Room).slots) := by
  refine MetFree.of_bodySF (plainFor_of_name pn_37) hisR ?_
  intro p e s m args below meth c s₁ Bd hml0 hP hK
  obtain ⟨rfl, hZ, hh⟩ := hP
  have hx := Bd.exec
  have hby := Bd.bytes
  have hml : c.maxLocals = 6 := hml0
  have hown : s.vm.findClass "java/lang/StringUTF16" = some m.cls := findClass_of_methodNamed Bd.named
  have hnm := (name_of_methodNamed Bd.named Bd.method).1
  have X0 : Stand p l e ({ frames := 1, cells := 1, slots := 5, locals := 18 } : Room) s m #[(.ref va), (.int 0), (.int 5)] below meth c s₁ [] 0 0 := Stand.of_body Bd
  have e0 : s₁.heap = h0 := by rw [← hh, Bd.state]; rfl
  have N0 := Fr.nil n0
  refine Go.enter (F := EndN s (Q_rmC3_5 Z va kv c0 c1 c2 c3 c4 h0 n0) ({ frames := 1, cells := 1, slots := 5, locals := 18 } : Room).cells ({ frames := 1, cells := 1, slots := 5, locals := 18 } : Room).slots) (ef_62 m va (0 : Int32) (5 : Int32)) ?_
  show Go _ _ _ _ s₁ (mkF m 0 #[rv va, iv 0, iv 5, un, un, un] [])
  refine Go.iload1 1 X0 hx (hb hby d8_0) rfl rfl ?_
  obtain ⟨da, g1⟩ : ∃ z, z = h0.size := ⟨_, rfl⟩
  have ge_da : n0 ≤ da := Nat.le_trans Z0 (Nat.le_of_eq g1.symm)
  have sz_da : h0.size ≤ da := Nat.le_trans (Keep.refl h0 []).1 (Nat.le_of_eq g1.symm)
  have ne_va_da : va ≠ da := Nat.ne_of_lt (Nat.lt_of_lt_of_le V_va.lt (Nat.le_of_eq g1.symm))
  obtain ⟨T1, h1, k1, X1, e1, E1, A1, Ea1, st1⟩ := newPE X0 hx hZ (ow hw 19 rfl) e0 (g := (mkF m 1 #[rv va, iv 0, iv 5, un, un, un] [(.int 5)])) rfl (hb hby d8_1) rfl (by decide) (cap := 5) (by decide) (by decide) (by decide) (by decide) (ad := "[B") rfl
  rw [← g1] at A1 Ea1 st1
  have V_da : Arv Z h1 da k1 .byte (5 : Int32) [(.int 0), (.int 0), (.int 0), (.int 0), (.int 0)] (.int 0) := (Arv.new A1 (by decide)).pad (pad_rep [] (.int 0) 5)
  refine Go.by st1 ?_
  show Go _ _ _ _ T1 (mkF m 3 #[rv va, iv 0, iv 5, un, un, un] [(.ref da)])
  refine Go.astore1 4 X1 hx (L' := #[rv va, iv 0, iv 5, rv da, un, un]) (hb hby d8_3) rfl rfl rfl ?_
  refine Go.aload1 5 X1 hx (hb hby d8_4) rfl rfl rfl ?_
  refine Go.iload1 6 X1 hx (hb hby d8_5) rfl rfl ?_
  refine Go.aload1 7 X1 hx (hb hby d8_6) rfl rfl rfl ?_
  refine Go.iconst 8 X1 hx (0 : Int32) (hb hby d8_7) (by decide) rfl ?_
  refine Go.iload1 9 X1 hx (hb hby d8_8) rfl rfl ?_
  have F2 : Arv Z h1 va kv .char (5 : Int32) [(.int c0), (.int c1), (.int c2), (.int c3), (.int c4)] (.int 0) := V_va.ext E1
  have F3 : n0 ≤ h1.size := Nat.le_trans Z0 E1.1
  obtain ⟨_, _, ⟨T4, L4, k4, n4⟩, -, X4, ⟨Lc4, hQ4, l4, y4, z4⟩, st4⟩ := Jvm.LawKit.callS X1 hx (y := (⟨"java/lang/StringUTF16", "compress", "([CI[BII)I"⟩ : MethodName)) hown (mvT hZ (ow hw 49 rfl)) (mvT hZ (ow hw 50 rfl)) (mvT hZ (ow hw 47 rfl)) (mvT hZ (ow hw 51 rfl)) (by decide) (backOf (W := 0) (rmC5_5 l Z a0 hw [] va da kv k1 c0 c1 c2 c3 c4 h1 n0 F3 F2 V_da ge_da ne_va_da hc0 hc1 hc2 hc3 hc4) hZ (ow hw 51 rfl) (ow hw 47 rfl) (by decide) (by decide)) (g := (mkF m 9 #[rv va, iv 0, iv 5, rv da, un, un] [(.int 5), (.int 0), (.ref da), (.int 0), (.ref va)])) rfl (by rw [hml]; rfl) (argsL := [(.ref va), (.int 0), (.ref da), (.int 0), (.int 5)]) (rest := []) (lenOf pd_71 rfl) rfl (by show 2 * 0 + _ ≤ _; exact Nat.le_of_eq rfl) (hb hby d8_9) (fun _ _ => ⟨rfl, e1, (by decide : 1 + 0 ≤ _), (by decide : 5 + 0 ≤ _)⟩)
  dsimp only [Pt.U, Pt.locs, Pt.cells, Pt.slots] at X4 l4 y4 z4 st4 hQ4
  subst l4 y4 z4
  obtain ⟨rfl, N4q, K4, Q4_0⟩ := hQ4
  have N4 := Fr.app N0 N4q
  refine Go.by st4 ?_
  show Go _ _ _ _ T4 (mkF m 12 #[rv va, iv 0, iv 5, rv da, un, un] [(.int 5)])
  refine Go.istore2 14 X4 hx (L' := #[rv va, iv 0, iv 5, rv da, iv 5, un]) (hb hby d8_12) rfl rfl ?_
  refine Go.iload2 16 X4 hx (hb hby d8_14) rfl rfl ?_
  refine Go.iload1 17 X4 hx (hb hby d8_16) rfl rfl ?_
  refine Go.icmpY 57 X4 hx (hb hby d8_17) (XT.ii_eq_t rfl) (by decide) (by decide) ?_
  refine Go.aload1 58 X4 hx (hb hby d8_57) rfl rfl rfl ?_
  have F5 : Keep h0 h1 [] := (Keep.refl h0 []).ext E1
  have F6 : Keep h0 T4.heap [] := F5.trans K4 (allS (Or.inr sz_da) all0)
  exact Go.retA X4 hx Bd.notSynchronized Bd.returns rfl rfl (hb hby d8_58) ⟨da, k1, rfl, N4, F6, Q4_0, sz_da⟩ (by decide) (by decide)
def Q_rmCoder_5 (Z : State) (da : Addr) (kd : ClassId) (vs : List Value) (h0 : Heap) (n0 : Nat) (v : Option Value) (h : Heap) (L : List Loc) : Prop := v = some (.int 0) ∧ Fr n0 L ∧ h = h0
set_option maxRecDepth 65536 in
set_option maxHeartbeats 40000000 in
theorem rmCoder_5 (l : Launch) (Z : State) (a0 : Array Value) (hw : ∀ d ∈ tables_1, d.before a0 Z = true) (ws : List Jvm.Cond) (da : Addr) (kd : ClassId) (vs : List Value) (h0 : Heap) (n0 : Nat) (Z0 : n0 ≤ h0.size) (V_da : Arv Z h0 da kd .byte (5 : Int32) vs (.int 0)) :
    MetFree l (⟨"java/lang/StringUTF16", "coderFromArrayLen", "([BI)B"⟩ : MethodName) (head1 (Jvm.Cond.code (⟨"java/lang/StringUTF16", "coderFromArrayLen", "([BI)B"⟩ : MethodName) jdk_52_method_15_code 2 (some .byte) :: ws) ({ frames := 0, cells := 0, slots := 0, locals := 0 } : Room)) (fun as' U => as' = #[(.ref da), (.int 5)] ∧ Z.Warmed39 U.vm ∧ U.heap = h0) (fun _ _ _ _ _ => True) (fun _ U o U' => ∃ v L, o = .returned v ∧ Q_rmCoder_5 Z da kd vs h0 n0 v U'.heap L ∧ FrameEnd U o U' L ({ frames := 0, cells := 0, slots := 0, locals := 0 } : Room).cells ({ frames := 0, cells := 0, slots := 0, locals := 0 } : Room).slots) := by
  refine MetFree.of_bodySF (plainFor_of_name pn_37) hisR ?_
  intro p e s m args below meth c s₁ Bd hml0 hP hK
  obtain ⟨rfl, hZ, hh⟩ := hP
  have hx := Bd.exec
  have hby := Bd.bytes
  have hml : c.maxLocals = 2 := hml0
  have hown : s.vm.findClass "java/lang/StringUTF16" = some m.cls := findClass_of_methodNamed Bd.named
  have hnm := (name_of_methodNamed Bd.named Bd.method).1
  have X0 : Stand p l e ({ frames := 0, cells := 0, slots := 0, locals := 0 } : Room) s m #[(.ref da), (.int 5)] below meth c s₁ [] 0 0 := Stand.of_body Bd
  have e0 : s₁.heap = h0 := by rw [← hh, Bd.state]; rfl
  have N0 := Fr.nil n0
  refine Go.enter (F := EndN s (Q_rmCoder_5 Z da kd vs h0 n0) ({ frames := 0, cells := 0, slots := 0, locals := 0 } : Room).cells ({ frames := 0, cells := 0, slots := 0, locals := 0 } : Room).slots) (ef_27 m da (5 : Int32)) ?_
  show Go _ _ _ _ s₁ (mkF m 0 #[rv da, iv 5] [])
  refine Go.iload1 1 X0 hx (hb hby d10_0) rfl rfl ?_
  refine Go.aload1 2 X0 hx (hb hby d10_1) rfl rfl rfl ?_
  obtain ⟨cl1, Ar1, -, S1, M1, -, -⟩ := id V_da
  refine Go.by (fun _ gk => X0.arraylength hx (by rw [e0]; exact Ar1.1) (State.isArrayOf_alike hZ.alike Ar1.2.1) (g := (mkF m 2 #[rv da, iv 5] [(.ref da), (.int 5)])) rfl rfl (hb hby d10_2) _ gk) ?_
  rw [len_of S1 M1]
  show Go _ _ _ _ s₁ (mkF m 3 #[rv da, iv 5] [(.int 5), (.int 5)])
  refine Go.isub 4 X0 hx (hb hby d10_3) rfl ?_
  rw [(by decide : ((5 : Int32) - (5 : Int32)) = (0 : Int32))]
  refine Go.bipush 6 X0 hx (31 : Int32) (hb hby d10_4) (by decide) rfl ?_
  refine Go.iushr 7 X0 hx (hb hby d10_6) rfl ?_
  rw [(by decide : (XT.ushr (0 : Int32) (31 : Int32)) = (0 : Int32))]
  refine Go.i2b 8 X0 hx (hb hby d10_7) rfl ?_
  rw [(by decide : ((0 : Int32).toInt8.toInt32) = (0 : Int32))]
  exact Go.retI X0 hx Bd.notSynchronized Bd.returns rfl (by simp) (hb hby d10_8) (by rw [e0]; exact ⟨rfl, N0, rfl⟩) (by decide) (by decide)
def Q_rmS4_5 (Z : State) (a : Addr) (va : Addr) (kv : ClassId) (c0 : Int32) (c1 : Int32) (c2 : Int32) (c3 : Int32) (c4 : Int32) (cs : Int32) (h0 : Heap) (n0 : Nat) (v : Option Value) (h : Heap) (L : List Loc) : Prop := ∃ b : Addr, ∃ kb : ClassId, v = none ∧ Fr n0 L ∧ Keep h0 h [a] ∧ Exa Z h a "java/lang/String" ∧ Fld Z h a "java/lang/String" "coder" "B" (.int 0) ∧ Fld Z h a "java/lang/String" "value" "[B" (.ref b) ∧ Arv Z h b kb .byte (5 : Int32) ([(.int (own_b c0)), (.int (own_b c1)), (.int (own_b c2)), (.int (own_b c3)), (.int (own_b c4))]) (.int 0) ∧ h0.size ≤ b
set_option maxRecDepth 65536 in
set_option maxHeartbeats 40000000 in
theorem rmS4_5 (l : Launch) (Z : State) (a0 : Array Value) (hw : ∀ d ∈ tables_1, d.before a0 Z = true) (ws : List Jvm.Cond) (a : Addr) (va : Addr) (kv : ClassId) (c0 : Int32) (c1 : Int32) (c2 : Int32) (c3 : Int32) (c4 : Int32) (cs : Int32) (h0 : Heap) (n0 : Nat) (Z0 : n0 ≤ h0.size) (O0 : Old Z n0 h0) (E_a : Exa Z h0 a "java/lang/String") (F_a_value : Fld Z h0 a "java/lang/String" "value" "[B" .null) (F_a_coder : Fld Z h0 a "java/lang/String" "coder" "B" (.int 0)) (g_a : n0 ≤ a) (V_va : Arv Z h0 va kv .char (5 : Int32) ([(.int c0), (.int c1), (.int c2), (.int c3), (.int c4)]) (.int 0)) (hc0 : (¬ (255 : Int32) < c0)) (hc1 : (¬ (255 : Int32) < c1)) (hc2 : (¬ (255 : Int32) < c2)) (hc3 : (¬ (255 : Int32) < c3)) (hc4 : (¬ (255 : Int32) < c4)) (S_cs : Sta Z Z.heap "java/lang/String" "COMPACT_STRINGS" "Z" (.int cs)) (n_cs : ¬ cs = 0) :
    MetFree l (⟨"java/lang/String", "<init>", "([CIILjava/lang/Void;)V"⟩ : MethodName) (head1 (Jvm.Cond.code (⟨"java/lang/String", "<init>", "([CIILjava/lang/Void;)V"⟩ : MethodName) jdk_42_method_149_code 6 none :: ws) ({ frames := 2, cells := 1, slots := 5, locals := 35 } : Room)) (fun as' U => as' = #[(.ref a), (.ref va), (.int 0), (.int 5), .null] ∧ Z.Warmed39 U.vm ∧ U.heap = h0) (fun _ _ _ _ _ => True) (fun _ U o U' => ∃ v L, o = .returned v ∧ Q_rmS4_5 Z a va kv c0 c1 c2 c3 c4 cs h0 n0 v U'.heap L ∧ FrameEnd U o U' L ({ frames := 2, cells := 1, slots := 5, locals := 35 } : Room).cells ({ frames := 2, cells := 1, slots := 5, locals := 35 } : Room).slots) := by
  refine MetFree.of_bodySF (plainFor_of_name pn_1) hisR ?_
  intro p e s m args below meth c s₁ Bd hml0 hP hK
  obtain ⟨rfl, hZ, hh⟩ := hP
  have hx := Bd.exec
  have hby := Bd.bytes
  have hml : c.maxLocals = 6 := hml0
  have hown : s.vm.findClass "java/lang/String" = some m.cls := findClass_of_methodNamed Bd.named
  have hnm := (name_of_methodNamed Bd.named Bd.method).1
  have X0 : Stand p l e ({ frames := 2, cells := 1, slots := 5, locals := 35 } : Room) s m #[(.ref a), (.ref va), (.int 0), (.int 5), .null] below meth c s₁ [] 0 0 := Stand.of_body Bd
  have e0 : s₁.heap = h0 := by rw [← hh, Bd.state]; rfl
  have N0 := Fr.nil n0
  refine Go.enter (F := EndN s (Q_rmS4_5 Z a va kv c0 c1 c2 c3 c4 cs h0 n0) ({ frames := 2, cells := 1, slots := 5, locals := 35 } : Room).cells ({ frames := 2, cells := 1, slots := 5, locals := 35 } : Room).slots) (ef_2 m a va (0 : Int32) (5 : Int32)) ?_
  show Go _ _ _ _ s₁ (mkF m 0 #[rv a, rv va, iv 0, iv 5, .val .null, un] [])
  refine Go.aload1 1 X0 hx (hb hby d3_0) rfl rfl rfl ?_
  obtain ⟨T1, X1, e1, st1⟩ := initO X0 hx hZ hown (ow hw 15 rfl) (ow hw 16 rfl) (ow hw 17 rfl) e0 (g := (mkF m 1 #[rv a, rv va, iv 0, iv 5, .val .null, un] [(.ref a)])) rfl (by rw [hml]; rfl) rfl (hb hby d3_1) (by decide) (W := 0) (by show 2 * 0 + _ ≤ _; exact Nat.le_of_eq rfl) (by decide)
  refine Go.by st1 ?_
  show Go _ _ _ _ T1 (mkF m 4 #[rv a, rv va, iv 0, iv 5, .val .null, un] [])
  refine Go.iload1 5 X1 hx (hb hby d3_4) rfl rfl ?_
  refine Go.ifY 27 X1 hx (hb hby d3_5) (XT.i0_ne_t (by decide)) (by decide) (by decide) ?_
  have F2 : Sta Z h0 "java/lang/String" "COMPACT_STRINGS" "Z" (.int cs) := S_cs.ext O0.2
  obtain ⟨T3, X3, e3, st3⟩ := getS2 X1 hx hZ hown (host := "") (Or.inl (ow hw 37 rfl)) Via.refl e1 F2 (g := (mkF m 27 #[rv a, rv va, iv 0, iv 5, .val .null, un] [])) rfl (hb hby d3_27)
  refine Go.by st3 ?_
  show Go _ _ _ _ T3 (mkF m 30 #[rv a, rv va, iv 0, iv 5, .val .null, un] [(.int cs)])
  refine Go.ifN 33 X3 hx (hb hby d3_30) (XT.i0_eq_f n_cs) rfl ?_
  refine Go.aload1 34 X3 hx (hb hby d3_33) rfl rfl rfl ?_
  refine Go.iload1 35 X3 hx (hb hby d3_34) rfl rfl ?_
  refine Go.iload1 36 X3 hx (hb hby d3_35) rfl rfl ?_
  obtain ⟨_, _, ⟨T4, L4, k4, n4⟩, -, X4, ⟨Lc4, hQ4, l4, y4, z4⟩, st4⟩ := Jvm.LawKit.callS X3 hx (y := (⟨"java/lang/StringUTF16", "compress", "([CII)[B"⟩ : MethodName)) hown (mvT hZ (ow hw 45 rfl)) (mvT hZ (ow hw 46 rfl)) (mvT hZ (ow hw 47 rfl)) (mvT hZ (ow hw 48 rfl)) (by decide) (backOf (W := 0) (rmC3_5 l Z a0 hw [] va kv c0 c1 c2 c3 c4 h0 n0 Z0 V_va hc0 hc1 hc2 hc3 hc4) hZ (ow hw 48 rfl) (ow hw 47 rfl) (by decide) (by decide)) (g := (mkF m 36 #[rv a, rv va, iv 0, iv 5, .val .null, un] [(.int 5), (.int 0), (.ref va)])) rfl (by rw [hml]; rfl) (argsL := [(.ref va), (.int 0), (.int 5)]) (rest := []) (lenOf pd_92 rfl) rfl (by show 2 * 0 + _ ≤ _; exact Nat.le_of_eq rfl) (hb hby d3_36) (fun _ _ => ⟨rfl, e3, (by decide : 0 + 1 ≤ _), (by decide : 0 + 5 ≤ _)⟩)
  dsimp only [Pt.U, Pt.locs, Pt.cells, Pt.slots] at X4 l4 y4 z4 st4 hQ4
  subst l4 y4 z4
  obtain ⟨b, kb, rfl, N4q, K4, Q4_0, Q4_1⟩ := hQ4
  have N4 := Fr.app N0 N4q
  refine Go.by st4 ?_
  show Go _ _ _ _ T4 (mkF m 39 #[rv a, rv va, iv 0, iv 5, .val .null, un] [(.ref b)])
  have ge_b : n0 ≤ b := Nat.le_trans Z0 Q4_1
  have sz_b : h0.size ≤ b := Nat.le_trans (Keep.refl h0 [a]).1 Q4_1
  have ne_a_b : a ≠ b := Nat.ne_of_lt (Nat.lt_of_lt_of_le E_a.lt Q4_1)
  have ne_va_b : va ≠ b := Nat.ne_of_lt (Nat.lt_of_lt_of_le V_va.lt Q4_1)
  refine Go.astore2 41 X4 hx (L' := #[rv a, rv va, iv 0, iv 5, .val .null, rv b]) (hb hby d3_39) rfl rfl rfl ?_
  refine Go.aload1 42 X4 hx (hb hby d3_41) rfl rfl rfl ?_
  refine Go.aload2 44 X4 hx (hb hby d3_42) rfl rfl rfl ?_
  refine Go.iload1 45 X4 hx (hb hby d3_44) rfl rfl ?_
  have F5 : n0 ≤ T4.heap.size := Nat.le_trans Z0 K4.1
  obtain ⟨_, _, ⟨T6, L6, k6, n6⟩, -, X6, ⟨Lc6, hQ6, l6, y6, z6⟩, st6⟩ := Jvm.LawKit.callS X4 hx (y := (⟨"java/lang/StringUTF16", "coderFromArrayLen", "([BI)B"⟩ : MethodName)) hown (mvT hZ (ow hw 52 rfl)) (mvT hZ (ow hw 53 rfl)) (mvT hZ (ow hw 47 rfl)) (mvT hZ (ow hw 54 rfl)) (by decide) (backOf (W := 1) (rmCoder_5 l Z a0 hw [] b kb ([(.int (own_b c0)), (.int (own_b c1)), (.int (own_b c2)), (.int (own_b c3)), (.int (own_b c4))]) T4.heap n0 F5 Q4_0) hZ (ow hw 54 rfl) (ow hw 47 rfl) (by decide) (by decide)) (g := (mkF m 45 #[rv a, rv va, iv 0, iv 5, .val .null, rv b] [(.int 5), (.ref b), (.ref a)])) rfl (by rw [hml]; rfl) (argsL := [(.ref b), (.int 5)]) (rest := [(.ref a)]) (lenOf pd_98 rfl) rfl (by show 2 * 0 + _ ≤ _; exact Nat.le_of_eq rfl) (hb hby d3_45) (fun _ _ => ⟨rfl, rfl, (by decide : 1 + 0 ≤ _), (by decide : 5 + 0 ≤ _)⟩)
  dsimp only [Pt.U, Pt.locs, Pt.cells, Pt.slots] at X6 l6 y6 z6 st6 hQ6
  subst l6 y6 z6
  obtain ⟨rfl, N6q, e6⟩ := hQ6
  have N6 := Fr.app N4 N6q
  refine Go.by st6 ?_
  show Go _ _ _ _ T6 (mkF m 48 #[rv a, rv va, iv 0, iv 5, .val .null, rv b] [(.int 0), (.ref a)])
  have F7 : Fld Z T4.heap a "java/lang/String" "coder" "B" (.int 0) := F_a_coder.keep K4 nin0
  have F8 : Exa Z T4.heap a "java/lang/String" := E_a.keep K4
  obtain ⟨T9, h9, X9, e9, W9, st9⟩ := putFN X6 hx hZ hown (ow hw 25 rfl) Via.refl e6 F7 F8 (Or.inr ⟨(ow hw 21 rfl), rfl, hnm⟩) (ow hw 6 rfl) (ty := .byte) (v' := (.int 0)) (by decide) rfl rfl (g := (mkF m 48 #[rv a, rv va, iv 0, iv 5, .val .null, rv b] [(.int 0), (.ref a)])) rfl rfl (hb hby d3_48)
  have N9 := Fr.snoc X9 N6 g_a
  have Fw9 : Fld Z h9 a "java/lang/String" "coder" "B" (.int 0) := F7.same W9
  refine Go.by st9 ?_
  show Go _ _ _ _ T9 (mkF m 51 #[rv a, rv va, iv 0, iv 5, .val .null, rv b] [])
  refine Go.aload1 52 X9 hx (hb hby d3_51) rfl rfl rfl ?_
  refine Go.aload2 54 X9 hx (hb hby d3_52) rfl rfl rfl ?_
  have F10 : Fld Z T4.heap a "java/lang/String" "value" "[B" .null := F_a_value.keep K4 nin0
  have F11 : Fld Z h9 a "java/lang/String" "value" "[B" .null := F10.other W9 (Or.inr (slot_ne (Or.inr (ow hw 20 rfl)) (Or.inr (ow hw 21 rfl)) (by decide) (t := (.array .byte)) (t' := .byte) (by decide) (by decide)))
  have F12 : Exa Z h9 a "java/lang/String" := F8.wr W9
  obtain ⟨T13, h13, X13, e13, W13, st13⟩ := putF X9 hx hZ hown (host := "") (Or.inl (ow hw 24 rfl)) Via.refl e9 F11 F12 (Or.inr ⟨(ow hw 20 rfl), rfl, hnm⟩) (ow hw 6 rfl) (ty := (.array .byte)) (by decide) rfl rfl (g := (mkF m 54 #[rv a, rv va, iv 0, iv 5, .val .null, rv b] [(.ref b), (.ref a)])) rfl rfl (hb hby d3_54)
  have N13 := Fr.snoc X13 N9 g_a
  have Fw13 : Fld Z h13 a "java/lang/String" "value" "[B" (.ref b) := F11.same W13
  refine Go.by st13 ?_
  show Go _ _ _ _ T13 (mkF m 57 #[rv a, rv va, iv 0, iv 5, .val .null, rv b] [])
  have F14 : Keep h0 T4.heap [a] := (Keep.refl h0 [a]).trans K4 all0
  have F15 : Keep h0 h9 [a] := F14.wr W9 (Or.inl (List.mem_of_getElem? (i := 0) rfl))
  have F16 : Keep h0 h13 [a] := F15.wr W13 (Or.inl (List.mem_of_getElem? (i := 0) rfl))
  have F17 : Exa Z h13 a "java/lang/String" := F12.wr W13
  have F18 : Fld Z h13 a "java/lang/String" "coder" "B" (.int 0) := Fw9.other W13 (Or.inr (slot_ne (Or.inr (ow hw 21 rfl)) (Or.inr (ow hw 20 rfl)) (by decide) (t := .byte) (t' := (.array .byte)) (by decide) (by decide)))
  have F19 : Arv Z h9 b kb .byte (5 : Int32) [(.int (own_b c0)), (.int (own_b c1)), (.int (own_b c2)), (.int (own_b c3)), (.int (own_b c4))] (.int 0) := Q4_0.other W9 (Ne.symm ne_a_b)
  have F20 : Arv Z h13 b kb .byte (5 : Int32) [(.int (own_b c0)), (.int (own_b c1)), (.int (own_b c2)), (.int (own_b c3)), (.int (own_b c4))] (.int 0) := F19.other W13 (Ne.symm ne_a_b)
  exact Go.retV X13 hx Bd.notSynchronized Bd.returns (hb hby d3_57) (by rw [e13]; exact ⟨b, kb, rfl, N13, F16, F17, F18, Fw13, F20, sz_b⟩) (by decide) (by decide)
def Q_rmS1_5 (Z : State) (a : Addr) (va : Addr) (kv : ClassId) (c0 : Int32) (c1 : Int32) (c2 : Int32) (c3 : Int32) (c4 : Int32) (cs : Int32) (h0 : Heap) (n0 : Nat) (v : Option Value) (h : Heap) (L : List Loc) : Prop := ∃ b : Addr, ∃ kb : ClassId, v = none ∧ Fr n0 L ∧ Keep h0 h [a] ∧ Exa Z h a "java/lang/String" ∧ Fld Z h a "java/lang/String" "coder" "B" (.int 0) ∧ Fld Z h a "java/lang/String" "value" "[B" (.ref b) ∧ Arv Z h b kb .byte (5 : Int32) ([(.int (own_b c0)), (.int (own_b c1)), (.int (own_b c2)), (.int (own_b c3)), (.int (own_b c4))]) (.int 0) ∧ h0.size ≤ b
set_option maxRecDepth 65536 in
set_option maxHeartbeats 40000000 in
theorem rmS1_5 (l : Launch) (Z : State) (a0 : Array Value) (hw : ∀ d ∈ tables_1, d.before a0 Z = true) (ws : List Jvm.Cond) (a : Addr) (va : Addr) (kv : ClassId) (c0 : Int32) (c1 : Int32) (c2 : Int32) (c3 : Int32) (c4 : Int32) (cs : Int32) (h0 : Heap) (n0 : Nat) (Z0 : n0 ≤ h0.size) (O0 : Old Z n0 h0) (E_a : Exa Z h0 a "java/lang/String") (F_a_value : Fld Z h0 a "java/lang/String" "value" "[B" .null) (F_a_coder : Fld Z h0 a "java/lang/String" "coder" "B" (.int 0)) (g_a : n0 ≤ a) (V_va : Arv Z h0 va kv .char (5 : Int32) ([(.int c0), (.int c1), (.int c2), (.int c3), (.int c4)]) (.int 0)) (hc0 : (¬ (255 : Int32) < c0)) (hc1 : (¬ (255 : Int32) < c1)) (hc2 : (¬ (255 : Int32) < c2)) (hc3 : (¬ (255 : Int32) < c3)) (hc4 : (¬ (255 : Int32) < c4)) (S_cs : Sta Z Z.heap "java/lang/String" "COMPACT_STRINGS" "Z" (.int cs)) (n_cs : ¬ cs = 0) :
    MetFree l (⟨"java/lang/String", "<init>", "([C)V"⟩ : MethodName) (head1 (Jvm.Cond.code (⟨"java/lang/String", "<init>", "([C)V"⟩ : MethodName) jdk_42_method_3_code 2 none :: ws) ({ frames := 3, cells := 1, slots := 5, locals := 52 } : Room)) (fun as' U => as' = #[(.ref a), (.ref va)] ∧ Z.Warmed39 U.vm ∧ U.heap = h0) (fun _ _ _ _ _ => True) (fun _ U o U' => ∃ v L, o = .returned v ∧ Q_rmS1_5 Z a va kv c0 c1 c2 c3 c4 cs h0 n0 v U'.heap L ∧ FrameEnd U o U' L ({ frames := 3, cells := 1, slots := 5, locals := 52 } : Room).cells ({ frames := 3, cells := 1, slots := 5, locals := 52 } : Room).slots) := by
  refine MetFree.of_bodySF (plainFor_of_name pn_1) hisR ?_
  intro p e s m args below meth c s₁ Bd hml0 hP hK
  obtain ⟨rfl, hZ, hh⟩ := hP
  have hx := Bd.exec
  have hby := Bd.bytes
  have hml : c.maxLocals = 2 := hml0
  have hown : s.vm.findClass "java/lang/String" = some m.cls := findClass_of_methodNamed Bd.named
  have hnm := (name_of_methodNamed Bd.named Bd.method).1
  have X0 : Stand p l e ({ frames := 3, cells := 1, slots := 5, locals := 52 } : Room) s m #[(.ref a), (.ref va)] below meth c s₁ [] 0 0 := Stand.of_body Bd
  have e0 : s₁.heap = h0 := by rw [← hh, Bd.state]; rfl
  have N0 := Fr.nil n0
  refine Go.enter (F := EndN s (Q_rmS1_5 Z a va kv c0 c1 c2 c3 c4 cs h0 n0) ({ frames := 3, cells := 1, slots := 5, locals := 52 } : Room).cells ({ frames := 3, cells := 1, slots := 5, locals := 52 } : Room).slots) (ef_16 m a va) ?_
  show Go _ _ _ _ s₁ (mkF m 0 #[rv a, rv va] [])
  refine Go.aload1 1 X0 hx (hb hby d2_0) rfl rfl rfl ?_
  refine Go.aload1 2 X0 hx (hb hby d2_1) rfl rfl rfl ?_
  refine Go.iconst 3 X0 hx (0 : Int32) (hb hby d2_2) (by decide) rfl ?_
  refine Go.aload1 4 X0 hx (hb hby d2_3) rfl rfl rfl ?_
  obtain ⟨cl1, Ar1, -, S1, M1, -, -⟩ := id V_va
  refine Go.by (fun _ gk => X0.arraylength hx (by rw [e0]; exact Ar1.1) (State.isArrayOf_alike hZ.alike Ar1.2.1) (g := (mkF m 4 #[rv a, rv va] [(.ref va), (.int 0), (.ref va), (.ref a)])) rfl rfl (hb hby d2_4) _ gk) ?_
  rw [len_of S1 M1]
  show Go _ _ _ _ s₁ (mkF m 5 #[rv a, rv va] [(.int 5), (.int 0), (.ref va), (.ref a)])
  refine Go.aconst_null 6 X0 hx (hb hby d2_5) rfl ?_
  obtain ⟨_, _, ⟨T2, L2, k2, n2⟩, -, X2, ⟨Lc2, hQ2, l2, y2, z2⟩, st2⟩ := X0.specialBack hx (y := (⟨"java/lang/String", "<init>", "([CIILjava/lang/Void;)V"⟩ : MethodName)) rfl hown (mvT hZ (ow hw 11 rfl)) (mvT hZ (ow hw 12 rfl)) (mvT hZ (ow hw 14 rfl)) (by decide) (backOf (W := 0) (rmS4_5 l Z a0 hw [] a va kv c0 c1 c2 c3 c4 cs h0 n0 Z0 O0 E_a F_a_value F_a_coder g_a V_va hc0 hc1 hc2 hc3 hc4 S_cs n_cs) hZ (ow hw 14 rfl) (ow hw 7 rfl) (by decide) (by decide)) (g := (mkF m 6 #[rv a, rv va] [.null, (.int 5), (.int 0), (.ref va), (.ref a)])) rfl (by rw [hml]; rfl) (Steps.refl _) (a := a) (argsL := [(.ref va), (.int 0), (.int 5), .null]) (rest := []) (lenOf pd_23 rfl) rfl (by show 2 * 0 + _ ≤ _; exact Nat.le_of_eq rfl) (hb hby d2_6) (fun _ _ => ⟨rfl, e0, (by decide : 0 + 1 ≤ _), (by decide : 0 + 5 ≤ _)⟩)
  dsimp only [Pt.U, Pt.locs, Pt.cells, Pt.slots] at X2 l2 y2 z2 st2 hQ2
  subst l2 y2 z2
  obtain ⟨b, kb, rfl, N2q, K2, Q2_0, Q2_1, Q2_2, Q2_3, Q2_4⟩ := hQ2
  have N2 := Fr.app N0 N2q
  refine Go.to st2 ?_
  show Go _ _ _ _ T2 (mkF m 9 #[rv a, rv va] [])
  have ge_b : n0 ≤ b := Nat.le_trans Z0 Q2_4
  have sz_b : h0.size ≤ b := Nat.le_trans (Keep.refl h0 [a]).1 Q2_4
  have ne_a_b : a ≠ b := Nat.ne_of_lt (Nat.lt_of_lt_of_le E_a.lt Q2_4)
  have ne_va_b : va ≠ b := Nat.ne_of_lt (Nat.lt_of_lt_of_le V_va.lt Q2_4)
  have F3 : Keep h0 T2.heap [a] := (Keep.refl h0 [a]).trans K2 (allS (Or.inl (List.mem_of_getElem? (i := 0) rfl)) all0)
  exact Go.retV X2 hx Bd.notSynchronized Bd.returns (hb hby d2_9) ⟨b, kb, rfl, N2, F3, Q2_0, Q2_1, Q2_2, Q2_3, sz_b⟩ (by decide) (by decide)
theorem d1_139 : decode method_3_code 139 = .ok (.iload_n 1, 1) := by decide +kernel
theorem d1_140 : decode method_3_code 140 = .ok (.iconst 5, 1) := by decide +kernel
theorem d1_141 : decode method_3_code 141 = .ok (.if_icmp .ne 44, 3) := by decide +kernel
theorem d1_144 : decode method_3_code 144 = .ok (.new 25, 3) := by decide +kernel
theorem d1_147 : decode method_3_code 147 = .ok (.dup, 1) := by decide +kernel
theorem d1_148 : decode method_3_code 148 = .ok (.iconst 5, 1) := by decide +kernel
theorem d1_149 : decode method_3_code 149 = .ok (.newarray .char, 2) := by decide +kernel
theorem d1_151 : decode method_3_code 151 = .ok (.dup, 1) := by decide +kernel
theorem d1_152 : decode method_3_code 152 = .ok (.iconst 0, 1) := by decide +kernel
theorem d1_153 : decode method_3_code 153 = .ok (.aload_n 0, 1) := by decide +kernel
theorem d1_154 : decode method_3_code 154 = .ok (.iconst 0, 1) := by decide +kernel
theorem d1_155 : decode method_3_code 155 = .ok (.caload, 1) := by decide +kernel
theorem d1_156 : decode method_3_code 156 = .ok (.castore, 1) := by decide +kernel
theorem d1_157 : decode method_3_code 157 = .ok (.dup, 1) := by decide +kernel
theorem d1_158 : decode method_3_code 158 = .ok (.iconst 1, 1) := by decide +kernel
theorem d1_159 : decode method_3_code 159 = .ok (.aload_n 0, 1) := by decide +kernel
theorem d1_160 : decode method_3_code 160 = .ok (.iconst 1, 1) := by decide +kernel
theorem d1_161 : decode method_3_code 161 = .ok (.caload, 1) := by decide +kernel
theorem d1_162 : decode method_3_code 162 = .ok (.castore, 1) := by decide +kernel
theorem d1_163 : decode method_3_code 163 = .ok (.dup, 1) := by decide +kernel
theorem d1_164 : decode method_3_code 164 = .ok (.iconst 2, 1) := by decide +kernel
theorem d1_165 : decode method_3_code 165 = .ok (.aload_n 0, 1) := by decide +kernel
theorem d1_166 : decode method_3_code 166 = .ok (.iconst 2, 1) := by decide +kernel
theorem d1_167 : decode method_3_code 167 = .ok (.caload, 1) := by decide +kernel
theorem d1_168 : decode method_3_code 168 = .ok (.castore, 1) := by decide +kernel
theorem d1_169 : decode method_3_code 169 = .ok (.dup, 1) := by decide +kernel
theorem d1_170 : decode method_3_code 170 = .ok (.iconst 3, 1) := by decide +kernel
theorem d1_171 : decode method_3_code 171 = .ok (.aload_n 0, 1) := by decide +kernel
theorem d1_172 : decode method_3_code 172 = .ok (.iconst 3, 1) := by decide +kernel
theorem d1_173 : decode method_3_code 173 = .ok (.caload, 1) := by decide +kernel
theorem d1_174 : decode method_3_code 174 = .ok (.castore, 1) := by decide +kernel
theorem d1_175 : decode method_3_code 175 = .ok (.dup, 1) := by decide +kernel
theorem d1_176 : decode method_3_code 176 = .ok (.iconst 4, 1) := by decide +kernel
theorem d1_177 : decode method_3_code 177 = .ok (.aload_n 0, 1) := by decide +kernel
theorem d1_178 : decode method_3_code 178 = .ok (.iconst 4, 1) := by decide +kernel
theorem d1_179 : decode method_3_code 179 = .ok (.caload, 1) := by decide +kernel
theorem d1_180 : decode method_3_code 180 = .ok (.castore, 1) := by decide +kernel
theorem d1_181 : decode method_3_code 181 = .ok (.invokespecial 27, 3) := by decide +kernel
theorem d1_184 : decode method_3_code 184 = .ok (.areturn, 1) := by decide +kernel
def Q_rmStr5 (Z : State) (ta : Addr) (kt : ClassId) (t0 : Int32) (t1 : Int32) (t2 : Int32) (t3 : Int32) (t4 : Int32) (t5 : Int32) (cs : Int32) (h0 : Heap) (n0 : Nat) (v : Option Value) (h : Heap) (L : List Loc) : Prop := ∃ st : Addr, ∃ sb : Addr, ∃ kb : ClassId, v = some (.ref st) ∧ Fr n0 L ∧ Keep h0 h [] ∧ Exa Z h st "java/lang/String" ∧ Fld Z h st "java/lang/String" "coder" "B" (.int 0) ∧ Fld Z h st "java/lang/String" "value" "[B" (.ref sb) ∧ Arv Z h sb kb .byte (5 : Int32) ([(.int (own_b t0)), (.int (own_b t1)), (.int (own_b t2)), (.int (own_b t3)), (.int (own_b t4))]) (.int 0) ∧ h0.size ≤ st
set_option maxRecDepth 65536 in
set_option maxHeartbeats 40000000 in
theorem rmStr5 (l : Launch) (Z : State) (a0 : Array Value) (hw : ∀ d ∈ tables_1, d.before a0 Z = true) (ws : List Jvm.Cond) (ta : Addr) (kt : ClassId) (t0 : Int32) (t1 : Int32) (t2 : Int32) (t3 : Int32) (t4 : Int32) (t5 : Int32) (cs : Int32) (h0 : Heap) (n0 : Nat) (Z0 : n0 ≤ h0.size) (O0 : Old Z n0 h0) (V_ta : Arv Z h0 ta kt .char (6 : Int32) ([(.int t0), (.int t1), (.int t2), (.int t3), (.int t4), (.int t5)]) (.int 0)) (hb0 : (¬ t0 < 0 ∧ ¬ (255 : Int32) < t0)) (hb1 : (¬ t1 < 0 ∧ ¬ (255 : Int32) < t1)) (hb2 : (¬ t2 < 0 ∧ ¬ (255 : Int32) < t2)) (hb3 : (¬ t3 < 0 ∧ ¬ (255 : Int32) < t3)) (hb4 : (¬ t4 < 0 ∧ ¬ (255 : Int32) < t4)) (S_cs : Sta Z Z.heap "java/lang/String" "COMPACT_STRINGS" "Z" (.int cs)) (n_cs : ¬ cs = 0) :
    MetFree l (⟨"com/example/entries_to_nodes/entriestonodes/xml/XsBooleanReadPinLaw", "str", "([CI)Ljava/lang/String;"⟩ : MethodName) (head1 (Jvm.Cond.code (⟨"com/example/entries_to_nodes/entriestonodes/xml/XsBooleanReadPinLaw", "str", "([CI)Ljava/lang/String;"⟩ : MethodName) method_3_code 2 (some (.object "java/lang/String")) :: ws) ({ frames := 4, cells := 3, slots := 14, locals := 66 } : Room)) (fun as' U => as' = #[(.ref ta), (.int 5)] ∧ Z.Warmed39 U.vm ∧ U.heap = h0) (fun _ _ _ _ _ => True) (fun _ U o U' => ∃ v L, o = .returned v ∧ Q_rmStr5 Z ta kt t0 t1 t2 t3 t4 t5 cs h0 n0 v U'.heap L ∧ FrameEnd U o U' L ({ frames := 4, cells := 3, slots := 14, locals := 66 } : Room).cells ({ frames := 4, cells := 3, slots := 14, locals := 66 } : Room).slots) := by
  refine MetFree.of_bodySF (plainFor_of_name pn_26) hisR ?_
  intro p e s m args below meth c s₁ Bd hml0 hP hK
  obtain ⟨rfl, hZ, hh⟩ := hP
  have hx := Bd.exec
  have hby := Bd.bytes
  have hml : c.maxLocals = 2 := hml0
  have hown : s.vm.findClass "com/example/entries_to_nodes/entriestonodes/xml/XsBooleanReadPinLaw" = some m.cls := findClass_of_methodNamed Bd.named
  have hnm := (name_of_methodNamed Bd.named Bd.method).1
  have X0 : Stand p l e ({ frames := 4, cells := 3, slots := 14, locals := 66 } : Room) s m #[(.ref ta), (.int 5)] below meth c s₁ [] 0 0 := Stand.of_body Bd
  have e0 : s₁.heap = h0 := by rw [← hh, Bd.state]; rfl
  have N0 := Fr.nil n0
  refine Go.enter (F := EndN s (Q_rmStr5 Z ta kt t0 t1 t2 t3 t4 t5 cs h0 n0) ({ frames := 4, cells := 3, slots := 14, locals := 66 } : Room).cells ({ frames := 4, cells := 3, slots := 14, locals := 66 } : Room).slots) (ef_27 m ta (5 : Int32)) ?_
  show Go _ _ _ _ s₁ (mkF m 0 #[rv ta, iv 5] [])
  refine Go.iload1 1 X0 hx (hb hby d1_0) rfl rfl ?_
  refine Go.ifY 15 X0 hx (hb hby d1_1) (XT.i0_ne_t (by decide)) (by decide) (by decide) ?_
  refine Go.iload1 16 X0 hx (hb hby d1_15) rfl rfl ?_
  refine Go.iconst 17 X0 hx (1 : Int32) (hb hby d1_16) (by decide) rfl ?_
  refine Go.icmpY 37 X0 hx (hb hby d1_17) (XT.ii_ne_t (by decide)) (by decide) (by decide) ?_
  refine Go.iload1 38 X0 hx (hb hby d1_37) rfl rfl ?_
  refine Go.iconst 39 X0 hx (2 : Int32) (hb hby d1_38) (by decide) rfl ?_
  refine Go.icmpY 65 X0 hx (hb hby d1_39) (XT.ii_ne_t (by decide)) (by decide) (by decide) ?_
  refine Go.iload1 66 X0 hx (hb hby d1_65) rfl rfl ?_
  refine Go.iconst 67 X0 hx (3 : Int32) (hb hby d1_66) (by decide) rfl ?_
  refine Go.icmpY 99 X0 hx (hb hby d1_67) (XT.ii_ne_t (by decide)) (by decide) (by decide) ?_
  refine Go.iload1 100 X0 hx (hb hby d1_99) rfl rfl ?_
  refine Go.iconst 101 X0 hx (4 : Int32) (hb hby d1_100) (by decide) rfl ?_
  refine Go.icmpY 139 X0 hx (hb hby d1_101) (XT.ii_ne_t (by decide)) (by decide) (by decide) ?_
  refine Go.iload1 140 X0 hx (hb hby d1_139) rfl rfl ?_
  refine Go.iconst 141 X0 hx (5 : Int32) (hb hby d1_140) (by decide) rfl ?_
  refine Go.icmpN 144 X0 hx (hb hby d1_141) (XT.ii_ne_f rfl) rfl ?_
  obtain ⟨st, g1⟩ : ∃ z, z = h0.size := ⟨_, rfl⟩
  have ge_st : n0 ≤ st := Nat.le_trans Z0 (Nat.le_of_eq g1.symm)
  have sz_st : h0.size ≤ st := Nat.le_trans (Keep.refl h0 []).1 (Nat.le_of_eq g1.symm)
  have ne_ta_st : ta ≠ st := Nat.ne_of_lt (Nat.lt_of_lt_of_le V_ta.lt (Nat.le_of_eq g1.symm))
  obtain ⟨T1, h1, X1, e1, E1, A1, D1, -, st1⟩ := newO X0 hx hZ hown (ow hw 5 rfl) (ow hw 6 rfl) (ow hw 7 rfl) e0 (g := (mkF m 144 #[rv ta, iv 5] [])) rfl (hb hby d1_144) (by decide) (by decide)
  rw [← g1] at A1 D1 st1
  have F_value_st : Fld Z h1 st "java/lang/String" "value" "[B" .null := D1 (Or.inr (ow hw 20 rfl)) (ty := (.array .byte)) (by decide)
  have F_coder_st : Fld Z h1 st "java/lang/String" "coder" "B" (.int 0) := D1 (Or.inr (ow hw 21 rfl)) (ty := .byte) (by decide)
  refine Go.by st1 ?_
  show Go _ _ _ _ T1 (mkF m 147 #[rv ta, iv 5] [(.ref st)])
  refine Go.dup 148 X1 hx (hb hby d1_147) rfl rfl ?_
  refine Go.iconst 149 X1 hx (5 : Int32) (hb hby d1_148) (by decide) rfl ?_
  obtain ⟨ca, g2⟩ : ∃ z, z = h1.size := ⟨_, rfl⟩
  have F3 : n0 ≤ h1.size := Nat.le_trans Z0 E1.1
  have ge_ca : n0 ≤ ca := Nat.le_trans F3 (Nat.le_of_eq g2.symm)
  have F4 : Keep h0 h1 [] := (Keep.refl h0 []).ext E1
  have sz_ca : h0.size ≤ ca := Nat.le_trans F4.1 (Nat.le_of_eq g2.symm)
  have ne_st_ca : st ≠ ca := Nat.ne_of_lt (Nat.lt_of_lt_of_le A1.lt (Nat.le_of_eq g2.symm))
  have F5 : Arv Z h1 ta kt .char (6 : Int32) [(.int t0), (.int t1), (.int t2), (.int t3), (.int t4), (.int t5)] (.int 0) := V_ta.ext E1
  have ne_ta_ca : ta ≠ ca := Nat.ne_of_lt (Nat.lt_of_lt_of_le F5.lt (Nat.le_of_eq g2.symm))
  obtain ⟨T2, h2, k2, X2, e2, E2, A2, Ea2, st2⟩ := newPE X1 hx hZ (ow hw 0 rfl) e1 (g := (mkF m 149 #[rv ta, iv 5] [(.int 5), (.ref st), (.ref st)])) rfl (hb hby d1_149) rfl (by decide) (cap := 5) (by decide) (by decide) (by decide) (by decide) (ad := "[C") rfl
  rw [← g2] at A2 Ea2 st2
  have V_ca : Arv Z h2 ca k2 .char (5 : Int32) [(.int 0), (.int 0), (.int 0), (.int 0), (.int 0)] (.int 0) := (Arv.new A2 (by decide)).pad (pad_rep [] (.int 0) 5)
  refine Go.by st2 ?_
  show Go _ _ _ _ T2 (mkF m 151 #[rv ta, iv 5] [(.ref ca), (.ref st), (.ref st)])
  refine Go.dup 152 X2 hx (hb hby d1_151) rfl rfl ?_
  refine Go.iconst 153 X2 hx (0 : Int32) (hb hby d1_152) (by decide) rfl ?_
  refine Go.aload1 154 X2 hx (hb hby d1_153) rfl rfl rfl ?_
  refine Go.iconst 155 X2 hx (0 : Int32) (hb hby d1_154) (by decide) rfl ?_
  have F6 : Arv Z h2 ta kt .char (6 : Int32) [(.int t0), (.int t1), (.int t2), (.int t3), (.int t4), (.int t5)] (.int 0) := F5.ext E2
  obtain ⟨cl7, Ar7, -, S7, M7, H7, -⟩ := id F6
  have hin7 : ¬ ((0 : Int32) < 0 ∨ cl7.slots.size ≤ (0 : Int32).toNatClampNeg) := inb_of S7 ⟨by decide, by decide⟩
  refine Go.by (fun _ gk => X2.caload hx (j := (0 : Int32)) (v := (.int t0)) (by rw [e2]; exact Ar7.1) (State.isArrayOf_alike hZ.alike Ar7.2.1) Ar7.2.2 hin7 (Has.at H7 hin7 rfl) (g := (mkF m 155 #[rv ta, iv 5] [(.int 0), (.ref ta), (.int 0), (.ref ca), (.ref ca), (.ref st), (.ref st)])) rfl rfl (hb hby d1_155) _ gk) ?_
  show Go _ _ _ _ T2 (mkF m 156 #[rv ta, iv 5] [(.int t0), (.int 0), (.ref ca), (.ref ca), (.ref st), (.ref st)])
  obtain ⟨cl8, Ar8, q8, S8, M8, H8, G8⟩ := id V_ca
  have hin8 : ¬ ((0 : Int32) < 0 ∨ cl8.slots.size ≤ (0 : Int32).toNatClampNeg) := inb_of S8 ⟨by decide, by decide⟩
  obtain ⟨T8, h8, X8, e8, W8, st8⟩ := stC X2 hx hZ e2 Ar8 (j := (0 : Int32)) hin8 (g := (mkF m 156 #[rv ta, iv 5] [(.int t0), (.int 0), (.ref ca), (.ref ca), (.ref st), (.ref st)])) rfl rfl (hb hby d1_156)
  have N8 := Fr.snoc X8 N0 ge_ca
  have V8 : Arv Z h8 ca k2 .char (5 : Int32) [(.int (nar .char t0)), (.int 0), (.int 0), (.int 0), (.int 0)] (.int 0) := Arv.set Ar8 q8 S8 M8 H8 G8 (fits_nar_char _) W8 0 rfl (Nat.le_of_ble_eq_true rfl)
  refine Go.by st8 ?_
  show Go _ _ _ _ T8 (mkF m 157 #[rv ta, iv 5] [(.ref ca), (.ref st), (.ref st)])
  rw [own_ncb (t := t0) hb0.1 hb0.2] at V8
  refine Go.dup 158 X8 hx (hb hby d1_157) rfl rfl ?_
  refine Go.iconst 159 X8 hx (1 : Int32) (hb hby d1_158) (by decide) rfl ?_
  refine Go.aload1 160 X8 hx (hb hby d1_159) rfl rfl rfl ?_
  refine Go.iconst 161 X8 hx (1 : Int32) (hb hby d1_160) (by decide) rfl ?_
  have F9 : Arv Z h8 ta kt .char (6 : Int32) [(.int t0), (.int t1), (.int t2), (.int t3), (.int t4), (.int t5)] (.int 0) := F6.other W8 ne_ta_ca
  obtain ⟨cl10, Ar10, -, S10, M10, H10, -⟩ := id F9
  have hin10 : ¬ ((1 : Int32) < 0 ∨ cl10.slots.size ≤ (1 : Int32).toNatClampNeg) := inb_of S10 ⟨by decide, by decide⟩
  refine Go.by (fun _ gk => X8.caload hx (j := (1 : Int32)) (v := (.int t1)) (by rw [e8]; exact Ar10.1) (State.isArrayOf_alike hZ.alike Ar10.2.1) Ar10.2.2 hin10 (Has.at H10 hin10 rfl) (g := (mkF m 161 #[rv ta, iv 5] [(.int 1), (.ref ta), (.int 1), (.ref ca), (.ref ca), (.ref st), (.ref st)])) rfl rfl (hb hby d1_161) _ gk) ?_
  show Go _ _ _ _ T8 (mkF m 162 #[rv ta, iv 5] [(.int t1), (.int 1), (.ref ca), (.ref ca), (.ref st), (.ref st)])
  obtain ⟨cl11, Ar11, q11, S11, M11, H11, G11⟩ := id V8
  have hin11 : ¬ ((1 : Int32) < 0 ∨ cl11.slots.size ≤ (1 : Int32).toNatClampNeg) := inb_of S11 ⟨by decide, by decide⟩
  obtain ⟨T11, h11, X11, e11, W11, st11⟩ := stC X8 hx hZ e8 Ar11 (j := (1 : Int32)) hin11 (g := (mkF m 162 #[rv ta, iv 5] [(.int t1), (.int 1), (.ref ca), (.ref ca), (.ref st), (.ref st)])) rfl rfl (hb hby d1_162)
  have N11 := Fr.snoc X11 N8 ge_ca
  have V11 : Arv Z h11 ca k2 .char (5 : Int32) [(.int t0), (.int (nar .char t1)), (.int 0), (.int 0), (.int 0)] (.int 0) := Arv.set Ar11 q11 S11 M11 H11 G11 (fits_nar_char _) W11 1 rfl (Nat.le_of_ble_eq_true rfl)
  refine Go.by st11 ?_
  show Go _ _ _ _ T11 (mkF m 163 #[rv ta, iv 5] [(.ref ca), (.ref st), (.ref st)])
  rw [own_ncb (t := t1) hb1.1 hb1.2] at V11
  refine Go.dup 164 X11 hx (hb hby d1_163) rfl rfl ?_
  refine Go.iconst 165 X11 hx (2 : Int32) (hb hby d1_164) (by decide) rfl ?_
  refine Go.aload1 166 X11 hx (hb hby d1_165) rfl rfl rfl ?_
  refine Go.iconst 167 X11 hx (2 : Int32) (hb hby d1_166) (by decide) rfl ?_
  have F12 : Arv Z h11 ta kt .char (6 : Int32) [(.int t0), (.int t1), (.int t2), (.int t3), (.int t4), (.int t5)] (.int 0) := F9.other W11 ne_ta_ca
  obtain ⟨cl13, Ar13, -, S13, M13, H13, -⟩ := id F12
  have hin13 : ¬ ((2 : Int32) < 0 ∨ cl13.slots.size ≤ (2 : Int32).toNatClampNeg) := inb_of S13 ⟨by decide, by decide⟩
  refine Go.by (fun _ gk => X11.caload hx (j := (2 : Int32)) (v := (.int t2)) (by rw [e11]; exact Ar13.1) (State.isArrayOf_alike hZ.alike Ar13.2.1) Ar13.2.2 hin13 (Has.at H13 hin13 rfl) (g := (mkF m 167 #[rv ta, iv 5] [(.int 2), (.ref ta), (.int 2), (.ref ca), (.ref ca), (.ref st), (.ref st)])) rfl rfl (hb hby d1_167) _ gk) ?_
  show Go _ _ _ _ T11 (mkF m 168 #[rv ta, iv 5] [(.int t2), (.int 2), (.ref ca), (.ref ca), (.ref st), (.ref st)])
  obtain ⟨cl14, Ar14, q14, S14, M14, H14, G14⟩ := id V11
  have hin14 : ¬ ((2 : Int32) < 0 ∨ cl14.slots.size ≤ (2 : Int32).toNatClampNeg) := inb_of S14 ⟨by decide, by decide⟩
  obtain ⟨T14, h14, X14, e14, W14, st14⟩ := stC X11 hx hZ e11 Ar14 (j := (2 : Int32)) hin14 (g := (mkF m 168 #[rv ta, iv 5] [(.int t2), (.int 2), (.ref ca), (.ref ca), (.ref st), (.ref st)])) rfl rfl (hb hby d1_168)
  have N14 := Fr.snoc X14 N11 ge_ca
  have V14 : Arv Z h14 ca k2 .char (5 : Int32) [(.int t0), (.int t1), (.int (nar .char t2)), (.int 0), (.int 0)] (.int 0) := Arv.set Ar14 q14 S14 M14 H14 G14 (fits_nar_char _) W14 2 rfl (Nat.le_of_ble_eq_true rfl)
  refine Go.by st14 ?_
  show Go _ _ _ _ T14 (mkF m 169 #[rv ta, iv 5] [(.ref ca), (.ref st), (.ref st)])
  rw [own_ncb (t := t2) hb2.1 hb2.2] at V14
  refine Go.dup 170 X14 hx (hb hby d1_169) rfl rfl ?_
  refine Go.iconst 171 X14 hx (3 : Int32) (hb hby d1_170) (by decide) rfl ?_
  refine Go.aload1 172 X14 hx (hb hby d1_171) rfl rfl rfl ?_
  refine Go.iconst 173 X14 hx (3 : Int32) (hb hby d1_172) (by decide) rfl ?_
  have F15 : Arv Z h14 ta kt .char (6 : Int32) [(.int t0), (.int t1), (.int t2), (.int t3), (.int t4), (.int t5)] (.int 0) := F12.other W14 ne_ta_ca
  obtain ⟨cl16, Ar16, -, S16, M16, H16, -⟩ := id F15
  have hin16 : ¬ ((3 : Int32) < 0 ∨ cl16.slots.size ≤ (3 : Int32).toNatClampNeg) := inb_of S16 ⟨by decide, by decide⟩
  refine Go.by (fun _ gk => X14.caload hx (j := (3 : Int32)) (v := (.int t3)) (by rw [e14]; exact Ar16.1) (State.isArrayOf_alike hZ.alike Ar16.2.1) Ar16.2.2 hin16 (Has.at H16 hin16 rfl) (g := (mkF m 173 #[rv ta, iv 5] [(.int 3), (.ref ta), (.int 3), (.ref ca), (.ref ca), (.ref st), (.ref st)])) rfl rfl (hb hby d1_173) _ gk) ?_
  show Go _ _ _ _ T14 (mkF m 174 #[rv ta, iv 5] [(.int t3), (.int 3), (.ref ca), (.ref ca), (.ref st), (.ref st)])
  obtain ⟨cl17, Ar17, q17, S17, M17, H17, G17⟩ := id V14
  have hin17 : ¬ ((3 : Int32) < 0 ∨ cl17.slots.size ≤ (3 : Int32).toNatClampNeg) := inb_of S17 ⟨by decide, by decide⟩
  obtain ⟨T17, h17, X17, e17, W17, st17⟩ := stC X14 hx hZ e14 Ar17 (j := (3 : Int32)) hin17 (g := (mkF m 174 #[rv ta, iv 5] [(.int t3), (.int 3), (.ref ca), (.ref ca), (.ref st), (.ref st)])) rfl rfl (hb hby d1_174)
  have N17 := Fr.snoc X17 N14 ge_ca
  have V17 : Arv Z h17 ca k2 .char (5 : Int32) [(.int t0), (.int t1), (.int t2), (.int (nar .char t3)), (.int 0)] (.int 0) := Arv.set Ar17 q17 S17 M17 H17 G17 (fits_nar_char _) W17 3 rfl (Nat.le_of_ble_eq_true rfl)
  refine Go.by st17 ?_
  show Go _ _ _ _ T17 (mkF m 175 #[rv ta, iv 5] [(.ref ca), (.ref st), (.ref st)])
  rw [own_ncb (t := t3) hb3.1 hb3.2] at V17
  refine Go.dup 176 X17 hx (hb hby d1_175) rfl rfl ?_
  refine Go.iconst 177 X17 hx (4 : Int32) (hb hby d1_176) (by decide) rfl ?_
  refine Go.aload1 178 X17 hx (hb hby d1_177) rfl rfl rfl ?_
  refine Go.iconst 179 X17 hx (4 : Int32) (hb hby d1_178) (by decide) rfl ?_
  have F18 : Arv Z h17 ta kt .char (6 : Int32) [(.int t0), (.int t1), (.int t2), (.int t3), (.int t4), (.int t5)] (.int 0) := F15.other W17 ne_ta_ca
  obtain ⟨cl19, Ar19, -, S19, M19, H19, -⟩ := id F18
  have hin19 : ¬ ((4 : Int32) < 0 ∨ cl19.slots.size ≤ (4 : Int32).toNatClampNeg) := inb_of S19 ⟨by decide, by decide⟩
  refine Go.by (fun _ gk => X17.caload hx (j := (4 : Int32)) (v := (.int t4)) (by rw [e17]; exact Ar19.1) (State.isArrayOf_alike hZ.alike Ar19.2.1) Ar19.2.2 hin19 (Has.at H19 hin19 rfl) (g := (mkF m 179 #[rv ta, iv 5] [(.int 4), (.ref ta), (.int 4), (.ref ca), (.ref ca), (.ref st), (.ref st)])) rfl rfl (hb hby d1_179) _ gk) ?_
  show Go _ _ _ _ T17 (mkF m 180 #[rv ta, iv 5] [(.int t4), (.int 4), (.ref ca), (.ref ca), (.ref st), (.ref st)])
  obtain ⟨cl20, Ar20, q20, S20, M20, H20, G20⟩ := id V17
  have hin20 : ¬ ((4 : Int32) < 0 ∨ cl20.slots.size ≤ (4 : Int32).toNatClampNeg) := inb_of S20 ⟨by decide, by decide⟩
  obtain ⟨T20, h20, X20, e20, W20, st20⟩ := stC X17 hx hZ e17 Ar20 (j := (4 : Int32)) hin20 (g := (mkF m 180 #[rv ta, iv 5] [(.int t4), (.int 4), (.ref ca), (.ref ca), (.ref st), (.ref st)])) rfl rfl (hb hby d1_180)
  have N20 := Fr.snoc X20 N17 ge_ca
  have V20 : Arv Z h20 ca k2 .char (5 : Int32) [(.int t0), (.int t1), (.int t2), (.int t3), (.int (nar .char t4))] (.int 0) := Arv.set Ar20 q20 S20 M20 H20 G20 (fits_nar_char _) W20 4 rfl (Nat.le_of_ble_eq_true rfl)
  refine Go.by st20 ?_
  show Go _ _ _ _ T20 (mkF m 181 #[rv ta, iv 5] [(.ref ca), (.ref st), (.ref st)])
  rw [own_ncb (t := t4) hb4.1 hb4.2] at V20
  have F21 : Old Z n0 h1 := O0.ext E1
  have F22 : Old Z n0 h2 := F21.ext E2
  have F23 : Old Z n0 h8 := F22.wr W8 ge_ca
  have F24 : Old Z n0 h11 := F23.wr W11 ge_ca
  have F25 : Old Z n0 h14 := F24.wr W14 ge_ca
  have F26 : Old Z n0 h17 := F25.wr W17 ge_ca
  have F27 : Old Z n0 h20 := F26.wr W20 ge_ca
  have F28 : Exa Z h2 st "java/lang/String" := A1.ext E2
  have F29 : Exa Z h8 st "java/lang/String" := F28.wr W8
  have F30 : Exa Z h11 st "java/lang/String" := F29.wr W11
  have F31 : Exa Z h14 st "java/lang/String" := F30.wr W14
  have F32 : Exa Z h17 st "java/lang/String" := F31.wr W17
  have F33 : Exa Z h20 st "java/lang/String" := F32.wr W20
  have F34 : Fld Z h2 st "java/lang/String" "value" "[B" .null := F_value_st.ext E2
  have F35 : Fld Z h8 st "java/lang/String" "value" "[B" .null := F34.other W8 (Or.inl ne_st_ca)
  have F36 : Fld Z h11 st "java/lang/String" "value" "[B" .null := F35.other W11 (Or.inl ne_st_ca)
  have F37 : Fld Z h14 st "java/lang/String" "value" "[B" .null := F36.other W14 (Or.inl ne_st_ca)
  have F38 : Fld Z h17 st "java/lang/String" "value" "[B" .null := F37.other W17 (Or.inl ne_st_ca)
  have F39 : Fld Z h20 st "java/lang/String" "value" "[B" .null := F38.other W20 (Or.inl ne_st_ca)
  have F40 : Fld Z h2 st "java/lang/String" "coder" "B" (.int 0) := F_coder_st.ext E2
  have F41 : Fld Z h8 st "java/lang/String" "coder" "B" (.int 0) := F40.other W8 (Or.inl ne_st_ca)
  have F42 : Fld Z h11 st "java/lang/String" "coder" "B" (.int 0) := F41.other W11 (Or.inl ne_st_ca)
  have F43 : Fld Z h14 st "java/lang/String" "coder" "B" (.int 0) := F42.other W14 (Or.inl ne_st_ca)
  have F44 : Fld Z h17 st "java/lang/String" "coder" "B" (.int 0) := F43.other W17 (Or.inl ne_st_ca)
  have F45 : Fld Z h20 st "java/lang/String" "coder" "B" (.int 0) := F44.other W20 (Or.inl ne_st_ca)
  have F46 : n0 ≤ h2.size := Nat.le_trans F3 E2.1
  have F47 : n0 ≤ h8.size := Nat.le_trans F46 (Nat.le_of_eq (Wr.size W8).symm)
  have F48 : n0 ≤ h11.size := Nat.le_trans F47 (Nat.le_of_eq (Wr.size W11).symm)
  have F49 : n0 ≤ h14.size := Nat.le_trans F48 (Nat.le_of_eq (Wr.size W14).symm)
  have F50 : n0 ≤ h17.size := Nat.le_trans F49 (Nat.le_of_eq (Wr.size W17).symm)
  have F51 : n0 ≤ h20.size := Nat.le_trans F50 (Nat.le_of_eq (Wr.size W20).symm)
  have F52 : Keep h0 h2 [] := F4.ext E2
  have F53 : Keep h0 h8 [] := F52.wr W8 (Or.inr sz_ca)
  have F54 : Keep h0 h11 [] := F53.wr W11 (Or.inr sz_ca)
  have F55 : Keep h0 h14 [] := F54.wr W14 (Or.inr sz_ca)
  have F56 : Keep h0 h17 [] := F55.wr W17 (Or.inr sz_ca)
  have F57 : Keep h0 h20 [] := F56.wr W20 (Or.inr sz_ca)
  have F58 : Exa Z h8 ca "[C" := Ea2.wr W8
  have F59 : Exa Z h11 ca "[C" := F58.wr W11
  have F60 : Exa Z h14 ca "[C" := F59.wr W14
  have F61 : Exa Z h17 ca "[C" := F60.wr W17
  have F62 : Exa Z h20 ca "[C" := F61.wr W20
  have F63 : Arv Z h20 ta kt .char (6 : Int32) [(.int t0), (.int t1), (.int t2), (.int t3), (.int t4), (.int t5)] (.int 0) := F18.other W20 ne_ta_ca
  obtain ⟨_, _, ⟨T64, L64, k64, n64⟩, -, X64, ⟨Lc64, hQ64, l64, y64, z64⟩, st64⟩ := X20.specialBack hx (y := (⟨"java/lang/String", "<init>", "([C)V"⟩ : MethodName)) rfl hown (mvT hZ (ow hw 8 rfl)) (mvT hZ (ow hw 9 rfl)) (mvT hZ (ow hw 10 rfl)) (by decide) (backOf (W := 1) (rmS1_5 l Z a0 hw [] st ca k2 t0 t1 t2 t3 t4 cs h20 n0 F51 F27 F33 F39 F45 ge_st V20 hb0.2 hb1.2 hb2.2 hb3.2 hb4.2 S_cs n_cs) hZ (ow hw 10 rfl) (ow hw 7 rfl) (by decide) (by decide)) (g := (mkF m 181 #[rv ta, iv 5] [(.ref ca), (.ref st), (.ref st)])) rfl (by rw [hml]; rfl) (Steps.refl _) (a := st) (argsL := [(.ref ca)]) (rest := [(.ref st)]) (lenOf pd_34 rfl) rfl (by show 2 * 0 + _ ≤ _; exact Nat.le_of_eq rfl) (hb hby d1_181) (fun _ _ => ⟨rfl, e20, (by decide : 2 + 1 ≤ _), (by decide : 9 + 5 ≤ _)⟩)
  dsimp only [Pt.U, Pt.locs, Pt.cells, Pt.slots] at X64 l64 y64 z64 st64 hQ64
  subst l64 y64 z64
  obtain ⟨sb, kb, rfl, N64q, K64, Q64_0, Q64_1, Q64_2, Q64_3, Q64_4⟩ := hQ64
  have N64 := Fr.app N20 N64q
  refine Go.to st64 ?_
  show Go _ _ _ _ T64 (mkF m 184 #[rv ta, iv 5] [(.ref st)])
  have ge_sb : n0 ≤ sb := Nat.le_trans F51 Q64_4
  have sz_sb : h0.size ≤ sb := Nat.le_trans F57.1 Q64_4
  have ne_ca_sb : ca ≠ sb := Nat.ne_of_lt (Nat.lt_of_lt_of_le V20.lt Q64_4)
  have ne_st_sb : st ≠ sb := Nat.ne_of_lt (Nat.lt_of_lt_of_le F33.lt Q64_4)
  have ne_ta_sb : ta ≠ sb := Nat.ne_of_lt (Nat.lt_of_lt_of_le F63.lt Q64_4)
  have F65 : Keep h0 T64.heap [] := F57.trans K64 (allS (Or.inr sz_st) all0)
  exact Go.retA X64 hx Bd.notSynchronized Bd.returns rfl rfl (hb hby d1_184) ⟨st, sb, kb, rfl, N64, F65, Q64_0, Q64_1, Q64_2, Q64_3, sz_st⟩ (by decide) (by decide)
def Q_rmC5_6 (Z : State) (va : Addr) (da : Addr) (kv : ClassId) (kd : ClassId) (c0 : Int32) (c1 : Int32) (c2 : Int32) (c3 : Int32) (c4 : Int32) (c5 : Int32) (h0 : Heap) (n0 : Nat) (v : Option Value) (h : Heap) (L : List Loc) : Prop := v = some (.int 6) ∧ Fr n0 L ∧ Keep h0 h [da] ∧ Arv Z h da kd .byte (6 : Int32) ([(.int (own_b c0)), (.int (own_b c1)), (.int (own_b c2)), (.int (own_b c3)), (.int (own_b c4)), (.int (own_b c5))]) (.int 0)
set_option maxRecDepth 65536 in
set_option maxHeartbeats 40000000 in
theorem rmC5_6 (l : Launch) (Z : State) (a0 : Array Value) (hw : ∀ d ∈ tables_1, d.before a0 Z = true) (ws : List Jvm.Cond) (va : Addr) (da : Addr) (kv : ClassId) (kd : ClassId) (c0 : Int32) (c1 : Int32) (c2 : Int32) (c3 : Int32) (c4 : Int32) (c5 : Int32) (h0 : Heap) (n0 : Nat) (Z0 : n0 ≤ h0.size) (V_va : Arv Z h0 va kv .char (6 : Int32) ([(.int c0), (.int c1), (.int c2), (.int c3), (.int c4), (.int c5)]) (.int 0)) (V_da : Arv Z h0 da kd .byte (6 : Int32) ([(.int 0), (.int 0), (.int 0), (.int 0), (.int 0), (.int 0)]) (.int 0)) (g_da : n0 ≤ da) (ne_va_da : va ≠ da) (hc0 : (¬ (255 : Int32) < c0)) (hc1 : (¬ (255 : Int32) < c1)) (hc2 : (¬ (255 : Int32) < c2)) (hc3 : (¬ (255 : Int32) < c3)) (hc4 : (¬ (255 : Int32) < c4)) (hc5 : (¬ (255 : Int32) < c5)) :
    MetFree l (⟨"java/lang/StringUTF16", "compress", "([CI[BII)I"⟩ : MethodName) (head1 (Jvm.Cond.code (⟨"java/lang/StringUTF16", "compress", "([CI[BII)I"⟩ : MethodName) jdk_52_method_21_code 7 (some .int) :: ws) ({ frames := 0, cells := 0, slots := 0, locals := 0 } : Room)) (fun as' U => as' = #[(.ref va), (.int 0), (.ref da), (.int 0), (.int 6)] ∧ Z.Warmed39 U.vm ∧ U.heap = h0) (fun _ _ _ _ _ => True) (fun _ U o U' => ∃ v L, o = .returned v ∧ Q_rmC5_6 Z va da kv kd c0 c1 c2 c3 c4 c5 h0 n0 v U'.heap L ∧ FrameEnd U o U' L ({ frames := 0, cells := 0, slots := 0, locals := 0 } : Room).cells ({ frames := 0, cells := 0, slots := 0, locals := 0 } : Room).slots) := by
  refine MetFree.of_bodySF (plainFor_of_name pn_37) hisR ?_
  intro p e s m args below meth c s₁ Bd hml0 hP hK
  obtain ⟨rfl, hZ, hh⟩ := hP
  have hx := Bd.exec
  have hby := Bd.bytes
  have hml : c.maxLocals = 7 := hml0
  have hown : s.vm.findClass "java/lang/StringUTF16" = some m.cls := findClass_of_methodNamed Bd.named
  have hnm := (name_of_methodNamed Bd.named Bd.method).1
  have X0 : Stand p l e ({ frames := 0, cells := 0, slots := 0, locals := 0 } : Room) s m #[(.ref va), (.int 0), (.ref da), (.int 0), (.int 6)] below meth c s₁ [] 0 0 := Stand.of_body Bd
  have e0 : s₁.heap = h0 := by rw [← hh, Bd.state]; rfl
  have N0 := Fr.nil n0
  refine Go.enter (F := EndN s (Q_rmC5_6 Z va da kv kd c0 c1 c2 c3 c4 c5 h0 n0) ({ frames := 0, cells := 0, slots := 0, locals := 0 } : Room).cells ({ frames := 0, cells := 0, slots := 0, locals := 0 } : Room).slots) (ef_38 m va (0 : Int32) da (0 : Int32) (6 : Int32)) ?_
  show Go _ _ _ _ s₁ (mkF m 0 #[rv va, iv 0, rv da, iv 0, iv 6, un, un] [])
  refine Go.iconst 1 X0 hx (0 : Int32) (hb hby d9_0) (by decide) rfl ?_
  refine Go.istore2 3 X0 hx (L' := #[rv va, iv 0, rv da, iv 0, iv 6, iv 0, un]) (hb hby d9_1) rfl rfl ?_
  refine Go.iload2 5 X0 hx (hb hby d9_3) rfl rfl ?_
  refine Go.iload2 7 X0 hx (hb hby d9_5) rfl rfl ?_
  refine Go.icmpN 10 X0 hx (hb hby d9_7) (XT.ii_ge_f (by decide)) rfl ?_
  refine Go.aload1 11 X0 hx (hb hby d9_10) rfl rfl rfl ?_
  refine Go.iload1 12 X0 hx (hb hby d9_11) rfl rfl ?_
  obtain ⟨cl1, Ar1, -, S1, M1, H1, -⟩ := id V_va
  have hin1 : ¬ ((0 : Int32) < 0 ∨ cl1.slots.size ≤ (0 : Int32).toNatClampNeg) := inb_of S1 ⟨by decide, by decide⟩
  refine Go.by (fun _ gk => X0.caload hx (j := (0 : Int32)) (v := (.int c0)) (by rw [e0]; exact Ar1.1) (State.isArrayOf_alike hZ.alike Ar1.2.1) Ar1.2.2 hin1 (Has.at H1 hin1 rfl) (g := (mkF m 12 #[rv va, iv 0, rv da, iv 0, iv 6, iv 0, un] [(.int 0), (.ref va)])) rfl rfl (hb hby d9_12) _ gk) ?_
  show Go _ _ _ _ s₁ (mkF m 13 #[rv va, iv 0, rv da, iv 0, iv 6, iv 0, un] [(.int c0)])
  refine Go.istore2 15 X0 hx (L' := #[rv va, iv 0, rv da, iv 0, iv 6, iv 0, iv c0]) (hb hby d9_13) rfl rfl ?_
  refine Go.iload2 17 X0 hx (hb hby d9_15) rfl rfl ?_
  refine Go.sipush 20 X0 hx (255 : Int32) (hb hby d9_17) (by decide) rfl ?_
  refine Go.icmpY 26 X0 hx (hb hby d9_20) (XT.ii_le_t hc0) (by decide) (by decide) ?_
  refine Go.aload1 27 X0 hx (hb hby d9_26) rfl rfl rfl ?_
  refine Go.iload1 28 X0 hx (hb hby d9_27) rfl rfl ?_
  refine Go.iload2 30 X0 hx (hb hby d9_28) rfl rfl ?_
  refine Go.i2b 31 X0 hx (hb hby d9_30) rfl ?_
  obtain ⟨cl2, Ar2, q2, S2, M2, H2, G2⟩ := id V_da
  have hin2 : ¬ ((0 : Int32) < 0 ∨ cl2.slots.size ≤ (0 : Int32).toNatClampNeg) := inb_of S2 ⟨by decide, by decide⟩
  obtain ⟨T2, h2, X2, e2, W2, st2⟩ := stB X0 hx hZ e0 Ar2 (j := (0 : Int32)) hin2 (g := (mkF m 31 #[rv va, iv 0, rv da, iv 0, iv 6, iv 0, iv c0] [(.int (c0.toInt8.toInt32)), (.int 0), (.ref da)])) rfl rfl (hb hby d9_31)
  have N2 := Fr.snoc X2 N0 g_da
  have V2 : Arv Z h2 da kd .byte (6 : Int32) [(.int (nar .byte (c0.toInt8.toInt32))), (.int 0), (.int 0), (.int 0), (.int 0), (.int 0)] (.int 0) := Arv.set Ar2 q2 S2 M2 H2 G2 (fits_nar_byte _) W2 0 rfl (Nat.le_of_ble_eq_true rfl)
  refine Go.by st2 ?_
  show Go _ _ _ _ T2 (mkF m 32 #[rv va, iv 0, rv da, iv 0, iv 6, iv 0, iv c0] [])
  rw [own_bn] at V2
  refine Go.iinc 35 X2 hx (1 : Int32) (L' := #[rv va, iv 1, rv da, iv 0, iv 6, iv 0, iv c0]) (hb hby d9_32) (by decide) rfl rfl rfl ?_
  refine Go.iinc 38 X2 hx (1 : Int32) (L' := #[rv va, iv 1, rv da, iv 1, iv 6, iv 0, iv c0]) (hb hby d9_35) (by decide) rfl rfl rfl ?_
  refine Go.iinc 41 X2 hx (1 : Int32) (L' := #[rv va, iv 1, rv da, iv 1, iv 6, iv 1, iv c0]) (hb hby d9_38) (by decide) rfl rfl rfl ?_
  refine Go.goto 3 X2 hx (hb hby d9_41) (by decide) (by decide) ?_
  refine Go.iload2 5 X2 hx (hb hby d9_3) rfl rfl ?_
  refine Go.iload2 7 X2 hx (hb hby d9_5) rfl rfl ?_
  refine Go.icmpN 10 X2 hx (hb hby d9_7) (XT.ii_ge_f (by decide)) rfl ?_
  refine Go.aload1 11 X2 hx (hb hby d9_10) rfl rfl rfl ?_
  refine Go.iload1 12 X2 hx (hb hby d9_11) rfl rfl ?_
  have F3 : Arv Z h2 va kv .char (6 : Int32) [(.int c0), (.int c1), (.int c2), (.int c3), (.int c4), (.int c5)] (.int 0) := V_va.other W2 ne_va_da
  obtain ⟨cl4, Ar4, -, S4, M4, H4, -⟩ := id F3
  have hin4 : ¬ ((1 : Int32) < 0 ∨ cl4.slots.size ≤ (1 : Int32).toNatClampNeg) := inb_of S4 ⟨by decide, by decide⟩
  refine Go.by (fun _ gk => X2.caload hx (j := (1 : Int32)) (v := (.int c1)) (by rw [e2]; exact Ar4.1) (State.isArrayOf_alike hZ.alike Ar4.2.1) Ar4.2.2 hin4 (Has.at H4 hin4 rfl) (g := (mkF m 12 #[rv va, iv 1, rv da, iv 1, iv 6, iv 1, iv c0] [(.int 1), (.ref va)])) rfl rfl (hb hby d9_12) _ gk) ?_
  show Go _ _ _ _ T2 (mkF m 13 #[rv va, iv 1, rv da, iv 1, iv 6, iv 1, iv c0] [(.int c1)])
  refine Go.istore2 15 X2 hx (L' := #[rv va, iv 1, rv da, iv 1, iv 6, iv 1, iv c1]) (hb hby d9_13) rfl rfl ?_
  refine Go.iload2 17 X2 hx (hb hby d9_15) rfl rfl ?_
  refine Go.sipush 20 X2 hx (255 : Int32) (hb hby d9_17) (by decide) rfl ?_
  refine Go.icmpY 26 X2 hx (hb hby d9_20) (XT.ii_le_t hc1) (by decide) (by decide) ?_
  refine Go.aload1 27 X2 hx (hb hby d9_26) rfl rfl rfl ?_
  refine Go.iload1 28 X2 hx (hb hby d9_27) rfl rfl ?_
  refine Go.iload2 30 X2 hx (hb hby d9_28) rfl rfl ?_
  refine Go.i2b 31 X2 hx (hb hby d9_30) rfl ?_
  obtain ⟨cl5, Ar5, q5, S5, M5, H5, G5⟩ := id V2
  have hin5 : ¬ ((1 : Int32) < 0 ∨ cl5.slots.size ≤ (1 : Int32).toNatClampNeg) := inb_of S5 ⟨by decide, by decide⟩
  obtain ⟨T5, h5, X5, e5, W5, st5⟩ := stB X2 hx hZ e2 Ar5 (j := (1 : Int32)) hin5 (g := (mkF m 31 #[rv va, iv 1, rv da, iv 1, iv 6, iv 1, iv c1] [(.int (c1.toInt8.toInt32)), (.int 1), (.ref da)])) rfl rfl (hb hby d9_31)
  have N5 := Fr.snoc X5 N2 g_da
  have V5 : Arv Z h5 da kd .byte (6 : Int32) [(.int (own_b c0)), (.int (nar .byte (c1.toInt8.toInt32))), (.int 0), (.int 0), (.int 0), (.int 0)] (.int 0) := Arv.set Ar5 q5 S5 M5 H5 G5 (fits_nar_byte _) W5 1 rfl (Nat.le_of_ble_eq_true rfl)
  refine Go.by st5 ?_
  show Go _ _ _ _ T5 (mkF m 32 #[rv va, iv 1, rv da, iv 1, iv 6, iv 1, iv c1] [])
  rw [own_bn] at V5
  refine Go.iinc 35 X5 hx (1 : Int32) (L' := #[rv va, iv 2, rv da, iv 1, iv 6, iv 1, iv c1]) (hb hby d9_32) (by decide) rfl rfl rfl ?_
  refine Go.iinc 38 X5 hx (1 : Int32) (L' := #[rv va, iv 2, rv da, iv 2, iv 6, iv 1, iv c1]) (hb hby d9_35) (by decide) rfl rfl rfl ?_
  refine Go.iinc 41 X5 hx (1 : Int32) (L' := #[rv va, iv 2, rv da, iv 2, iv 6, iv 2, iv c1]) (hb hby d9_38) (by decide) rfl rfl rfl ?_
  refine Go.goto 3 X5 hx (hb hby d9_41) (by decide) (by decide) ?_
  refine Go.iload2 5 X5 hx (hb hby d9_3) rfl rfl ?_
  refine Go.iload2 7 X5 hx (hb hby d9_5) rfl rfl ?_
  refine Go.icmpN 10 X5 hx (hb hby d9_7) (XT.ii_ge_f (by decide)) rfl ?_
  refine Go.aload1 11 X5 hx (hb hby d9_10) rfl rfl rfl ?_
  refine Go.iload1 12 X5 hx (hb hby d9_11) rfl rfl ?_
  have F6 : Arv Z h5 va kv .char (6 : Int32) [(.int c0), (.int c1), (.int c2), (.int c3), (.int c4), (.int c5)] (.int 0) := F3.other W5 ne_va_da
  obtain ⟨cl7, Ar7, -, S7, M7, H7, -⟩ := id F6
  have hin7 : ¬ ((2 : Int32) < 0 ∨ cl7.slots.size ≤ (2 : Int32).toNatClampNeg) := inb_of S7 ⟨by decide, by decide⟩
  refine Go.by (fun _ gk => X5.caload hx (j := (2 : Int32)) (v := (.int c2)) (by rw [e5]; exact Ar7.1) (State.isArrayOf_alike hZ.alike Ar7.2.1) Ar7.2.2 hin7 (Has.at H7 hin7 rfl) (g := (mkF m 12 #[rv va, iv 2, rv da, iv 2, iv 6, iv 2, iv c1] [(.int 2), (.ref va)])) rfl rfl (hb hby d9_12) _ gk) ?_
  show Go _ _ _ _ T5 (mkF m 13 #[rv va, iv 2, rv da, iv 2, iv 6, iv 2, iv c1] [(.int c2)])
  refine Go.istore2 15 X5 hx (L' := #[rv va, iv 2, rv da, iv 2, iv 6, iv 2, iv c2]) (hb hby d9_13) rfl rfl ?_
  refine Go.iload2 17 X5 hx (hb hby d9_15) rfl rfl ?_
  refine Go.sipush 20 X5 hx (255 : Int32) (hb hby d9_17) (by decide) rfl ?_
  refine Go.icmpY 26 X5 hx (hb hby d9_20) (XT.ii_le_t hc2) (by decide) (by decide) ?_
  refine Go.aload1 27 X5 hx (hb hby d9_26) rfl rfl rfl ?_
  refine Go.iload1 28 X5 hx (hb hby d9_27) rfl rfl ?_
  refine Go.iload2 30 X5 hx (hb hby d9_28) rfl rfl ?_
  refine Go.i2b 31 X5 hx (hb hby d9_30) rfl ?_
  obtain ⟨cl8, Ar8, q8, S8, M8, H8, G8⟩ := id V5
  have hin8 : ¬ ((2 : Int32) < 0 ∨ cl8.slots.size ≤ (2 : Int32).toNatClampNeg) := inb_of S8 ⟨by decide, by decide⟩
  obtain ⟨T8, h8, X8, e8, W8, st8⟩ := stB X5 hx hZ e5 Ar8 (j := (2 : Int32)) hin8 (g := (mkF m 31 #[rv va, iv 2, rv da, iv 2, iv 6, iv 2, iv c2] [(.int (c2.toInt8.toInt32)), (.int 2), (.ref da)])) rfl rfl (hb hby d9_31)
  have N8 := Fr.snoc X8 N5 g_da
  have V8 : Arv Z h8 da kd .byte (6 : Int32) [(.int (own_b c0)), (.int (own_b c1)), (.int (nar .byte (c2.toInt8.toInt32))), (.int 0), (.int 0), (.int 0)] (.int 0) := Arv.set Ar8 q8 S8 M8 H8 G8 (fits_nar_byte _) W8 2 rfl (Nat.le_of_ble_eq_true rfl)
  refine Go.by st8 ?_
  show Go _ _ _ _ T8 (mkF m 32 #[rv va, iv 2, rv da, iv 2, iv 6, iv 2, iv c2] [])
  rw [own_bn] at V8
  refine Go.iinc 35 X8 hx (1 : Int32) (L' := #[rv va, iv 3, rv da, iv 2, iv 6, iv 2, iv c2]) (hb hby d9_32) (by decide) rfl rfl rfl ?_
  refine Go.iinc 38 X8 hx (1 : Int32) (L' := #[rv va, iv 3, rv da, iv 3, iv 6, iv 2, iv c2]) (hb hby d9_35) (by decide) rfl rfl rfl ?_
  refine Go.iinc 41 X8 hx (1 : Int32) (L' := #[rv va, iv 3, rv da, iv 3, iv 6, iv 3, iv c2]) (hb hby d9_38) (by decide) rfl rfl rfl ?_
  refine Go.goto 3 X8 hx (hb hby d9_41) (by decide) (by decide) ?_
  refine Go.iload2 5 X8 hx (hb hby d9_3) rfl rfl ?_
  refine Go.iload2 7 X8 hx (hb hby d9_5) rfl rfl ?_
  refine Go.icmpN 10 X8 hx (hb hby d9_7) (XT.ii_ge_f (by decide)) rfl ?_
  refine Go.aload1 11 X8 hx (hb hby d9_10) rfl rfl rfl ?_
  refine Go.iload1 12 X8 hx (hb hby d9_11) rfl rfl ?_
  have F9 : Arv Z h8 va kv .char (6 : Int32) [(.int c0), (.int c1), (.int c2), (.int c3), (.int c4), (.int c5)] (.int 0) := F6.other W8 ne_va_da
  obtain ⟨cl10, Ar10, -, S10, M10, H10, -⟩ := id F9
  have hin10 : ¬ ((3 : Int32) < 0 ∨ cl10.slots.size ≤ (3 : Int32).toNatClampNeg) := inb_of S10 ⟨by decide, by decide⟩
  refine Go.by (fun _ gk => X8.caload hx (j := (3 : Int32)) (v := (.int c3)) (by rw [e8]; exact Ar10.1) (State.isArrayOf_alike hZ.alike Ar10.2.1) Ar10.2.2 hin10 (Has.at H10 hin10 rfl) (g := (mkF m 12 #[rv va, iv 3, rv da, iv 3, iv 6, iv 3, iv c2] [(.int 3), (.ref va)])) rfl rfl (hb hby d9_12) _ gk) ?_
  show Go _ _ _ _ T8 (mkF m 13 #[rv va, iv 3, rv da, iv 3, iv 6, iv 3, iv c2] [(.int c3)])
  refine Go.istore2 15 X8 hx (L' := #[rv va, iv 3, rv da, iv 3, iv 6, iv 3, iv c3]) (hb hby d9_13) rfl rfl ?_
  refine Go.iload2 17 X8 hx (hb hby d9_15) rfl rfl ?_
  refine Go.sipush 20 X8 hx (255 : Int32) (hb hby d9_17) (by decide) rfl ?_
  refine Go.icmpY 26 X8 hx (hb hby d9_20) (XT.ii_le_t hc3) (by decide) (by decide) ?_
  refine Go.aload1 27 X8 hx (hb hby d9_26) rfl rfl rfl ?_
  refine Go.iload1 28 X8 hx (hb hby d9_27) rfl rfl ?_
  refine Go.iload2 30 X8 hx (hb hby d9_28) rfl rfl ?_
  refine Go.i2b 31 X8 hx (hb hby d9_30) rfl ?_
  obtain ⟨cl11, Ar11, q11, S11, M11, H11, G11⟩ := id V8
  have hin11 : ¬ ((3 : Int32) < 0 ∨ cl11.slots.size ≤ (3 : Int32).toNatClampNeg) := inb_of S11 ⟨by decide, by decide⟩
  obtain ⟨T11, h11, X11, e11, W11, st11⟩ := stB X8 hx hZ e8 Ar11 (j := (3 : Int32)) hin11 (g := (mkF m 31 #[rv va, iv 3, rv da, iv 3, iv 6, iv 3, iv c3] [(.int (c3.toInt8.toInt32)), (.int 3), (.ref da)])) rfl rfl (hb hby d9_31)
  have N11 := Fr.snoc X11 N8 g_da
  have V11 : Arv Z h11 da kd .byte (6 : Int32) [(.int (own_b c0)), (.int (own_b c1)), (.int (own_b c2)), (.int (nar .byte (c3.toInt8.toInt32))), (.int 0), (.int 0)] (.int 0) := Arv.set Ar11 q11 S11 M11 H11 G11 (fits_nar_byte _) W11 3 rfl (Nat.le_of_ble_eq_true rfl)
  refine Go.by st11 ?_
  show Go _ _ _ _ T11 (mkF m 32 #[rv va, iv 3, rv da, iv 3, iv 6, iv 3, iv c3] [])
  rw [own_bn] at V11
  refine Go.iinc 35 X11 hx (1 : Int32) (L' := #[rv va, iv 4, rv da, iv 3, iv 6, iv 3, iv c3]) (hb hby d9_32) (by decide) rfl rfl rfl ?_
  refine Go.iinc 38 X11 hx (1 : Int32) (L' := #[rv va, iv 4, rv da, iv 4, iv 6, iv 3, iv c3]) (hb hby d9_35) (by decide) rfl rfl rfl ?_
  refine Go.iinc 41 X11 hx (1 : Int32) (L' := #[rv va, iv 4, rv da, iv 4, iv 6, iv 4, iv c3]) (hb hby d9_38) (by decide) rfl rfl rfl ?_
  refine Go.goto 3 X11 hx (hb hby d9_41) (by decide) (by decide) ?_
  refine Go.iload2 5 X11 hx (hb hby d9_3) rfl rfl ?_
  refine Go.iload2 7 X11 hx (hb hby d9_5) rfl rfl ?_
  refine Go.icmpN 10 X11 hx (hb hby d9_7) (XT.ii_ge_f (by decide)) rfl ?_
  refine Go.aload1 11 X11 hx (hb hby d9_10) rfl rfl rfl ?_
  refine Go.iload1 12 X11 hx (hb hby d9_11) rfl rfl ?_
  have F12 : Arv Z h11 va kv .char (6 : Int32) [(.int c0), (.int c1), (.int c2), (.int c3), (.int c4), (.int c5)] (.int 0) := F9.other W11 ne_va_da
  obtain ⟨cl13, Ar13, -, S13, M13, H13, -⟩ := id F12
  have hin13 : ¬ ((4 : Int32) < 0 ∨ cl13.slots.size ≤ (4 : Int32).toNatClampNeg) := inb_of S13 ⟨by decide, by decide⟩
  refine Go.by (fun _ gk => X11.caload hx (j := (4 : Int32)) (v := (.int c4)) (by rw [e11]; exact Ar13.1) (State.isArrayOf_alike hZ.alike Ar13.2.1) Ar13.2.2 hin13 (Has.at H13 hin13 rfl) (g := (mkF m 12 #[rv va, iv 4, rv da, iv 4, iv 6, iv 4, iv c3] [(.int 4), (.ref va)])) rfl rfl (hb hby d9_12) _ gk) ?_
  show Go _ _ _ _ T11 (mkF m 13 #[rv va, iv 4, rv da, iv 4, iv 6, iv 4, iv c3] [(.int c4)])
  refine Go.istore2 15 X11 hx (L' := #[rv va, iv 4, rv da, iv 4, iv 6, iv 4, iv c4]) (hb hby d9_13) rfl rfl ?_
  refine Go.iload2 17 X11 hx (hb hby d9_15) rfl rfl ?_
  refine Go.sipush 20 X11 hx (255 : Int32) (hb hby d9_17) (by decide) rfl ?_
  refine Go.icmpY 26 X11 hx (hb hby d9_20) (XT.ii_le_t hc4) (by decide) (by decide) ?_
  refine Go.aload1 27 X11 hx (hb hby d9_26) rfl rfl rfl ?_
  refine Go.iload1 28 X11 hx (hb hby d9_27) rfl rfl ?_
  refine Go.iload2 30 X11 hx (hb hby d9_28) rfl rfl ?_
  refine Go.i2b 31 X11 hx (hb hby d9_30) rfl ?_
  obtain ⟨cl14, Ar14, q14, S14, M14, H14, G14⟩ := id V11
  have hin14 : ¬ ((4 : Int32) < 0 ∨ cl14.slots.size ≤ (4 : Int32).toNatClampNeg) := inb_of S14 ⟨by decide, by decide⟩
  obtain ⟨T14, h14, X14, e14, W14, st14⟩ := stB X11 hx hZ e11 Ar14 (j := (4 : Int32)) hin14 (g := (mkF m 31 #[rv va, iv 4, rv da, iv 4, iv 6, iv 4, iv c4] [(.int (c4.toInt8.toInt32)), (.int 4), (.ref da)])) rfl rfl (hb hby d9_31)
  have N14 := Fr.snoc X14 N11 g_da
  have V14 : Arv Z h14 da kd .byte (6 : Int32) [(.int (own_b c0)), (.int (own_b c1)), (.int (own_b c2)), (.int (own_b c3)), (.int (nar .byte (c4.toInt8.toInt32))), (.int 0)] (.int 0) := Arv.set Ar14 q14 S14 M14 H14 G14 (fits_nar_byte _) W14 4 rfl (Nat.le_of_ble_eq_true rfl)
  refine Go.by st14 ?_
  show Go _ _ _ _ T14 (mkF m 32 #[rv va, iv 4, rv da, iv 4, iv 6, iv 4, iv c4] [])
  rw [own_bn] at V14
  refine Go.iinc 35 X14 hx (1 : Int32) (L' := #[rv va, iv 5, rv da, iv 4, iv 6, iv 4, iv c4]) (hb hby d9_32) (by decide) rfl rfl rfl ?_
  refine Go.iinc 38 X14 hx (1 : Int32) (L' := #[rv va, iv 5, rv da, iv 5, iv 6, iv 4, iv c4]) (hb hby d9_35) (by decide) rfl rfl rfl ?_
  refine Go.iinc 41 X14 hx (1 : Int32) (L' := #[rv va, iv 5, rv da, iv 5, iv 6, iv 5, iv c4]) (hb hby d9_38) (by decide) rfl rfl rfl ?_
  refine Go.goto 3 X14 hx (hb hby d9_41) (by decide) (by decide) ?_
  refine Go.iload2 5 X14 hx (hb hby d9_3) rfl rfl ?_
  refine Go.iload2 7 X14 hx (hb hby d9_5) rfl rfl ?_
  refine Go.icmpN 10 X14 hx (hb hby d9_7) (XT.ii_ge_f (by decide)) rfl ?_
  refine Go.aload1 11 X14 hx (hb hby d9_10) rfl rfl rfl ?_
  refine Go.iload1 12 X14 hx (hb hby d9_11) rfl rfl ?_
  have F15 : Arv Z h14 va kv .char (6 : Int32) [(.int c0), (.int c1), (.int c2), (.int c3), (.int c4), (.int c5)] (.int 0) := F12.other W14 ne_va_da
  obtain ⟨cl16, Ar16, -, S16, M16, H16, -⟩ := id F15
  have hin16 : ¬ ((5 : Int32) < 0 ∨ cl16.slots.size ≤ (5 : Int32).toNatClampNeg) := inb_of S16 ⟨by decide, by decide⟩
  refine Go.by (fun _ gk => X14.caload hx (j := (5 : Int32)) (v := (.int c5)) (by rw [e14]; exact Ar16.1) (State.isArrayOf_alike hZ.alike Ar16.2.1) Ar16.2.2 hin16 (Has.at H16 hin16 rfl) (g := (mkF m 12 #[rv va, iv 5, rv da, iv 5, iv 6, iv 5, iv c4] [(.int 5), (.ref va)])) rfl rfl (hb hby d9_12) _ gk) ?_
  show Go _ _ _ _ T14 (mkF m 13 #[rv va, iv 5, rv da, iv 5, iv 6, iv 5, iv c4] [(.int c5)])
  refine Go.istore2 15 X14 hx (L' := #[rv va, iv 5, rv da, iv 5, iv 6, iv 5, iv c5]) (hb hby d9_13) rfl rfl ?_
  refine Go.iload2 17 X14 hx (hb hby d9_15) rfl rfl ?_
  refine Go.sipush 20 X14 hx (255 : Int32) (hb hby d9_17) (by decide) rfl ?_
  refine Go.icmpY 26 X14 hx (hb hby d9_20) (XT.ii_le_t hc5) (by decide) (by decide) ?_
  refine Go.aload1 27 X14 hx (hb hby d9_26) rfl rfl rfl ?_
  refine Go.iload1 28 X14 hx (hb hby d9_27) rfl rfl ?_
  refine Go.iload2 30 X14 hx (hb hby d9_28) rfl rfl ?_
  refine Go.i2b 31 X14 hx (hb hby d9_30) rfl ?_
  obtain ⟨cl17, Ar17, q17, S17, M17, H17, G17⟩ := id V14
  have hin17 : ¬ ((5 : Int32) < 0 ∨ cl17.slots.size ≤ (5 : Int32).toNatClampNeg) := inb_of S17 ⟨by decide, by decide⟩
  obtain ⟨T17, h17, X17, e17, W17, st17⟩ := stB X14 hx hZ e14 Ar17 (j := (5 : Int32)) hin17 (g := (mkF m 31 #[rv va, iv 5, rv da, iv 5, iv 6, iv 5, iv c5] [(.int (c5.toInt8.toInt32)), (.int 5), (.ref da)])) rfl rfl (hb hby d9_31)
  have N17 := Fr.snoc X17 N14 g_da
  have V17 : Arv Z h17 da kd .byte (6 : Int32) [(.int (own_b c0)), (.int (own_b c1)), (.int (own_b c2)), (.int (own_b c3)), (.int (own_b c4)), (.int (nar .byte (c5.toInt8.toInt32)))] (.int 0) := Arv.set Ar17 q17 S17 M17 H17 G17 (fits_nar_byte _) W17 5 rfl (Nat.le_of_ble_eq_true rfl)
  refine Go.by st17 ?_
  show Go _ _ _ _ T17 (mkF m 32 #[rv va, iv 5, rv da, iv 5, iv 6, iv 5, iv c5] [])
  rw [own_bn] at V17
  refine Go.iinc 35 X17 hx (1 : Int32) (L' := #[rv va, iv 6, rv da, iv 5, iv 6, iv 5, iv c5]) (hb hby d9_32) (by decide) rfl rfl rfl ?_
  refine Go.iinc 38 X17 hx (1 : Int32) (L' := #[rv va, iv 6, rv da, iv 6, iv 6, iv 5, iv c5]) (hb hby d9_35) (by decide) rfl rfl rfl ?_
  refine Go.iinc 41 X17 hx (1 : Int32) (L' := #[rv va, iv 6, rv da, iv 6, iv 6, iv 6, iv c5]) (hb hby d9_38) (by decide) rfl rfl rfl ?_
  refine Go.goto 3 X17 hx (hb hby d9_41) (by decide) (by decide) ?_
  refine Go.iload2 5 X17 hx (hb hby d9_3) rfl rfl ?_
  refine Go.iload2 7 X17 hx (hb hby d9_5) rfl rfl ?_
  refine Go.icmpY 44 X17 hx (hb hby d9_7) (XT.ii_ge_t (by decide)) (by decide) (by decide) ?_
  refine Go.iload2 46 X17 hx (hb hby d9_44) rfl rfl ?_
  have F18 : Keep h0 h2 [da] := (Keep.refl h0 [da]).wr W2 (Or.inl (List.mem_of_getElem? (i := 0) rfl))
  have F19 : Keep h0 h5 [da] := F18.wr W5 (Or.inl (List.mem_of_getElem? (i := 0) rfl))
  have F20 : Keep h0 h8 [da] := F19.wr W8 (Or.inl (List.mem_of_getElem? (i := 0) rfl))
  have F21 : Keep h0 h11 [da] := F20.wr W11 (Or.inl (List.mem_of_getElem? (i := 0) rfl))
  have F22 : Keep h0 h14 [da] := F21.wr W14 (Or.inl (List.mem_of_getElem? (i := 0) rfl))
  have F23 : Keep h0 h17 [da] := F22.wr W17 (Or.inl (List.mem_of_getElem? (i := 0) rfl))
  exact Go.retI X17 hx Bd.notSynchronized Bd.returns rfl (by simp) (hb hby d9_46) (by rw [e17]; exact ⟨rfl, N17, F23, V17⟩) (by decide) (by decide)
def Q_rmC3_6 (Z : State) (va : Addr) (kv : ClassId) (c0 : Int32) (c1 : Int32) (c2 : Int32) (c3 : Int32) (c4 : Int32) (c5 : Int32) (h0 : Heap) (n0 : Nat) (v : Option Value) (h : Heap) (L : List Loc) : Prop := ∃ da : Addr, ∃ kd : ClassId, v = some (.ref da) ∧ Fr n0 L ∧ Keep h0 h [] ∧ Arv Z h da kd .byte (6 : Int32) ([(.int (own_b c0)), (.int (own_b c1)), (.int (own_b c2)), (.int (own_b c3)), (.int (own_b c4)), (.int (own_b c5))]) (.int 0) ∧ h0.size ≤ da
set_option maxRecDepth 65536 in
set_option maxHeartbeats 40000000 in
theorem rmC3_6 (l : Launch) (Z : State) (a0 : Array Value) (hw : ∀ d ∈ tables_1, d.before a0 Z = true) (ws : List Jvm.Cond) (va : Addr) (kv : ClassId) (c0 : Int32) (c1 : Int32) (c2 : Int32) (c3 : Int32) (c4 : Int32) (c5 : Int32) (h0 : Heap) (n0 : Nat) (Z0 : n0 ≤ h0.size) (V_va : Arv Z h0 va kv .char (6 : Int32) ([(.int c0), (.int c1), (.int c2), (.int c3), (.int c4), (.int c5)]) (.int 0)) (hc0 : (¬ (255 : Int32) < c0)) (hc1 : (¬ (255 : Int32) < c1)) (hc2 : (¬ (255 : Int32) < c2)) (hc3 : (¬ (255 : Int32) < c3)) (hc4 : (¬ (255 : Int32) < c4)) (hc5 : (¬ (255 : Int32) < c5)) :
    MetFree l (⟨"java/lang/StringUTF16", "compress", "([CII)[B"⟩ : MethodName) (head1 (Jvm.Cond.code (⟨"java/lang/StringUTF16", "compress", "([CII)[B"⟩ : MethodName) jdk_52_method_16_code 6 (some (.array .byte)) :: ws) ({ frames := 1, cells := 1, slots := 6, locals := 18 } : Room)) (fun as' U => as' = #[(.ref va), (.int 0), (.int 6)] ∧ Z.Warmed39 U.vm ∧ U.heap = h0) (fun _ _ _ _ _ => True) (fun _ U o U' => ∃ v L, o = .returned v ∧ Q_rmC3_6 Z va kv c0 c1 c2 c3 c4 c5 h0 n0 v U'.heap L ∧ FrameEnd U o U' L ({ frames := 1, cells := 1, slots := 6, locals := 18 } : Room).cells ({ frames := 1, cells := 1, slots := 6, locals := 18 } : Room).slots) := by
  refine MetFree.of_bodySF (plainFor_of_name pn_37) hisR ?_
  intro p e s m args below meth c s₁ Bd hml0 hP hK
  obtain ⟨rfl, hZ, hh⟩ := hP
  have hx := Bd.exec
  have hby := Bd.bytes
  have hml : c.maxLocals = 6 := hml0
  have hown : s.vm.findClass "java/lang/StringUTF16" = some m.cls := findClass_of_methodNamed Bd.named
  have hnm := (name_of_methodNamed Bd.named Bd.method).1
  have X0 : Stand p l e ({ frames := 1, cells := 1, slots := 6, locals := 18 } : Room) s m #[(.ref va), (.int 0), (.int 6)] below meth c s₁ [] 0 0 := Stand.of_body Bd
  have e0 : s₁.heap = h0 := by rw [← hh, Bd.state]; rfl
  have N0 := Fr.nil n0
  refine Go.enter (F := EndN s (Q_rmC3_6 Z va kv c0 c1 c2 c3 c4 c5 h0 n0) ({ frames := 1, cells := 1, slots := 6, locals := 18 } : Room).cells ({ frames := 1, cells := 1, slots := 6, locals := 18 } : Room).slots) (ef_62 m va (0 : Int32) (6 : Int32)) ?_
  show Go _ _ _ _ s₁ (mkF m 0 #[rv va, iv 0, iv 6, un, un, un] [])
  refine Go.iload1 1 X0 hx (hb hby d8_0) rfl rfl ?_
  obtain ⟨da, g1⟩ : ∃ z, z = h0.size := ⟨_, rfl⟩
  have ge_da : n0 ≤ da := Nat.le_trans Z0 (Nat.le_of_eq g1.symm)
  have sz_da : h0.size ≤ da := Nat.le_trans (Keep.refl h0 []).1 (Nat.le_of_eq g1.symm)
  have ne_va_da : va ≠ da := Nat.ne_of_lt (Nat.lt_of_lt_of_le V_va.lt (Nat.le_of_eq g1.symm))
  obtain ⟨T1, h1, k1, X1, e1, E1, A1, Ea1, st1⟩ := newPE X0 hx hZ (ow hw 19 rfl) e0 (g := (mkF m 1 #[rv va, iv 0, iv 6, un, un, un] [(.int 6)])) rfl (hb hby d8_1) rfl (by decide) (cap := 6) (by decide) (by decide) (by decide) (by decide) (ad := "[B") rfl
  rw [← g1] at A1 Ea1 st1
  have V_da : Arv Z h1 da k1 .byte (6 : Int32) [(.int 0), (.int 0), (.int 0), (.int 0), (.int 0), (.int 0)] (.int 0) := (Arv.new A1 (by decide)).pad (pad_rep [] (.int 0) 6)
  refine Go.by st1 ?_
  show Go _ _ _ _ T1 (mkF m 3 #[rv va, iv 0, iv 6, un, un, un] [(.ref da)])
  refine Go.astore1 4 X1 hx (L' := #[rv va, iv 0, iv 6, rv da, un, un]) (hb hby d8_3) rfl rfl rfl ?_
  refine Go.aload1 5 X1 hx (hb hby d8_4) rfl rfl rfl ?_
  refine Go.iload1 6 X1 hx (hb hby d8_5) rfl rfl ?_
  refine Go.aload1 7 X1 hx (hb hby d8_6) rfl rfl rfl ?_
  refine Go.iconst 8 X1 hx (0 : Int32) (hb hby d8_7) (by decide) rfl ?_
  refine Go.iload1 9 X1 hx (hb hby d8_8) rfl rfl ?_
  have F2 : Arv Z h1 va kv .char (6 : Int32) [(.int c0), (.int c1), (.int c2), (.int c3), (.int c4), (.int c5)] (.int 0) := V_va.ext E1
  have F3 : n0 ≤ h1.size := Nat.le_trans Z0 E1.1
  obtain ⟨_, _, ⟨T4, L4, k4, n4⟩, -, X4, ⟨Lc4, hQ4, l4, y4, z4⟩, st4⟩ := Jvm.LawKit.callS X1 hx (y := (⟨"java/lang/StringUTF16", "compress", "([CI[BII)I"⟩ : MethodName)) hown (mvT hZ (ow hw 49 rfl)) (mvT hZ (ow hw 50 rfl)) (mvT hZ (ow hw 47 rfl)) (mvT hZ (ow hw 51 rfl)) (by decide) (backOf (W := 0) (rmC5_6 l Z a0 hw [] va da kv k1 c0 c1 c2 c3 c4 c5 h1 n0 F3 F2 V_da ge_da ne_va_da hc0 hc1 hc2 hc3 hc4 hc5) hZ (ow hw 51 rfl) (ow hw 47 rfl) (by decide) (by decide)) (g := (mkF m 9 #[rv va, iv 0, iv 6, rv da, un, un] [(.int 6), (.int 0), (.ref da), (.int 0), (.ref va)])) rfl (by rw [hml]; rfl) (argsL := [(.ref va), (.int 0), (.ref da), (.int 0), (.int 6)]) (rest := []) (lenOf pd_71 rfl) rfl (by show 2 * 0 + _ ≤ _; exact Nat.le_of_eq rfl) (hb hby d8_9) (fun _ _ => ⟨rfl, e1, (by decide : 1 + 0 ≤ _), (by decide : 6 + 0 ≤ _)⟩)
  dsimp only [Pt.U, Pt.locs, Pt.cells, Pt.slots] at X4 l4 y4 z4 st4 hQ4
  subst l4 y4 z4
  obtain ⟨rfl, N4q, K4, Q4_0⟩ := hQ4
  have N4 := Fr.app N0 N4q
  refine Go.by st4 ?_
  show Go _ _ _ _ T4 (mkF m 12 #[rv va, iv 0, iv 6, rv da, un, un] [(.int 6)])
  refine Go.istore2 14 X4 hx (L' := #[rv va, iv 0, iv 6, rv da, iv 6, un]) (hb hby d8_12) rfl rfl ?_
  refine Go.iload2 16 X4 hx (hb hby d8_14) rfl rfl ?_
  refine Go.iload1 17 X4 hx (hb hby d8_16) rfl rfl ?_
  refine Go.icmpY 57 X4 hx (hb hby d8_17) (XT.ii_eq_t rfl) (by decide) (by decide) ?_
  refine Go.aload1 58 X4 hx (hb hby d8_57) rfl rfl rfl ?_
  have F5 : Keep h0 h1 [] := (Keep.refl h0 []).ext E1
  have F6 : Keep h0 T4.heap [] := F5.trans K4 (allS (Or.inr sz_da) all0)
  exact Go.retA X4 hx Bd.notSynchronized Bd.returns rfl rfl (hb hby d8_58) ⟨da, k1, rfl, N4, F6, Q4_0, sz_da⟩ (by decide) (by decide)
def Q_rmCoder_6 (Z : State) (da : Addr) (kd : ClassId) (vs : List Value) (h0 : Heap) (n0 : Nat) (v : Option Value) (h : Heap) (L : List Loc) : Prop := v = some (.int 0) ∧ Fr n0 L ∧ h = h0
set_option maxRecDepth 65536 in
set_option maxHeartbeats 40000000 in
theorem rmCoder_6 (l : Launch) (Z : State) (a0 : Array Value) (hw : ∀ d ∈ tables_1, d.before a0 Z = true) (ws : List Jvm.Cond) (da : Addr) (kd : ClassId) (vs : List Value) (h0 : Heap) (n0 : Nat) (Z0 : n0 ≤ h0.size) (V_da : Arv Z h0 da kd .byte (6 : Int32) vs (.int 0)) :
    MetFree l (⟨"java/lang/StringUTF16", "coderFromArrayLen", "([BI)B"⟩ : MethodName) (head1 (Jvm.Cond.code (⟨"java/lang/StringUTF16", "coderFromArrayLen", "([BI)B"⟩ : MethodName) jdk_52_method_15_code 2 (some .byte) :: ws) ({ frames := 0, cells := 0, slots := 0, locals := 0 } : Room)) (fun as' U => as' = #[(.ref da), (.int 6)] ∧ Z.Warmed39 U.vm ∧ U.heap = h0) (fun _ _ _ _ _ => True) (fun _ U o U' => ∃ v L, o = .returned v ∧ Q_rmCoder_6 Z da kd vs h0 n0 v U'.heap L ∧ FrameEnd U o U' L ({ frames := 0, cells := 0, slots := 0, locals := 0 } : Room).cells ({ frames := 0, cells := 0, slots := 0, locals := 0 } : Room).slots) := by
  refine MetFree.of_bodySF (plainFor_of_name pn_37) hisR ?_
  intro p e s m args below meth c s₁ Bd hml0 hP hK
  obtain ⟨rfl, hZ, hh⟩ := hP
  have hx := Bd.exec
  have hby := Bd.bytes
  have hml : c.maxLocals = 2 := hml0
  have hown : s.vm.findClass "java/lang/StringUTF16" = some m.cls := findClass_of_methodNamed Bd.named
  have hnm := (name_of_methodNamed Bd.named Bd.method).1
  have X0 : Stand p l e ({ frames := 0, cells := 0, slots := 0, locals := 0 } : Room) s m #[(.ref da), (.int 6)] below meth c s₁ [] 0 0 := Stand.of_body Bd
  have e0 : s₁.heap = h0 := by rw [← hh, Bd.state]; rfl
  have N0 := Fr.nil n0
  refine Go.enter (F := EndN s (Q_rmCoder_6 Z da kd vs h0 n0) ({ frames := 0, cells := 0, slots := 0, locals := 0 } : Room).cells ({ frames := 0, cells := 0, slots := 0, locals := 0 } : Room).slots) (ef_27 m da (6 : Int32)) ?_
  show Go _ _ _ _ s₁ (mkF m 0 #[rv da, iv 6] [])
  refine Go.iload1 1 X0 hx (hb hby d10_0) rfl rfl ?_
  refine Go.aload1 2 X0 hx (hb hby d10_1) rfl rfl rfl ?_
  obtain ⟨cl1, Ar1, -, S1, M1, -, -⟩ := id V_da
  refine Go.by (fun _ gk => X0.arraylength hx (by rw [e0]; exact Ar1.1) (State.isArrayOf_alike hZ.alike Ar1.2.1) (g := (mkF m 2 #[rv da, iv 6] [(.ref da), (.int 6)])) rfl rfl (hb hby d10_2) _ gk) ?_
  rw [len_of S1 M1]
  show Go _ _ _ _ s₁ (mkF m 3 #[rv da, iv 6] [(.int 6), (.int 6)])
  refine Go.isub 4 X0 hx (hb hby d10_3) rfl ?_
  rw [(by decide : ((6 : Int32) - (6 : Int32)) = (0 : Int32))]
  refine Go.bipush 6 X0 hx (31 : Int32) (hb hby d10_4) (by decide) rfl ?_
  refine Go.iushr 7 X0 hx (hb hby d10_6) rfl ?_
  rw [(by decide : (XT.ushr (0 : Int32) (31 : Int32)) = (0 : Int32))]
  refine Go.i2b 8 X0 hx (hb hby d10_7) rfl ?_
  rw [(by decide : ((0 : Int32).toInt8.toInt32) = (0 : Int32))]
  exact Go.retI X0 hx Bd.notSynchronized Bd.returns rfl (by simp) (hb hby d10_8) (by rw [e0]; exact ⟨rfl, N0, rfl⟩) (by decide) (by decide)
def Q_rmS4_6 (Z : State) (a : Addr) (va : Addr) (kv : ClassId) (c0 : Int32) (c1 : Int32) (c2 : Int32) (c3 : Int32) (c4 : Int32) (c5 : Int32) (cs : Int32) (h0 : Heap) (n0 : Nat) (v : Option Value) (h : Heap) (L : List Loc) : Prop := ∃ b : Addr, ∃ kb : ClassId, v = none ∧ Fr n0 L ∧ Keep h0 h [a] ∧ Exa Z h a "java/lang/String" ∧ Fld Z h a "java/lang/String" "coder" "B" (.int 0) ∧ Fld Z h a "java/lang/String" "value" "[B" (.ref b) ∧ Arv Z h b kb .byte (6 : Int32) ([(.int (own_b c0)), (.int (own_b c1)), (.int (own_b c2)), (.int (own_b c3)), (.int (own_b c4)), (.int (own_b c5))]) (.int 0) ∧ h0.size ≤ b
set_option maxRecDepth 65536 in
set_option maxHeartbeats 40000000 in
theorem rmS4_6 (l : Launch) (Z : State) (a0 : Array Value) (hw : ∀ d ∈ tables_1, d.before a0 Z = true) (ws : List Jvm.Cond) (a : Addr) (va : Addr) (kv : ClassId) (c0 : Int32) (c1 : Int32) (c2 : Int32) (c3 : Int32) (c4 : Int32) (c5 : Int32) (cs : Int32) (h0 : Heap) (n0 : Nat) (Z0 : n0 ≤ h0.size) (O0 : Old Z n0 h0) (E_a : Exa Z h0 a "java/lang/String") (F_a_value : Fld Z h0 a "java/lang/String" "value" "[B" .null) (F_a_coder : Fld Z h0 a "java/lang/String" "coder" "B" (.int 0)) (g_a : n0 ≤ a) (V_va : Arv Z h0 va kv .char (6 : Int32) ([(.int c0), (.int c1), (.int c2), (.int c3), (.int c4), (.int c5)]) (.int 0)) (hc0 : (¬ (255 : Int32) < c0)) (hc1 : (¬ (255 : Int32) < c1)) (hc2 : (¬ (255 : Int32) < c2)) (hc3 : (¬ (255 : Int32) < c3)) (hc4 : (¬ (255 : Int32) < c4)) (hc5 : (¬ (255 : Int32) < c5)) (S_cs : Sta Z Z.heap "java/lang/String" "COMPACT_STRINGS" "Z" (.int cs)) (n_cs : ¬ cs = 0) :
    MetFree l (⟨"java/lang/String", "<init>", "([CIILjava/lang/Void;)V"⟩ : MethodName) (head1 (Jvm.Cond.code (⟨"java/lang/String", "<init>", "([CIILjava/lang/Void;)V"⟩ : MethodName) jdk_42_method_149_code 6 none :: ws) ({ frames := 2, cells := 1, slots := 6, locals := 35 } : Room)) (fun as' U => as' = #[(.ref a), (.ref va), (.int 0), (.int 6), .null] ∧ Z.Warmed39 U.vm ∧ U.heap = h0) (fun _ _ _ _ _ => True) (fun _ U o U' => ∃ v L, o = .returned v ∧ Q_rmS4_6 Z a va kv c0 c1 c2 c3 c4 c5 cs h0 n0 v U'.heap L ∧ FrameEnd U o U' L ({ frames := 2, cells := 1, slots := 6, locals := 35 } : Room).cells ({ frames := 2, cells := 1, slots := 6, locals := 35 } : Room).slots) := by
  refine MetFree.of_bodySF (plainFor_of_name pn_1) hisR ?_
  intro p e s m args below meth c s₁ Bd hml0 hP hK
  obtain ⟨rfl, hZ, hh⟩ := hP
  have hx := Bd.exec
  have hby := Bd.bytes
  have hml : c.maxLocals = 6 := hml0
  have hown : s.vm.findClass "java/lang/String" = some m.cls := findClass_of_methodNamed Bd.named
  have hnm := (name_of_methodNamed Bd.named Bd.method).1
  have X0 : Stand p l e ({ frames := 2, cells := 1, slots := 6, locals := 35 } : Room) s m #[(.ref a), (.ref va), (.int 0), (.int 6), .null] below meth c s₁ [] 0 0 := Stand.of_body Bd
  have e0 : s₁.heap = h0 := by rw [← hh, Bd.state]; rfl
  have N0 := Fr.nil n0
  refine Go.enter (F := EndN s (Q_rmS4_6 Z a va kv c0 c1 c2 c3 c4 c5 cs h0 n0) ({ frames := 2, cells := 1, slots := 6, locals := 35 } : Room).cells ({ frames := 2, cells := 1, slots := 6, locals := 35 } : Room).slots) (ef_2 m a va (0 : Int32) (6 : Int32)) ?_
  show Go _ _ _ _ s₁ (mkF m 0 #[rv a, rv va, iv 0, iv 6, .val .null, un] [])
  refine Go.aload1 1 X0 hx (hb hby d3_0) rfl rfl rfl ?_
  obtain ⟨T1, X1, e1, st1⟩ := initO X0 hx hZ hown (ow hw 15 rfl) (ow hw 16 rfl) (ow hw 17 rfl) e0 (g := (mkF m 1 #[rv a, rv va, iv 0, iv 6, .val .null, un] [(.ref a)])) rfl (by rw [hml]; rfl) rfl (hb hby d3_1) (by decide) (W := 0) (by show 2 * 0 + _ ≤ _; exact Nat.le_of_eq rfl) (by decide)
  refine Go.by st1 ?_
  show Go _ _ _ _ T1 (mkF m 4 #[rv a, rv va, iv 0, iv 6, .val .null, un] [])
  refine Go.iload1 5 X1 hx (hb hby d3_4) rfl rfl ?_
  refine Go.ifY 27 X1 hx (hb hby d3_5) (XT.i0_ne_t (by decide)) (by decide) (by decide) ?_
  have F2 : Sta Z h0 "java/lang/String" "COMPACT_STRINGS" "Z" (.int cs) := S_cs.ext O0.2
  obtain ⟨T3, X3, e3, st3⟩ := getS2 X1 hx hZ hown (host := "") (Or.inl (ow hw 37 rfl)) Via.refl e1 F2 (g := (mkF m 27 #[rv a, rv va, iv 0, iv 6, .val .null, un] [])) rfl (hb hby d3_27)
  refine Go.by st3 ?_
  show Go _ _ _ _ T3 (mkF m 30 #[rv a, rv va, iv 0, iv 6, .val .null, un] [(.int cs)])
  refine Go.ifN 33 X3 hx (hb hby d3_30) (XT.i0_eq_f n_cs) rfl ?_
  refine Go.aload1 34 X3 hx (hb hby d3_33) rfl rfl rfl ?_
  refine Go.iload1 35 X3 hx (hb hby d3_34) rfl rfl ?_
  refine Go.iload1 36 X3 hx (hb hby d3_35) rfl rfl ?_
  obtain ⟨_, _, ⟨T4, L4, k4, n4⟩, -, X4, ⟨Lc4, hQ4, l4, y4, z4⟩, st4⟩ := Jvm.LawKit.callS X3 hx (y := (⟨"java/lang/StringUTF16", "compress", "([CII)[B"⟩ : MethodName)) hown (mvT hZ (ow hw 45 rfl)) (mvT hZ (ow hw 46 rfl)) (mvT hZ (ow hw 47 rfl)) (mvT hZ (ow hw 48 rfl)) (by decide) (backOf (W := 0) (rmC3_6 l Z a0 hw [] va kv c0 c1 c2 c3 c4 c5 h0 n0 Z0 V_va hc0 hc1 hc2 hc3 hc4 hc5) hZ (ow hw 48 rfl) (ow hw 47 rfl) (by decide) (by decide)) (g := (mkF m 36 #[rv a, rv va, iv 0, iv 6, .val .null, un] [(.int 6), (.int 0), (.ref va)])) rfl (by rw [hml]; rfl) (argsL := [(.ref va), (.int 0), (.int 6)]) (rest := []) (lenOf pd_92 rfl) rfl (by show 2 * 0 + _ ≤ _; exact Nat.le_of_eq rfl) (hb hby d3_36) (fun _ _ => ⟨rfl, e3, (by decide : 0 + 1 ≤ _), (by decide : 0 + 6 ≤ _)⟩)
  dsimp only [Pt.U, Pt.locs, Pt.cells, Pt.slots] at X4 l4 y4 z4 st4 hQ4
  subst l4 y4 z4
  obtain ⟨b, kb, rfl, N4q, K4, Q4_0, Q4_1⟩ := hQ4
  have N4 := Fr.app N0 N4q
  refine Go.by st4 ?_
  show Go _ _ _ _ T4 (mkF m 39 #[rv a, rv va, iv 0, iv 6, .val .null, un] [(.ref b)])
  have ge_b : n0 ≤ b := Nat.le_trans Z0 Q4_1
  have sz_b : h0.size ≤ b := Nat.le_trans (Keep.refl h0 [a]).1 Q4_1
  have ne_a_b : a ≠ b := Nat.ne_of_lt (Nat.lt_of_lt_of_le E_a.lt Q4_1)
  have ne_va_b : va ≠ b := Nat.ne_of_lt (Nat.lt_of_lt_of_le V_va.lt Q4_1)
  refine Go.astore2 41 X4 hx (L' := #[rv a, rv va, iv 0, iv 6, .val .null, rv b]) (hb hby d3_39) rfl rfl rfl ?_
  refine Go.aload1 42 X4 hx (hb hby d3_41) rfl rfl rfl ?_
  refine Go.aload2 44 X4 hx (hb hby d3_42) rfl rfl rfl ?_
  refine Go.iload1 45 X4 hx (hb hby d3_44) rfl rfl ?_
  have F5 : n0 ≤ T4.heap.size := Nat.le_trans Z0 K4.1
  obtain ⟨_, _, ⟨T6, L6, k6, n6⟩, -, X6, ⟨Lc6, hQ6, l6, y6, z6⟩, st6⟩ := Jvm.LawKit.callS X4 hx (y := (⟨"java/lang/StringUTF16", "coderFromArrayLen", "([BI)B"⟩ : MethodName)) hown (mvT hZ (ow hw 52 rfl)) (mvT hZ (ow hw 53 rfl)) (mvT hZ (ow hw 47 rfl)) (mvT hZ (ow hw 54 rfl)) (by decide) (backOf (W := 1) (rmCoder_6 l Z a0 hw [] b kb ([(.int (own_b c0)), (.int (own_b c1)), (.int (own_b c2)), (.int (own_b c3)), (.int (own_b c4)), (.int (own_b c5))]) T4.heap n0 F5 Q4_0) hZ (ow hw 54 rfl) (ow hw 47 rfl) (by decide) (by decide)) (g := (mkF m 45 #[rv a, rv va, iv 0, iv 6, .val .null, rv b] [(.int 6), (.ref b), (.ref a)])) rfl (by rw [hml]; rfl) (argsL := [(.ref b), (.int 6)]) (rest := [(.ref a)]) (lenOf pd_98 rfl) rfl (by show 2 * 0 + _ ≤ _; exact Nat.le_of_eq rfl) (hb hby d3_45) (fun _ _ => ⟨rfl, rfl, (by decide : 1 + 0 ≤ _), (by decide : 6 + 0 ≤ _)⟩)
  dsimp only [Pt.U, Pt.locs, Pt.cells, Pt.slots] at X6 l6 y6 z6 st6 hQ6
  subst l6 y6 z6
  obtain ⟨rfl, N6q, e6⟩ := hQ6
  have N6 := Fr.app N4 N6q
  refine Go.by st6 ?_
  show Go _ _ _ _ T6 (mkF m 48 #[rv a, rv va, iv 0, iv 6, .val .null, rv b] [(.int 0), (.ref a)])
  have F7 : Fld Z T4.heap a "java/lang/String" "coder" "B" (.int 0) := F_a_coder.keep K4 nin0
  have F8 : Exa Z T4.heap a "java/lang/String" := E_a.keep K4
  obtain ⟨T9, h9, X9, e9, W9, st9⟩ := putFN X6 hx hZ hown (ow hw 25 rfl) Via.refl e6 F7 F8 (Or.inr ⟨(ow hw 21 rfl), rfl, hnm⟩) (ow hw 6 rfl) (ty := .byte) (v' := (.int 0)) (by decide) rfl rfl (g := (mkF m 48 #[rv a, rv va, iv 0, iv 6, .val .null, rv b] [(.int 0), (.ref a)])) rfl rfl (hb hby d3_48)
  have N9 := Fr.snoc X9 N6 g_a
  have Fw9 : Fld Z h9 a "java/lang/String" "coder" "B" (.int 0) := F7.same W9
  refine Go.by st9 ?_
  show Go _ _ _ _ T9 (mkF m 51 #[rv a, rv va, iv 0, iv 6, .val .null, rv b] [])
  refine Go.aload1 52 X9 hx (hb hby d3_51) rfl rfl rfl ?_
  refine Go.aload2 54 X9 hx (hb hby d3_52) rfl rfl rfl ?_
  have F10 : Fld Z T4.heap a "java/lang/String" "value" "[B" .null := F_a_value.keep K4 nin0
  have F11 : Fld Z h9 a "java/lang/String" "value" "[B" .null := F10.other W9 (Or.inr (slot_ne (Or.inr (ow hw 20 rfl)) (Or.inr (ow hw 21 rfl)) (by decide) (t := (.array .byte)) (t' := .byte) (by decide) (by decide)))
  have F12 : Exa Z h9 a "java/lang/String" := F8.wr W9
  obtain ⟨T13, h13, X13, e13, W13, st13⟩ := putF X9 hx hZ hown (host := "") (Or.inl (ow hw 24 rfl)) Via.refl e9 F11 F12 (Or.inr ⟨(ow hw 20 rfl), rfl, hnm⟩) (ow hw 6 rfl) (ty := (.array .byte)) (by decide) rfl rfl (g := (mkF m 54 #[rv a, rv va, iv 0, iv 6, .val .null, rv b] [(.ref b), (.ref a)])) rfl rfl (hb hby d3_54)
  have N13 := Fr.snoc X13 N9 g_a
  have Fw13 : Fld Z h13 a "java/lang/String" "value" "[B" (.ref b) := F11.same W13
  refine Go.by st13 ?_
  show Go _ _ _ _ T13 (mkF m 57 #[rv a, rv va, iv 0, iv 6, .val .null, rv b] [])
  have F14 : Keep h0 T4.heap [a] := (Keep.refl h0 [a]).trans K4 all0
  have F15 : Keep h0 h9 [a] := F14.wr W9 (Or.inl (List.mem_of_getElem? (i := 0) rfl))
  have F16 : Keep h0 h13 [a] := F15.wr W13 (Or.inl (List.mem_of_getElem? (i := 0) rfl))
  have F17 : Exa Z h13 a "java/lang/String" := F12.wr W13
  have F18 : Fld Z h13 a "java/lang/String" "coder" "B" (.int 0) := Fw9.other W13 (Or.inr (slot_ne (Or.inr (ow hw 21 rfl)) (Or.inr (ow hw 20 rfl)) (by decide) (t := .byte) (t' := (.array .byte)) (by decide) (by decide)))
  have F19 : Arv Z h9 b kb .byte (6 : Int32) [(.int (own_b c0)), (.int (own_b c1)), (.int (own_b c2)), (.int (own_b c3)), (.int (own_b c4)), (.int (own_b c5))] (.int 0) := Q4_0.other W9 (Ne.symm ne_a_b)
  have F20 : Arv Z h13 b kb .byte (6 : Int32) [(.int (own_b c0)), (.int (own_b c1)), (.int (own_b c2)), (.int (own_b c3)), (.int (own_b c4)), (.int (own_b c5))] (.int 0) := F19.other W13 (Ne.symm ne_a_b)
  exact Go.retV X13 hx Bd.notSynchronized Bd.returns (hb hby d3_57) (by rw [e13]; exact ⟨b, kb, rfl, N13, F16, F17, F18, Fw13, F20, sz_b⟩) (by decide) (by decide)
def Q_rmS1_6 (Z : State) (a : Addr) (va : Addr) (kv : ClassId) (c0 : Int32) (c1 : Int32) (c2 : Int32) (c3 : Int32) (c4 : Int32) (c5 : Int32) (cs : Int32) (h0 : Heap) (n0 : Nat) (v : Option Value) (h : Heap) (L : List Loc) : Prop := ∃ b : Addr, ∃ kb : ClassId, v = none ∧ Fr n0 L ∧ Keep h0 h [a] ∧ Exa Z h a "java/lang/String" ∧ Fld Z h a "java/lang/String" "coder" "B" (.int 0) ∧ Fld Z h a "java/lang/String" "value" "[B" (.ref b) ∧ Arv Z h b kb .byte (6 : Int32) ([(.int (own_b c0)), (.int (own_b c1)), (.int (own_b c2)), (.int (own_b c3)), (.int (own_b c4)), (.int (own_b c5))]) (.int 0) ∧ h0.size ≤ b
set_option maxRecDepth 65536 in
set_option maxHeartbeats 40000000 in
theorem rmS1_6 (l : Launch) (Z : State) (a0 : Array Value) (hw : ∀ d ∈ tables_1, d.before a0 Z = true) (ws : List Jvm.Cond) (a : Addr) (va : Addr) (kv : ClassId) (c0 : Int32) (c1 : Int32) (c2 : Int32) (c3 : Int32) (c4 : Int32) (c5 : Int32) (cs : Int32) (h0 : Heap) (n0 : Nat) (Z0 : n0 ≤ h0.size) (O0 : Old Z n0 h0) (E_a : Exa Z h0 a "java/lang/String") (F_a_value : Fld Z h0 a "java/lang/String" "value" "[B" .null) (F_a_coder : Fld Z h0 a "java/lang/String" "coder" "B" (.int 0)) (g_a : n0 ≤ a) (V_va : Arv Z h0 va kv .char (6 : Int32) ([(.int c0), (.int c1), (.int c2), (.int c3), (.int c4), (.int c5)]) (.int 0)) (hc0 : (¬ (255 : Int32) < c0)) (hc1 : (¬ (255 : Int32) < c1)) (hc2 : (¬ (255 : Int32) < c2)) (hc3 : (¬ (255 : Int32) < c3)) (hc4 : (¬ (255 : Int32) < c4)) (hc5 : (¬ (255 : Int32) < c5)) (S_cs : Sta Z Z.heap "java/lang/String" "COMPACT_STRINGS" "Z" (.int cs)) (n_cs : ¬ cs = 0) :
    MetFree l (⟨"java/lang/String", "<init>", "([C)V"⟩ : MethodName) (head1 (Jvm.Cond.code (⟨"java/lang/String", "<init>", "([C)V"⟩ : MethodName) jdk_42_method_3_code 2 none :: ws) ({ frames := 3, cells := 1, slots := 6, locals := 52 } : Room)) (fun as' U => as' = #[(.ref a), (.ref va)] ∧ Z.Warmed39 U.vm ∧ U.heap = h0) (fun _ _ _ _ _ => True) (fun _ U o U' => ∃ v L, o = .returned v ∧ Q_rmS1_6 Z a va kv c0 c1 c2 c3 c4 c5 cs h0 n0 v U'.heap L ∧ FrameEnd U o U' L ({ frames := 3, cells := 1, slots := 6, locals := 52 } : Room).cells ({ frames := 3, cells := 1, slots := 6, locals := 52 } : Room).slots) := by
  refine MetFree.of_bodySF (plainFor_of_name pn_1) hisR ?_
  intro p e s m args below meth c s₁ Bd hml0 hP hK
  obtain ⟨rfl, hZ, hh⟩ := hP
  have hx := Bd.exec
  have hby := Bd.bytes
  have hml : c.maxLocals = 2 := hml0
  have hown : s.vm.findClass "java/lang/String" = some m.cls := findClass_of_methodNamed Bd.named
  have hnm := (name_of_methodNamed Bd.named Bd.method).1
  have X0 : Stand p l e ({ frames := 3, cells := 1, slots := 6, locals := 52 } : Room) s m #[(.ref a), (.ref va)] below meth c s₁ [] 0 0 := Stand.of_body Bd
  have e0 : s₁.heap = h0 := by rw [← hh, Bd.state]; rfl
  have N0 := Fr.nil n0
  refine Go.enter (F := EndN s (Q_rmS1_6 Z a va kv c0 c1 c2 c3 c4 c5 cs h0 n0) ({ frames := 3, cells := 1, slots := 6, locals := 52 } : Room).cells ({ frames := 3, cells := 1, slots := 6, locals := 52 } : Room).slots) (ef_16 m a va) ?_
  show Go _ _ _ _ s₁ (mkF m 0 #[rv a, rv va] [])
  refine Go.aload1 1 X0 hx (hb hby d2_0) rfl rfl rfl ?_
  refine Go.aload1 2 X0 hx (hb hby d2_1) rfl rfl rfl ?_
  refine Go.iconst 3 X0 hx (0 : Int32) (hb hby d2_2) (by decide) rfl ?_
  refine Go.aload1 4 X0 hx (hb hby d2_3) rfl rfl rfl ?_
  obtain ⟨cl1, Ar1, -, S1, M1, -, -⟩ := id V_va
  refine Go.by (fun _ gk => X0.arraylength hx (by rw [e0]; exact Ar1.1) (State.isArrayOf_alike hZ.alike Ar1.2.1) (g := (mkF m 4 #[rv a, rv va] [(.ref va), (.int 0), (.ref va), (.ref a)])) rfl rfl (hb hby d2_4) _ gk) ?_
  rw [len_of S1 M1]
  show Go _ _ _ _ s₁ (mkF m 5 #[rv a, rv va] [(.int 6), (.int 0), (.ref va), (.ref a)])
  refine Go.aconst_null 6 X0 hx (hb hby d2_5) rfl ?_
  obtain ⟨_, _, ⟨T2, L2, k2, n2⟩, -, X2, ⟨Lc2, hQ2, l2, y2, z2⟩, st2⟩ := X0.specialBack hx (y := (⟨"java/lang/String", "<init>", "([CIILjava/lang/Void;)V"⟩ : MethodName)) rfl hown (mvT hZ (ow hw 11 rfl)) (mvT hZ (ow hw 12 rfl)) (mvT hZ (ow hw 14 rfl)) (by decide) (backOf (W := 0) (rmS4_6 l Z a0 hw [] a va kv c0 c1 c2 c3 c4 c5 cs h0 n0 Z0 O0 E_a F_a_value F_a_coder g_a V_va hc0 hc1 hc2 hc3 hc4 hc5 S_cs n_cs) hZ (ow hw 14 rfl) (ow hw 7 rfl) (by decide) (by decide)) (g := (mkF m 6 #[rv a, rv va] [.null, (.int 6), (.int 0), (.ref va), (.ref a)])) rfl (by rw [hml]; rfl) (Steps.refl _) (a := a) (argsL := [(.ref va), (.int 0), (.int 6), .null]) (rest := []) (lenOf pd_23 rfl) rfl (by show 2 * 0 + _ ≤ _; exact Nat.le_of_eq rfl) (hb hby d2_6) (fun _ _ => ⟨rfl, e0, (by decide : 0 + 1 ≤ _), (by decide : 0 + 6 ≤ _)⟩)
  dsimp only [Pt.U, Pt.locs, Pt.cells, Pt.slots] at X2 l2 y2 z2 st2 hQ2
  subst l2 y2 z2
  obtain ⟨b, kb, rfl, N2q, K2, Q2_0, Q2_1, Q2_2, Q2_3, Q2_4⟩ := hQ2
  have N2 := Fr.app N0 N2q
  refine Go.to st2 ?_
  show Go _ _ _ _ T2 (mkF m 9 #[rv a, rv va] [])
  have ge_b : n0 ≤ b := Nat.le_trans Z0 Q2_4
  have sz_b : h0.size ≤ b := Nat.le_trans (Keep.refl h0 [a]).1 Q2_4
  have ne_a_b : a ≠ b := Nat.ne_of_lt (Nat.lt_of_lt_of_le E_a.lt Q2_4)
  have ne_va_b : va ≠ b := Nat.ne_of_lt (Nat.lt_of_lt_of_le V_va.lt Q2_4)
  have F3 : Keep h0 T2.heap [a] := (Keep.refl h0 [a]).trans K2 (allS (Or.inl (List.mem_of_getElem? (i := 0) rfl)) all0)
  exact Go.retV X2 hx Bd.notSynchronized Bd.returns (hb hby d2_9) ⟨b, kb, rfl, N2, F3, Q2_0, Q2_1, Q2_2, Q2_3, sz_b⟩ (by decide) (by decide)
theorem d1_185 : decode method_3_code 185 = .ok (.new 25, 3) := by decide +kernel
theorem d1_188 : decode method_3_code 188 = .ok (.dup, 1) := by decide +kernel
theorem d1_189 : decode method_3_code 189 = .ok (.bipush 6, 2) := by decide +kernel
theorem d1_191 : decode method_3_code 191 = .ok (.newarray .char, 2) := by decide +kernel
theorem d1_193 : decode method_3_code 193 = .ok (.dup, 1) := by decide +kernel
theorem d1_194 : decode method_3_code 194 = .ok (.iconst 0, 1) := by decide +kernel
theorem d1_195 : decode method_3_code 195 = .ok (.aload_n 0, 1) := by decide +kernel
theorem d1_196 : decode method_3_code 196 = .ok (.iconst 0, 1) := by decide +kernel
theorem d1_197 : decode method_3_code 197 = .ok (.caload, 1) := by decide +kernel
theorem d1_198 : decode method_3_code 198 = .ok (.castore, 1) := by decide +kernel
theorem d1_199 : decode method_3_code 199 = .ok (.dup, 1) := by decide +kernel
theorem d1_200 : decode method_3_code 200 = .ok (.iconst 1, 1) := by decide +kernel
theorem d1_201 : decode method_3_code 201 = .ok (.aload_n 0, 1) := by decide +kernel
theorem d1_202 : decode method_3_code 202 = .ok (.iconst 1, 1) := by decide +kernel
theorem d1_203 : decode method_3_code 203 = .ok (.caload, 1) := by decide +kernel
theorem d1_204 : decode method_3_code 204 = .ok (.castore, 1) := by decide +kernel
theorem d1_205 : decode method_3_code 205 = .ok (.dup, 1) := by decide +kernel
theorem d1_206 : decode method_3_code 206 = .ok (.iconst 2, 1) := by decide +kernel
theorem d1_207 : decode method_3_code 207 = .ok (.aload_n 0, 1) := by decide +kernel
theorem d1_208 : decode method_3_code 208 = .ok (.iconst 2, 1) := by decide +kernel
theorem d1_209 : decode method_3_code 209 = .ok (.caload, 1) := by decide +kernel
theorem d1_210 : decode method_3_code 210 = .ok (.castore, 1) := by decide +kernel
theorem d1_211 : decode method_3_code 211 = .ok (.dup, 1) := by decide +kernel
theorem d1_212 : decode method_3_code 212 = .ok (.iconst 3, 1) := by decide +kernel
theorem d1_213 : decode method_3_code 213 = .ok (.aload_n 0, 1) := by decide +kernel
theorem d1_214 : decode method_3_code 214 = .ok (.iconst 3, 1) := by decide +kernel
theorem d1_215 : decode method_3_code 215 = .ok (.caload, 1) := by decide +kernel
theorem d1_216 : decode method_3_code 216 = .ok (.castore, 1) := by decide +kernel
theorem d1_217 : decode method_3_code 217 = .ok (.dup, 1) := by decide +kernel
theorem d1_218 : decode method_3_code 218 = .ok (.iconst 4, 1) := by decide +kernel
theorem d1_219 : decode method_3_code 219 = .ok (.aload_n 0, 1) := by decide +kernel
theorem d1_220 : decode method_3_code 220 = .ok (.iconst 4, 1) := by decide +kernel
theorem d1_221 : decode method_3_code 221 = .ok (.caload, 1) := by decide +kernel
theorem d1_222 : decode method_3_code 222 = .ok (.castore, 1) := by decide +kernel
theorem d1_223 : decode method_3_code 223 = .ok (.dup, 1) := by decide +kernel
theorem d1_224 : decode method_3_code 224 = .ok (.iconst 5, 1) := by decide +kernel
theorem d1_225 : decode method_3_code 225 = .ok (.aload_n 0, 1) := by decide +kernel
theorem d1_226 : decode method_3_code 226 = .ok (.iconst 5, 1) := by decide +kernel
theorem d1_227 : decode method_3_code 227 = .ok (.caload, 1) := by decide +kernel
theorem d1_228 : decode method_3_code 228 = .ok (.castore, 1) := by decide +kernel
theorem d1_229 : decode method_3_code 229 = .ok (.invokespecial 27, 3) := by decide +kernel
theorem d1_232 : decode method_3_code 232 = .ok (.areturn, 1) := by decide +kernel
def Q_rmStr6 (Z : State) (ta : Addr) (kt : ClassId) (t0 : Int32) (t1 : Int32) (t2 : Int32) (t3 : Int32) (t4 : Int32) (t5 : Int32) (cs : Int32) (h0 : Heap) (n0 : Nat) (v : Option Value) (h : Heap) (L : List Loc) : Prop := ∃ st : Addr, ∃ sb : Addr, ∃ kb : ClassId, v = some (.ref st) ∧ Fr n0 L ∧ Keep h0 h [] ∧ Exa Z h st "java/lang/String" ∧ Fld Z h st "java/lang/String" "coder" "B" (.int 0) ∧ Fld Z h st "java/lang/String" "value" "[B" (.ref sb) ∧ Arv Z h sb kb .byte (6 : Int32) ([(.int (own_b t0)), (.int (own_b t1)), (.int (own_b t2)), (.int (own_b t3)), (.int (own_b t4)), (.int (own_b t5))]) (.int 0) ∧ h0.size ≤ st
set_option maxRecDepth 65536 in
set_option maxHeartbeats 40000000 in
theorem rmStr6 (l : Launch) (Z : State) (a0 : Array Value) (hw : ∀ d ∈ tables_1, d.before a0 Z = true) (ws : List Jvm.Cond) (ta : Addr) (kt : ClassId) (t0 : Int32) (t1 : Int32) (t2 : Int32) (t3 : Int32) (t4 : Int32) (t5 : Int32) (cs : Int32) (h0 : Heap) (n0 : Nat) (Z0 : n0 ≤ h0.size) (O0 : Old Z n0 h0) (V_ta : Arv Z h0 ta kt .char (6 : Int32) ([(.int t0), (.int t1), (.int t2), (.int t3), (.int t4), (.int t5)]) (.int 0)) (hb0 : (¬ t0 < 0 ∧ ¬ (255 : Int32) < t0)) (hb1 : (¬ t1 < 0 ∧ ¬ (255 : Int32) < t1)) (hb2 : (¬ t2 < 0 ∧ ¬ (255 : Int32) < t2)) (hb3 : (¬ t3 < 0 ∧ ¬ (255 : Int32) < t3)) (hb4 : (¬ t4 < 0 ∧ ¬ (255 : Int32) < t4)) (hb5 : (¬ t5 < 0 ∧ ¬ (255 : Int32) < t5)) (S_cs : Sta Z Z.heap "java/lang/String" "COMPACT_STRINGS" "Z" (.int cs)) (n_cs : ¬ cs = 0) :
    MetFree l (⟨"com/example/entries_to_nodes/entriestonodes/xml/XsBooleanReadPinLaw", "str", "([CI)Ljava/lang/String;"⟩ : MethodName) (head1 (Jvm.Cond.code (⟨"com/example/entries_to_nodes/entriestonodes/xml/XsBooleanReadPinLaw", "str", "([CI)Ljava/lang/String;"⟩ : MethodName) method_3_code 2 (some (.object "java/lang/String")) :: ws) ({ frames := 4, cells := 3, slots := 16, locals := 66 } : Room)) (fun as' U => as' = #[(.ref ta), (.int 6)] ∧ Z.Warmed39 U.vm ∧ U.heap = h0) (fun _ _ _ _ _ => True) (fun _ U o U' => ∃ v L, o = .returned v ∧ Q_rmStr6 Z ta kt t0 t1 t2 t3 t4 t5 cs h0 n0 v U'.heap L ∧ FrameEnd U o U' L ({ frames := 4, cells := 3, slots := 16, locals := 66 } : Room).cells ({ frames := 4, cells := 3, slots := 16, locals := 66 } : Room).slots) := by
  refine MetFree.of_bodySF (plainFor_of_name pn_26) hisR ?_
  intro p e s m args below meth c s₁ Bd hml0 hP hK
  obtain ⟨rfl, hZ, hh⟩ := hP
  have hx := Bd.exec
  have hby := Bd.bytes
  have hml : c.maxLocals = 2 := hml0
  have hown : s.vm.findClass "com/example/entries_to_nodes/entriestonodes/xml/XsBooleanReadPinLaw" = some m.cls := findClass_of_methodNamed Bd.named
  have hnm := (name_of_methodNamed Bd.named Bd.method).1
  have X0 : Stand p l e ({ frames := 4, cells := 3, slots := 16, locals := 66 } : Room) s m #[(.ref ta), (.int 6)] below meth c s₁ [] 0 0 := Stand.of_body Bd
  have e0 : s₁.heap = h0 := by rw [← hh, Bd.state]; rfl
  have N0 := Fr.nil n0
  refine Go.enter (F := EndN s (Q_rmStr6 Z ta kt t0 t1 t2 t3 t4 t5 cs h0 n0) ({ frames := 4, cells := 3, slots := 16, locals := 66 } : Room).cells ({ frames := 4, cells := 3, slots := 16, locals := 66 } : Room).slots) (ef_27 m ta (6 : Int32)) ?_
  show Go _ _ _ _ s₁ (mkF m 0 #[rv ta, iv 6] [])
  refine Go.iload1 1 X0 hx (hb hby d1_0) rfl rfl ?_
  refine Go.ifY 15 X0 hx (hb hby d1_1) (XT.i0_ne_t (by decide)) (by decide) (by decide) ?_
  refine Go.iload1 16 X0 hx (hb hby d1_15) rfl rfl ?_
  refine Go.iconst 17 X0 hx (1 : Int32) (hb hby d1_16) (by decide) rfl ?_
  refine Go.icmpY 37 X0 hx (hb hby d1_17) (XT.ii_ne_t (by decide)) (by decide) (by decide) ?_
  refine Go.iload1 38 X0 hx (hb hby d1_37) rfl rfl ?_
  refine Go.iconst 39 X0 hx (2 : Int32) (hb hby d1_38) (by decide) rfl ?_
  refine Go.icmpY 65 X0 hx (hb hby d1_39) (XT.ii_ne_t (by decide)) (by decide) (by decide) ?_
  refine Go.iload1 66 X0 hx (hb hby d1_65) rfl rfl ?_
  refine Go.iconst 67 X0 hx (3 : Int32) (hb hby d1_66) (by decide) rfl ?_
  refine Go.icmpY 99 X0 hx (hb hby d1_67) (XT.ii_ne_t (by decide)) (by decide) (by decide) ?_
  refine Go.iload1 100 X0 hx (hb hby d1_99) rfl rfl ?_
  refine Go.iconst 101 X0 hx (4 : Int32) (hb hby d1_100) (by decide) rfl ?_
  refine Go.icmpY 139 X0 hx (hb hby d1_101) (XT.ii_ne_t (by decide)) (by decide) (by decide) ?_
  refine Go.iload1 140 X0 hx (hb hby d1_139) rfl rfl ?_
  refine Go.iconst 141 X0 hx (5 : Int32) (hb hby d1_140) (by decide) rfl ?_
  refine Go.icmpY 185 X0 hx (hb hby d1_141) (XT.ii_ne_t (by decide)) (by decide) (by decide) ?_
  obtain ⟨st, g1⟩ : ∃ z, z = h0.size := ⟨_, rfl⟩
  have ge_st : n0 ≤ st := Nat.le_trans Z0 (Nat.le_of_eq g1.symm)
  have sz_st : h0.size ≤ st := Nat.le_trans (Keep.refl h0 []).1 (Nat.le_of_eq g1.symm)
  have ne_ta_st : ta ≠ st := Nat.ne_of_lt (Nat.lt_of_lt_of_le V_ta.lt (Nat.le_of_eq g1.symm))
  obtain ⟨T1, h1, X1, e1, E1, A1, D1, -, st1⟩ := newO X0 hx hZ hown (ow hw 5 rfl) (ow hw 6 rfl) (ow hw 7 rfl) e0 (g := (mkF m 185 #[rv ta, iv 6] [])) rfl (hb hby d1_185) (by decide) (by decide)
  rw [← g1] at A1 D1 st1
  have F_value_st : Fld Z h1 st "java/lang/String" "value" "[B" .null := D1 (Or.inr (ow hw 20 rfl)) (ty := (.array .byte)) (by decide)
  have F_coder_st : Fld Z h1 st "java/lang/String" "coder" "B" (.int 0) := D1 (Or.inr (ow hw 21 rfl)) (ty := .byte) (by decide)
  refine Go.by st1 ?_
  show Go _ _ _ _ T1 (mkF m 188 #[rv ta, iv 6] [(.ref st)])
  refine Go.dup 189 X1 hx (hb hby d1_188) rfl rfl ?_
  refine Go.bipush 191 X1 hx (6 : Int32) (hb hby d1_189) (by decide) rfl ?_
  obtain ⟨ca, g2⟩ : ∃ z, z = h1.size := ⟨_, rfl⟩
  have F3 : n0 ≤ h1.size := Nat.le_trans Z0 E1.1
  have ge_ca : n0 ≤ ca := Nat.le_trans F3 (Nat.le_of_eq g2.symm)
  have F4 : Keep h0 h1 [] := (Keep.refl h0 []).ext E1
  have sz_ca : h0.size ≤ ca := Nat.le_trans F4.1 (Nat.le_of_eq g2.symm)
  have ne_st_ca : st ≠ ca := Nat.ne_of_lt (Nat.lt_of_lt_of_le A1.lt (Nat.le_of_eq g2.symm))
  have F5 : Arv Z h1 ta kt .char (6 : Int32) [(.int t0), (.int t1), (.int t2), (.int t3), (.int t4), (.int t5)] (.int 0) := V_ta.ext E1
  have ne_ta_ca : ta ≠ ca := Nat.ne_of_lt (Nat.lt_of_lt_of_le F5.lt (Nat.le_of_eq g2.symm))
  obtain ⟨T2, h2, k2, X2, e2, E2, A2, Ea2, st2⟩ := newPE X1 hx hZ (ow hw 0 rfl) e1 (g := (mkF m 191 #[rv ta, iv 6] [(.int 6), (.ref st), (.ref st)])) rfl (hb hby d1_191) rfl (by decide) (cap := 6) (by decide) (by decide) (by decide) (by decide) (ad := "[C") rfl
  rw [← g2] at A2 Ea2 st2
  have V_ca : Arv Z h2 ca k2 .char (6 : Int32) [(.int 0), (.int 0), (.int 0), (.int 0), (.int 0), (.int 0)] (.int 0) := (Arv.new A2 (by decide)).pad (pad_rep [] (.int 0) 6)
  refine Go.by st2 ?_
  show Go _ _ _ _ T2 (mkF m 193 #[rv ta, iv 6] [(.ref ca), (.ref st), (.ref st)])
  refine Go.dup 194 X2 hx (hb hby d1_193) rfl rfl ?_
  refine Go.iconst 195 X2 hx (0 : Int32) (hb hby d1_194) (by decide) rfl ?_
  refine Go.aload1 196 X2 hx (hb hby d1_195) rfl rfl rfl ?_
  refine Go.iconst 197 X2 hx (0 : Int32) (hb hby d1_196) (by decide) rfl ?_
  have F6 : Arv Z h2 ta kt .char (6 : Int32) [(.int t0), (.int t1), (.int t2), (.int t3), (.int t4), (.int t5)] (.int 0) := F5.ext E2
  obtain ⟨cl7, Ar7, -, S7, M7, H7, -⟩ := id F6
  have hin7 : ¬ ((0 : Int32) < 0 ∨ cl7.slots.size ≤ (0 : Int32).toNatClampNeg) := inb_of S7 ⟨by decide, by decide⟩
  refine Go.by (fun _ gk => X2.caload hx (j := (0 : Int32)) (v := (.int t0)) (by rw [e2]; exact Ar7.1) (State.isArrayOf_alike hZ.alike Ar7.2.1) Ar7.2.2 hin7 (Has.at H7 hin7 rfl) (g := (mkF m 197 #[rv ta, iv 6] [(.int 0), (.ref ta), (.int 0), (.ref ca), (.ref ca), (.ref st), (.ref st)])) rfl rfl (hb hby d1_197) _ gk) ?_
  show Go _ _ _ _ T2 (mkF m 198 #[rv ta, iv 6] [(.int t0), (.int 0), (.ref ca), (.ref ca), (.ref st), (.ref st)])
  obtain ⟨cl8, Ar8, q8, S8, M8, H8, G8⟩ := id V_ca
  have hin8 : ¬ ((0 : Int32) < 0 ∨ cl8.slots.size ≤ (0 : Int32).toNatClampNeg) := inb_of S8 ⟨by decide, by decide⟩
  obtain ⟨T8, h8, X8, e8, W8, st8⟩ := stC X2 hx hZ e2 Ar8 (j := (0 : Int32)) hin8 (g := (mkF m 198 #[rv ta, iv 6] [(.int t0), (.int 0), (.ref ca), (.ref ca), (.ref st), (.ref st)])) rfl rfl (hb hby d1_198)
  have N8 := Fr.snoc X8 N0 ge_ca
  have V8 : Arv Z h8 ca k2 .char (6 : Int32) [(.int (nar .char t0)), (.int 0), (.int 0), (.int 0), (.int 0), (.int 0)] (.int 0) := Arv.set Ar8 q8 S8 M8 H8 G8 (fits_nar_char _) W8 0 rfl (Nat.le_of_ble_eq_true rfl)
  refine Go.by st8 ?_
  show Go _ _ _ _ T8 (mkF m 199 #[rv ta, iv 6] [(.ref ca), (.ref st), (.ref st)])
  rw [own_ncb (t := t0) hb0.1 hb0.2] at V8
  refine Go.dup 200 X8 hx (hb hby d1_199) rfl rfl ?_
  refine Go.iconst 201 X8 hx (1 : Int32) (hb hby d1_200) (by decide) rfl ?_
  refine Go.aload1 202 X8 hx (hb hby d1_201) rfl rfl rfl ?_
  refine Go.iconst 203 X8 hx (1 : Int32) (hb hby d1_202) (by decide) rfl ?_
  have F9 : Arv Z h8 ta kt .char (6 : Int32) [(.int t0), (.int t1), (.int t2), (.int t3), (.int t4), (.int t5)] (.int 0) := F6.other W8 ne_ta_ca
  obtain ⟨cl10, Ar10, -, S10, M10, H10, -⟩ := id F9
  have hin10 : ¬ ((1 : Int32) < 0 ∨ cl10.slots.size ≤ (1 : Int32).toNatClampNeg) := inb_of S10 ⟨by decide, by decide⟩
  refine Go.by (fun _ gk => X8.caload hx (j := (1 : Int32)) (v := (.int t1)) (by rw [e8]; exact Ar10.1) (State.isArrayOf_alike hZ.alike Ar10.2.1) Ar10.2.2 hin10 (Has.at H10 hin10 rfl) (g := (mkF m 203 #[rv ta, iv 6] [(.int 1), (.ref ta), (.int 1), (.ref ca), (.ref ca), (.ref st), (.ref st)])) rfl rfl (hb hby d1_203) _ gk) ?_
  show Go _ _ _ _ T8 (mkF m 204 #[rv ta, iv 6] [(.int t1), (.int 1), (.ref ca), (.ref ca), (.ref st), (.ref st)])
  obtain ⟨cl11, Ar11, q11, S11, M11, H11, G11⟩ := id V8
  have hin11 : ¬ ((1 : Int32) < 0 ∨ cl11.slots.size ≤ (1 : Int32).toNatClampNeg) := inb_of S11 ⟨by decide, by decide⟩
  obtain ⟨T11, h11, X11, e11, W11, st11⟩ := stC X8 hx hZ e8 Ar11 (j := (1 : Int32)) hin11 (g := (mkF m 204 #[rv ta, iv 6] [(.int t1), (.int 1), (.ref ca), (.ref ca), (.ref st), (.ref st)])) rfl rfl (hb hby d1_204)
  have N11 := Fr.snoc X11 N8 ge_ca
  have V11 : Arv Z h11 ca k2 .char (6 : Int32) [(.int t0), (.int (nar .char t1)), (.int 0), (.int 0), (.int 0), (.int 0)] (.int 0) := Arv.set Ar11 q11 S11 M11 H11 G11 (fits_nar_char _) W11 1 rfl (Nat.le_of_ble_eq_true rfl)
  refine Go.by st11 ?_
  show Go _ _ _ _ T11 (mkF m 205 #[rv ta, iv 6] [(.ref ca), (.ref st), (.ref st)])
  rw [own_ncb (t := t1) hb1.1 hb1.2] at V11
  refine Go.dup 206 X11 hx (hb hby d1_205) rfl rfl ?_
  refine Go.iconst 207 X11 hx (2 : Int32) (hb hby d1_206) (by decide) rfl ?_
  refine Go.aload1 208 X11 hx (hb hby d1_207) rfl rfl rfl ?_
  refine Go.iconst 209 X11 hx (2 : Int32) (hb hby d1_208) (by decide) rfl ?_
  have F12 : Arv Z h11 ta kt .char (6 : Int32) [(.int t0), (.int t1), (.int t2), (.int t3), (.int t4), (.int t5)] (.int 0) := F9.other W11 ne_ta_ca
  obtain ⟨cl13, Ar13, -, S13, M13, H13, -⟩ := id F12
  have hin13 : ¬ ((2 : Int32) < 0 ∨ cl13.slots.size ≤ (2 : Int32).toNatClampNeg) := inb_of S13 ⟨by decide, by decide⟩
  refine Go.by (fun _ gk => X11.caload hx (j := (2 : Int32)) (v := (.int t2)) (by rw [e11]; exact Ar13.1) (State.isArrayOf_alike hZ.alike Ar13.2.1) Ar13.2.2 hin13 (Has.at H13 hin13 rfl) (g := (mkF m 209 #[rv ta, iv 6] [(.int 2), (.ref ta), (.int 2), (.ref ca), (.ref ca), (.ref st), (.ref st)])) rfl rfl (hb hby d1_209) _ gk) ?_
  show Go _ _ _ _ T11 (mkF m 210 #[rv ta, iv 6] [(.int t2), (.int 2), (.ref ca), (.ref ca), (.ref st), (.ref st)])
  obtain ⟨cl14, Ar14, q14, S14, M14, H14, G14⟩ := id V11
  have hin14 : ¬ ((2 : Int32) < 0 ∨ cl14.slots.size ≤ (2 : Int32).toNatClampNeg) := inb_of S14 ⟨by decide, by decide⟩
  obtain ⟨T14, h14, X14, e14, W14, st14⟩ := stC X11 hx hZ e11 Ar14 (j := (2 : Int32)) hin14 (g := (mkF m 210 #[rv ta, iv 6] [(.int t2), (.int 2), (.ref ca), (.ref ca), (.ref st), (.ref st)])) rfl rfl (hb hby d1_210)
  have N14 := Fr.snoc X14 N11 ge_ca
  have V14 : Arv Z h14 ca k2 .char (6 : Int32) [(.int t0), (.int t1), (.int (nar .char t2)), (.int 0), (.int 0), (.int 0)] (.int 0) := Arv.set Ar14 q14 S14 M14 H14 G14 (fits_nar_char _) W14 2 rfl (Nat.le_of_ble_eq_true rfl)
  refine Go.by st14 ?_
  show Go _ _ _ _ T14 (mkF m 211 #[rv ta, iv 6] [(.ref ca), (.ref st), (.ref st)])
  rw [own_ncb (t := t2) hb2.1 hb2.2] at V14
  refine Go.dup 212 X14 hx (hb hby d1_211) rfl rfl ?_
  refine Go.iconst 213 X14 hx (3 : Int32) (hb hby d1_212) (by decide) rfl ?_
  refine Go.aload1 214 X14 hx (hb hby d1_213) rfl rfl rfl ?_
  refine Go.iconst 215 X14 hx (3 : Int32) (hb hby d1_214) (by decide) rfl ?_
  have F15 : Arv Z h14 ta kt .char (6 : Int32) [(.int t0), (.int t1), (.int t2), (.int t3), (.int t4), (.int t5)] (.int 0) := F12.other W14 ne_ta_ca
  obtain ⟨cl16, Ar16, -, S16, M16, H16, -⟩ := id F15
  have hin16 : ¬ ((3 : Int32) < 0 ∨ cl16.slots.size ≤ (3 : Int32).toNatClampNeg) := inb_of S16 ⟨by decide, by decide⟩
  refine Go.by (fun _ gk => X14.caload hx (j := (3 : Int32)) (v := (.int t3)) (by rw [e14]; exact Ar16.1) (State.isArrayOf_alike hZ.alike Ar16.2.1) Ar16.2.2 hin16 (Has.at H16 hin16 rfl) (g := (mkF m 215 #[rv ta, iv 6] [(.int 3), (.ref ta), (.int 3), (.ref ca), (.ref ca), (.ref st), (.ref st)])) rfl rfl (hb hby d1_215) _ gk) ?_
  show Go _ _ _ _ T14 (mkF m 216 #[rv ta, iv 6] [(.int t3), (.int 3), (.ref ca), (.ref ca), (.ref st), (.ref st)])
  obtain ⟨cl17, Ar17, q17, S17, M17, H17, G17⟩ := id V14
  have hin17 : ¬ ((3 : Int32) < 0 ∨ cl17.slots.size ≤ (3 : Int32).toNatClampNeg) := inb_of S17 ⟨by decide, by decide⟩
  obtain ⟨T17, h17, X17, e17, W17, st17⟩ := stC X14 hx hZ e14 Ar17 (j := (3 : Int32)) hin17 (g := (mkF m 216 #[rv ta, iv 6] [(.int t3), (.int 3), (.ref ca), (.ref ca), (.ref st), (.ref st)])) rfl rfl (hb hby d1_216)
  have N17 := Fr.snoc X17 N14 ge_ca
  have V17 : Arv Z h17 ca k2 .char (6 : Int32) [(.int t0), (.int t1), (.int t2), (.int (nar .char t3)), (.int 0), (.int 0)] (.int 0) := Arv.set Ar17 q17 S17 M17 H17 G17 (fits_nar_char _) W17 3 rfl (Nat.le_of_ble_eq_true rfl)
  refine Go.by st17 ?_
  show Go _ _ _ _ T17 (mkF m 217 #[rv ta, iv 6] [(.ref ca), (.ref st), (.ref st)])
  rw [own_ncb (t := t3) hb3.1 hb3.2] at V17
  refine Go.dup 218 X17 hx (hb hby d1_217) rfl rfl ?_
  refine Go.iconst 219 X17 hx (4 : Int32) (hb hby d1_218) (by decide) rfl ?_
  refine Go.aload1 220 X17 hx (hb hby d1_219) rfl rfl rfl ?_
  refine Go.iconst 221 X17 hx (4 : Int32) (hb hby d1_220) (by decide) rfl ?_
  have F18 : Arv Z h17 ta kt .char (6 : Int32) [(.int t0), (.int t1), (.int t2), (.int t3), (.int t4), (.int t5)] (.int 0) := F15.other W17 ne_ta_ca
  obtain ⟨cl19, Ar19, -, S19, M19, H19, -⟩ := id F18
  have hin19 : ¬ ((4 : Int32) < 0 ∨ cl19.slots.size ≤ (4 : Int32).toNatClampNeg) := inb_of S19 ⟨by decide, by decide⟩
  refine Go.by (fun _ gk => X17.caload hx (j := (4 : Int32)) (v := (.int t4)) (by rw [e17]; exact Ar19.1) (State.isArrayOf_alike hZ.alike Ar19.2.1) Ar19.2.2 hin19 (Has.at H19 hin19 rfl) (g := (mkF m 221 #[rv ta, iv 6] [(.int 4), (.ref ta), (.int 4), (.ref ca), (.ref ca), (.ref st), (.ref st)])) rfl rfl (hb hby d1_221) _ gk) ?_
  show Go _ _ _ _ T17 (mkF m 222 #[rv ta, iv 6] [(.int t4), (.int 4), (.ref ca), (.ref ca), (.ref st), (.ref st)])
  obtain ⟨cl20, Ar20, q20, S20, M20, H20, G20⟩ := id V17
  have hin20 : ¬ ((4 : Int32) < 0 ∨ cl20.slots.size ≤ (4 : Int32).toNatClampNeg) := inb_of S20 ⟨by decide, by decide⟩
  obtain ⟨T20, h20, X20, e20, W20, st20⟩ := stC X17 hx hZ e17 Ar20 (j := (4 : Int32)) hin20 (g := (mkF m 222 #[rv ta, iv 6] [(.int t4), (.int 4), (.ref ca), (.ref ca), (.ref st), (.ref st)])) rfl rfl (hb hby d1_222)
  have N20 := Fr.snoc X20 N17 ge_ca
  have V20 : Arv Z h20 ca k2 .char (6 : Int32) [(.int t0), (.int t1), (.int t2), (.int t3), (.int (nar .char t4)), (.int 0)] (.int 0) := Arv.set Ar20 q20 S20 M20 H20 G20 (fits_nar_char _) W20 4 rfl (Nat.le_of_ble_eq_true rfl)
  refine Go.by st20 ?_
  show Go _ _ _ _ T20 (mkF m 223 #[rv ta, iv 6] [(.ref ca), (.ref st), (.ref st)])
  rw [own_ncb (t := t4) hb4.1 hb4.2] at V20
  refine Go.dup 224 X20 hx (hb hby d1_223) rfl rfl ?_
  refine Go.iconst 225 X20 hx (5 : Int32) (hb hby d1_224) (by decide) rfl ?_
  refine Go.aload1 226 X20 hx (hb hby d1_225) rfl rfl rfl ?_
  refine Go.iconst 227 X20 hx (5 : Int32) (hb hby d1_226) (by decide) rfl ?_
  have F21 : Arv Z h20 ta kt .char (6 : Int32) [(.int t0), (.int t1), (.int t2), (.int t3), (.int t4), (.int t5)] (.int 0) := F18.other W20 ne_ta_ca
  obtain ⟨cl22, Ar22, -, S22, M22, H22, -⟩ := id F21
  have hin22 : ¬ ((5 : Int32) < 0 ∨ cl22.slots.size ≤ (5 : Int32).toNatClampNeg) := inb_of S22 ⟨by decide, by decide⟩
  refine Go.by (fun _ gk => X20.caload hx (j := (5 : Int32)) (v := (.int t5)) (by rw [e20]; exact Ar22.1) (State.isArrayOf_alike hZ.alike Ar22.2.1) Ar22.2.2 hin22 (Has.at H22 hin22 rfl) (g := (mkF m 227 #[rv ta, iv 6] [(.int 5), (.ref ta), (.int 5), (.ref ca), (.ref ca), (.ref st), (.ref st)])) rfl rfl (hb hby d1_227) _ gk) ?_
  show Go _ _ _ _ T20 (mkF m 228 #[rv ta, iv 6] [(.int t5), (.int 5), (.ref ca), (.ref ca), (.ref st), (.ref st)])
  obtain ⟨cl23, Ar23, q23, S23, M23, H23, G23⟩ := id V20
  have hin23 : ¬ ((5 : Int32) < 0 ∨ cl23.slots.size ≤ (5 : Int32).toNatClampNeg) := inb_of S23 ⟨by decide, by decide⟩
  obtain ⟨T23, h23, X23, e23, W23, st23⟩ := stC X20 hx hZ e20 Ar23 (j := (5 : Int32)) hin23 (g := (mkF m 228 #[rv ta, iv 6] [(.int t5), (.int 5), (.ref ca), (.ref ca), (.ref st), (.ref st)])) rfl rfl (hb hby d1_228)
  have N23 := Fr.snoc X23 N20 ge_ca
  have V23 : Arv Z h23 ca k2 .char (6 : Int32) [(.int t0), (.int t1), (.int t2), (.int t3), (.int t4), (.int (nar .char t5))] (.int 0) := Arv.set Ar23 q23 S23 M23 H23 G23 (fits_nar_char _) W23 5 rfl (Nat.le_of_ble_eq_true rfl)
  refine Go.by st23 ?_
  show Go _ _ _ _ T23 (mkF m 229 #[rv ta, iv 6] [(.ref ca), (.ref st), (.ref st)])
  rw [own_ncb (t := t5) hb5.1 hb5.2] at V23
  have F24 : Old Z n0 h1 := O0.ext E1
  have F25 : Old Z n0 h2 := F24.ext E2
  have F26 : Old Z n0 h8 := F25.wr W8 ge_ca
  have F27 : Old Z n0 h11 := F26.wr W11 ge_ca
  have F28 : Old Z n0 h14 := F27.wr W14 ge_ca
  have F29 : Old Z n0 h17 := F28.wr W17 ge_ca
  have F30 : Old Z n0 h20 := F29.wr W20 ge_ca
  have F31 : Old Z n0 h23 := F30.wr W23 ge_ca
  have F32 : Exa Z h2 st "java/lang/String" := A1.ext E2
  have F33 : Exa Z h8 st "java/lang/String" := F32.wr W8
  have F34 : Exa Z h11 st "java/lang/String" := F33.wr W11
  have F35 : Exa Z h14 st "java/lang/String" := F34.wr W14
  have F36 : Exa Z h17 st "java/lang/String" := F35.wr W17
  have F37 : Exa Z h20 st "java/lang/String" := F36.wr W20
  have F38 : Exa Z h23 st "java/lang/String" := F37.wr W23
  have F39 : Fld Z h2 st "java/lang/String" "value" "[B" .null := F_value_st.ext E2
  have F40 : Fld Z h8 st "java/lang/String" "value" "[B" .null := F39.other W8 (Or.inl ne_st_ca)
  have F41 : Fld Z h11 st "java/lang/String" "value" "[B" .null := F40.other W11 (Or.inl ne_st_ca)
  have F42 : Fld Z h14 st "java/lang/String" "value" "[B" .null := F41.other W14 (Or.inl ne_st_ca)
  have F43 : Fld Z h17 st "java/lang/String" "value" "[B" .null := F42.other W17 (Or.inl ne_st_ca)
  have F44 : Fld Z h20 st "java/lang/String" "value" "[B" .null := F43.other W20 (Or.inl ne_st_ca)
  have F45 : Fld Z h23 st "java/lang/String" "value" "[B" .null := F44.other W23 (Or.inl ne_st_ca)
  have F46 : Fld Z h2 st "java/lang/String" "coder" "B" (.int 0) := F_coder_st.ext E2
  have F47 : Fld Z h8 st "java/lang/String" "coder" "B" (.int 0) := F46.other W8 (Or.inl ne_st_ca)
  have F48 : Fld Z h11 st "java/lang/String" "coder" "B" (.int 0) := F47.other W11 (Or.inl ne_st_ca)
  have F49 : Fld Z h14 st "java/lang/String" "coder" "B" (.int 0) := F48.other W14 (Or.inl ne_st_ca)
  have F50 : Fld Z h17 st "java/lang/String" "coder" "B" (.int 0) := F49.other W17 (Or.inl ne_st_ca)
  have F51 : Fld Z h20 st "java/lang/String" "coder" "B" (.int 0) := F50.other W20 (Or.inl ne_st_ca)
  have F52 : Fld Z h23 st "java/lang/String" "coder" "B" (.int 0) := F51.other W23 (Or.inl ne_st_ca)
  have F53 : n0 ≤ h2.size := Nat.le_trans F3 E2.1
  have F54 : n0 ≤ h8.size := Nat.le_trans F53 (Nat.le_of_eq (Wr.size W8).symm)
  have F55 : n0 ≤ h11.size := Nat.le_trans F54 (Nat.le_of_eq (Wr.size W11).symm)
  have F56 : n0 ≤ h14.size := Nat.le_trans F55 (Nat.le_of_eq (Wr.size W14).symm)
  have F57 : n0 ≤ h17.size := Nat.le_trans F56 (Nat.le_of_eq (Wr.size W17).symm)
  have F58 : n0 ≤ h20.size := Nat.le_trans F57 (Nat.le_of_eq (Wr.size W20).symm)
  have F59 : n0 ≤ h23.size := Nat.le_trans F58 (Nat.le_of_eq (Wr.size W23).symm)
  have F60 : Keep h0 h2 [] := F4.ext E2
  have F61 : Keep h0 h8 [] := F60.wr W8 (Or.inr sz_ca)
  have F62 : Keep h0 h11 [] := F61.wr W11 (Or.inr sz_ca)
  have F63 : Keep h0 h14 [] := F62.wr W14 (Or.inr sz_ca)
  have F64 : Keep h0 h17 [] := F63.wr W17 (Or.inr sz_ca)
  have F65 : Keep h0 h20 [] := F64.wr W20 (Or.inr sz_ca)
  have F66 : Keep h0 h23 [] := F65.wr W23 (Or.inr sz_ca)
  have F67 : Exa Z h8 ca "[C" := Ea2.wr W8
  have F68 : Exa Z h11 ca "[C" := F67.wr W11
  have F69 : Exa Z h14 ca "[C" := F68.wr W14
  have F70 : Exa Z h17 ca "[C" := F69.wr W17
  have F71 : Exa Z h20 ca "[C" := F70.wr W20
  have F72 : Exa Z h23 ca "[C" := F71.wr W23
  have F73 : Arv Z h23 ta kt .char (6 : Int32) [(.int t0), (.int t1), (.int t2), (.int t3), (.int t4), (.int t5)] (.int 0) := F21.other W23 ne_ta_ca
  obtain ⟨_, _, ⟨T74, L74, k74, n74⟩, -, X74, ⟨Lc74, hQ74, l74, y74, z74⟩, st74⟩ := X23.specialBack hx (y := (⟨"java/lang/String", "<init>", "([C)V"⟩ : MethodName)) rfl hown (mvT hZ (ow hw 8 rfl)) (mvT hZ (ow hw 9 rfl)) (mvT hZ (ow hw 10 rfl)) (by decide) (backOf (W := 1) (rmS1_6 l Z a0 hw [] st ca k2 t0 t1 t2 t3 t4 t5 cs h23 n0 F59 F31 F38 F45 F52 ge_st V23 hb0.2 hb1.2 hb2.2 hb3.2 hb4.2 hb5.2 S_cs n_cs) hZ (ow hw 10 rfl) (ow hw 7 rfl) (by decide) (by decide)) (g := (mkF m 229 #[rv ta, iv 6] [(.ref ca), (.ref st), (.ref st)])) rfl (by rw [hml]; rfl) (Steps.refl _) (a := st) (argsL := [(.ref ca)]) (rest := [(.ref st)]) (lenOf pd_34 rfl) rfl (by show 2 * 0 + _ ≤ _; exact Nat.le_of_eq rfl) (hb hby d1_229) (fun _ _ => ⟨rfl, e23, (by decide : 2 + 1 ≤ _), (by decide : 10 + 6 ≤ _)⟩)
  dsimp only [Pt.U, Pt.locs, Pt.cells, Pt.slots] at X74 l74 y74 z74 st74 hQ74
  subst l74 y74 z74
  obtain ⟨sb, kb, rfl, N74q, K74, Q74_0, Q74_1, Q74_2, Q74_3, Q74_4⟩ := hQ74
  have N74 := Fr.app N23 N74q
  refine Go.to st74 ?_
  show Go _ _ _ _ T74 (mkF m 232 #[rv ta, iv 6] [(.ref st)])
  have ge_sb : n0 ≤ sb := Nat.le_trans F59 Q74_4
  have sz_sb : h0.size ≤ sb := Nat.le_trans F66.1 Q74_4
  have ne_ca_sb : ca ≠ sb := Nat.ne_of_lt (Nat.lt_of_lt_of_le V23.lt Q74_4)
  have ne_st_sb : st ≠ sb := Nat.ne_of_lt (Nat.lt_of_lt_of_le F38.lt Q74_4)
  have ne_ta_sb : ta ≠ sb := Nat.ne_of_lt (Nat.lt_of_lt_of_le F73.lt Q74_4)
  have F75 : Keep h0 T74.heap [] := F66.trans K74 (allS (Or.inr sz_st) all0)
  exact Go.retA X74 hx Bd.notSynchronized Bd.returns rfl rfl (hb hby d1_232) ⟨st, sb, kb, rfl, N74, F75, Q74_0, Q74_1, Q74_2, Q74_3, sz_st⟩ (by decide) (by decide)
theorem pn_282 : plainName "java/lang/StringLatin1" = true := by first | (simp [plainName, overriddenIn]; done) | decide +kernel
theorem ef_283 (m : MethodId) (x0 : Addr) (x1 : Addr) : entryFrame m #[(.ref x0), (.ref x1)] 3 = mkF m 0 #[rv x0, rv x1, un] [] := by (first | (simp [entryFrame, mkF, argsToLocals, Value.category]; done) | rfl)
theorem d7_0 : decode jdk_43_method_13_code 0 = .ok (.aload_n 0, 1) := by decide +kernel
theorem d7_1 : decode jdk_43_method_13_code 1 = .ok (.arraylength, 1) := by decide +kernel
theorem d7_2 : decode jdk_43_method_13_code 2 = .ok (.aload_n 1, 1) := by decide +kernel
theorem d7_3 : decode jdk_43_method_13_code 3 = .ok (.arraylength, 1) := by decide +kernel
theorem d7_4 : decode jdk_43_method_13_code 4 = .ok (.if_icmp .ne 30, 3) := by decide +kernel
theorem d7_34 : decode jdk_43_method_13_code 34 = .ok (.iconst 0, 1) := by decide +kernel
theorem d7_35 : decode jdk_43_method_13_code 35 = .ok (.ireturn, 1) := by decide +kernel
def Q_rmLeqNe (Z : State) (av : Addr) (bv : Addr) (ka : ClassId) (kb : ClassId) (n : Int32) (n2 : Int32) (vs : List Value) (ws2 : List Value) (h0 : Heap) (n0 : Nat) (v : Option Value) (h : Heap) (L : List Loc) : Prop := v = some (.int 0) ∧ Fr n0 L ∧ h = h0
set_option maxRecDepth 65536 in
set_option maxHeartbeats 40000000 in
theorem rmLeqNe (l : Launch) (Z : State) (a0 : Array Value) (hw : ∀ d ∈ tables_1, d.before a0 Z = true) (ws : List Jvm.Cond) (av : Addr) (bv : Addr) (ka : ClassId) (kb : ClassId) (n : Int32) (n2 : Int32) (vs : List Value) (ws2 : List Value) (h0 : Heap) (n0 : Nat) (Z0 : n0 ≤ h0.size) (V_av : Arv Z h0 av ka .byte n vs (.int 0)) (V_bv : Arv Z h0 bv kb .byte n2 ws2 (.int 0)) (hne : (¬ n = n2)) :
    MetFree l (⟨"java/lang/StringLatin1", "equals", "([B[B)Z"⟩ : MethodName) (head1 (Jvm.Cond.code (⟨"java/lang/StringLatin1", "equals", "([B[B)Z"⟩ : MethodName) jdk_43_method_13_code 3 (some .boolean) :: ws) ({ frames := 0, cells := 0, slots := 0, locals := 0 } : Room)) (fun as' U => as' = #[(.ref av), (.ref bv)] ∧ Z.Warmed39 U.vm ∧ U.heap = h0) (fun _ _ _ _ _ => True) (fun _ U o U' => ∃ v L, o = .returned v ∧ Q_rmLeqNe Z av bv ka kb n n2 vs ws2 h0 n0 v U'.heap L ∧ FrameEnd U o U' L ({ frames := 0, cells := 0, slots := 0, locals := 0 } : Room).cells ({ frames := 0, cells := 0, slots := 0, locals := 0 } : Room).slots) := by
  refine MetFree.of_bodySF (plainFor_of_name pn_282) hisR ?_
  intro p e s m args below meth c s₁ Bd hml0 hP hK
  obtain ⟨rfl, hZ, hh⟩ := hP
  have hx := Bd.exec
  have hby := Bd.bytes
  have hml : c.maxLocals = 3 := hml0
  have hown : s.vm.findClass "java/lang/StringLatin1" = some m.cls := findClass_of_methodNamed Bd.named
  have hnm := (name_of_methodNamed Bd.named Bd.method).1
  have X0 : Stand p l e ({ frames := 0, cells := 0, slots := 0, locals := 0 } : Room) s m #[(.ref av), (.ref bv)] below meth c s₁ [] 0 0 := Stand.of_body Bd
  have e0 : s₁.heap = h0 := by rw [← hh, Bd.state]; rfl
  have N0 := Fr.nil n0
  refine Go.enter (F := EndN s (Q_rmLeqNe Z av bv ka kb n n2 vs ws2 h0 n0) ({ frames := 0, cells := 0, slots := 0, locals := 0 } : Room).cells ({ frames := 0, cells := 0, slots := 0, locals := 0 } : Room).slots) (ef_283 m av bv) ?_
  show Go _ _ _ _ s₁ (mkF m 0 #[rv av, rv bv, un] [])
  refine Go.aload1 1 X0 hx (hb hby d7_0) rfl rfl rfl ?_
  obtain ⟨cl1, Ar1, -, S1, M1, -, -⟩ := id V_av
  refine Go.by (fun _ gk => X0.arraylength hx (by rw [e0]; exact Ar1.1) (State.isArrayOf_alike hZ.alike Ar1.2.1) (g := (mkF m 1 #[rv av, rv bv, un] [(.ref av)])) rfl rfl (hb hby d7_1) _ gk) ?_
  rw [len_of S1 M1]
  show Go _ _ _ _ s₁ (mkF m 2 #[rv av, rv bv, un] [(.int n)])
  refine Go.aload1 3 X0 hx (hb hby d7_2) rfl rfl rfl ?_
  obtain ⟨cl2, Ar2, -, S2, M2, -, -⟩ := id V_bv
  refine Go.by (fun _ gk => X0.arraylength hx (by rw [e0]; exact Ar2.1) (State.isArrayOf_alike hZ.alike Ar2.2.1) (g := (mkF m 3 #[rv av, rv bv, un] [(.ref bv), (.int n)])) rfl rfl (hb hby d7_3) _ gk) ?_
  rw [len_of S2 M2]
  show Go _ _ _ _ s₁ (mkF m 4 #[rv av, rv bv, un] [(.int n2), (.int n)])
  refine Go.icmpY 34 X0 hx (hb hby d7_4) (XT.ii_ne_t hne) (by decide) (by decide) ?_
  refine Go.iconst 35 X0 hx (0 : Int32) (hb hby d7_34) (by decide) rfl ?_
  exact Go.retI X0 hx Bd.notSynchronized Bd.returns rfl (by simp) (hb hby d7_35) (by rw [e0]; exact ⟨rfl, N0, rfl⟩) (by decide) (by decide)
theorem d6_0 : decode jdk_42_method_66_code 0 = .ok (.aload_n 0, 1) := by decide +kernel
theorem d6_1 : decode jdk_42_method_66_code 1 = .ok (.aload_n 1, 1) := by decide +kernel
theorem d6_2 : decode jdk_42_method_66_code 2 = .ok (.if_acmp .ne 5, 3) := by decide +kernel
theorem d6_7 : decode jdk_42_method_66_code 7 = .ok (.aload_n 1, 1) := by decide +kernel
theorem d6_8 : decode jdk_42_method_66_code 8 = .ok (.instanceof 10, 3) := by decide +kernel
theorem d6_11 : decode jdk_42_method_66_code 11 = .ok (.ifCond .eq 43, 3) := by decide +kernel
theorem d6_14 : decode jdk_42_method_66_code 14 = .ok (.aload_n 1, 1) := by decide +kernel
theorem d6_15 : decode jdk_42_method_66_code 15 = .ok (.checkcast 10, 3) := by decide +kernel
theorem d6_18 : decode jdk_42_method_66_code 18 = .ok (.astore_n 2, 1) := by decide +kernel
theorem d6_19 : decode jdk_42_method_66_code 19 = .ok (.getstatic 38, 3) := by decide +kernel
theorem d6_22 : decode jdk_42_method_66_code 22 = .ok (.ifCond .eq 14, 3) := by decide +kernel
theorem d6_25 : decode jdk_42_method_66_code 25 = .ok (.aload_n 0, 1) := by decide +kernel
theorem d6_26 : decode jdk_42_method_66_code 26 = .ok (.getfield 15, 3) := by decide +kernel
theorem d6_29 : decode jdk_42_method_66_code 29 = .ok (.aload_n 2, 1) := by decide +kernel
theorem d6_30 : decode jdk_42_method_66_code 30 = .ok (.getfield 15, 3) := by decide +kernel
theorem d6_33 : decode jdk_42_method_66_code 33 = .ok (.if_icmp .ne 21, 3) := by decide +kernel
theorem d6_36 : decode jdk_42_method_66_code 36 = .ok (.aload_n 0, 1) := by decide +kernel
theorem d6_37 : decode jdk_42_method_66_code 37 = .ok (.getfield 9, 3) := by decide +kernel
theorem d6_40 : decode jdk_42_method_66_code 40 = .ok (.aload_n 2, 1) := by decide +kernel
theorem d6_41 : decode jdk_42_method_66_code 41 = .ok (.getfield 9, 3) := by decide +kernel
theorem pd_311 : parseMethodDescriptor "([B[B)Z" = some ⟨[(.array .byte), (.array .byte)], some .boolean⟩ := by decide +kernel
theorem d6_44 : decode jdk_42_method_66_code 44 = .ok (.invokestatic 541, 3) := by decide +kernel
theorem d6_47 : decode jdk_42_method_66_code 47 = .ok (.ifCond .eq 7, 3) := by decide +kernel
theorem d6_54 : decode jdk_42_method_66_code 54 = .ok (.iconst 0, 1) := by decide +kernel
theorem d6_55 : decode jdk_42_method_66_code 55 = .ok (.ireturn, 1) := by decide +kernel
def Q_rmSeqNe (Z : State) (a : Addr) (b : Addr) (av : Addr) (bv : Addr) (ka : ClassId) (kb : ClassId) (n : Int32) (n2 : Int32) (vs : List Value) (ws2 : List Value) (cs : Int32) (h0 : Heap) (n0 : Nat) (v : Option Value) (h : Heap) (L : List Loc) : Prop := v = some (.int 0) ∧ Fr n0 L ∧ h = h0
set_option maxRecDepth 65536 in
set_option maxHeartbeats 40000000 in
theorem rmSeqNe (l : Launch) (Z : State) (a0 : Array Value) (hw : ∀ d ∈ tables_1, d.before a0 Z = true) (ws : List Jvm.Cond) (a : Addr) (b : Addr) (av : Addr) (bv : Addr) (ka : ClassId) (kb : ClassId) (n : Int32) (n2 : Int32) (vs : List Value) (ws2 : List Value) (cs : Int32) (h0 : Heap) (n0 : Nat) (Z0 : n0 ≤ h0.size) (O0 : Old Z n0 h0) (F_a_coder : Fld Z h0 a "java/lang/String" "coder" "B" (.int 0)) (F_a_value : Fld Z h0 a "java/lang/String" "value" "[B" (.ref av)) (V_av : Arv Z h0 av ka .byte n vs (.int 0)) (E_b : Exa Z h0 b "java/lang/String") (F_b_coder : Fld Z h0 b "java/lang/String" "coder" "B" (.int 0)) (F_b_value : Fld Z h0 b "java/lang/String" "value" "[B" (.ref bv)) (V_bv : Arv Z h0 bv kb .byte n2 ws2 (.int 0)) (hne : (¬ n = n2)) (hne2 : (n.toNatClampNeg ≠ n2.toNatClampNeg)) (S_cs : Sta Z Z.heap "java/lang/String" "COMPACT_STRINGS" "Z" (.int cs)) (n_cs : ¬ cs = 0) :
    MetFree l (⟨"java/lang/String", "equals", "(Ljava/lang/Object;)Z"⟩ : MethodName) (head1 (Jvm.Cond.code (⟨"java/lang/String", "equals", "(Ljava/lang/Object;)Z"⟩ : MethodName) jdk_42_method_66_code 3 (some .boolean) :: ws) ({ frames := 1, cells := 0, slots := 0, locals := 14 } : Room)) (fun as' U => as' = #[(.ref a), (.ref b)] ∧ Z.Warmed39 U.vm ∧ U.heap = h0) (fun _ _ _ _ _ => True) (fun _ U o U' => ∃ v L, o = .returned v ∧ Q_rmSeqNe Z a b av bv ka kb n n2 vs ws2 cs h0 n0 v U'.heap L ∧ FrameEnd U o U' L ({ frames := 1, cells := 0, slots := 0, locals := 14 } : Room).cells ({ frames := 1, cells := 0, slots := 0, locals := 14 } : Room).slots) := by
  refine MetFree.of_bodySF (plainFor_of_name pn_1) hisR ?_
  intro p e s m args below meth c s₁ Bd hml0 hP hK
  obtain ⟨rfl, hZ, hh⟩ := hP
  have hx := Bd.exec
  have hby := Bd.bytes
  have hml : c.maxLocals = 3 := hml0
  have hown : s.vm.findClass "java/lang/String" = some m.cls := findClass_of_methodNamed Bd.named
  have hnm := (name_of_methodNamed Bd.named Bd.method).1
  have X0 : Stand p l e ({ frames := 1, cells := 0, slots := 0, locals := 14 } : Room) s m #[(.ref a), (.ref b)] below meth c s₁ [] 0 0 := Stand.of_body Bd
  have e0 : s₁.heap = h0 := by rw [← hh, Bd.state]; rfl
  have N0 := Fr.nil n0
  refine Go.enter (F := EndN s (Q_rmSeqNe Z a b av bv ka kb n n2 vs ws2 cs h0 n0) ({ frames := 1, cells := 0, slots := 0, locals := 14 } : Room).cells ({ frames := 1, cells := 0, slots := 0, locals := 14 } : Room).slots) (ef_283 m a b) ?_
  show Go _ _ _ _ s₁ (mkF m 0 #[rv a, rv b, un] [])
  have hab : a ≠ b := own_str_ne F_a_value F_b_value V_av V_bv hne2
  refine Go.aload1 1 X0 hx (hb hby d6_0) rfl rfl rfl ?_
  refine Go.aload1 2 X0 hx (hb hby d6_1) rfl rfl rfl ?_
  refine Go.by (fun _ gk => XT.acmpYes X0.here hx rfl (pc0 := 2) (pc' := 7) rfl (hb hby d6_2) rfl rfl rfl (XT.aa_ne_t (fun q => hab (Value.ref.inj q))) (by decide) (by decide) gk) ?_
  show Go _ _ _ _ s₁ (mkF m 7 #[rv a, rv b, un] [])
  refine Go.aload1 8 X0 hx (hb hby d6_7) rfl rfl rfl ?_
  obtain ⟨T1, X1, e1, st1⟩ := instY X0 hx hZ hown (ow hw 36 rfl) e0 (Ins.self E_b) (g := (mkF m 8 #[rv a, rv b, un] [(.ref b)])) rfl rfl (hb hby d6_8)
  refine Go.by st1 ?_
  show Go _ _ _ _ T1 (mkF m 11 #[rv a, rv b, un] [(.int 1)])
  refine Go.ifN 14 X1 hx (hb hby d6_11) (XT.i0_eq_f (by decide)) rfl ?_
  refine Go.aload1 15 X1 hx (hb hby d6_14) rfl rfl rfl ?_
  obtain ⟨T2, X2, e2, st2⟩ := castY X1 hx hZ hown (ow hw 36 rfl) e1 (Ins.self E_b) (g := (mkF m 15 #[rv a, rv b, un] [(.ref b)])) rfl rfl (hb hby d6_15)
  refine Go.by st2 ?_
  show Go _ _ _ _ T2 (mkF m 18 #[rv a, rv b, un] [(.ref b)])
  refine Go.astore1 19 X2 hx (L' := #[rv a, rv b, rv b]) (hb hby d6_18) rfl rfl rfl ?_
  have F3 : Sta Z h0 "java/lang/String" "COMPACT_STRINGS" "Z" (.int cs) := S_cs.ext O0.2
  obtain ⟨T4, X4, e4, st4⟩ := getS2 X2 hx hZ hown (host := "") (Or.inl (ow hw 37 rfl)) Via.refl e2 F3 (g := (mkF m 19 #[rv a, rv b, rv b] [])) rfl (hb hby d6_19)
  refine Go.by st4 ?_
  show Go _ _ _ _ T4 (mkF m 22 #[rv a, rv b, rv b] [(.int cs)])
  refine Go.ifN 25 X4 hx (hb hby d6_22) (XT.i0_eq_f n_cs) rfl ?_
  refine Go.aload1 26 X4 hx (hb hby d6_25) rfl rfl rfl ?_
  obtain ⟨T5, X5, e5, st5⟩ := getF X4 hx hZ hown (host := "") (Or.inl (ow hw 25 rfl)) Via.refl e4 F_a_coder (g := (mkF m 26 #[rv a, rv b, rv b] [(.ref a)])) rfl rfl (hb hby d6_26)
  refine Go.by st5 ?_
  show Go _ _ _ _ T5 (mkF m 29 #[rv a, rv b, rv b] [(.int 0)])
  refine Go.aload1 30 X5 hx (hb hby d6_29) rfl rfl rfl ?_
  obtain ⟨T6, X6, e6, st6⟩ := getF X5 hx hZ hown (host := "") (Or.inl (ow hw 25 rfl)) Via.refl e5 F_b_coder (g := (mkF m 30 #[rv a, rv b, rv b] [(.ref b), (.int 0)])) rfl rfl (hb hby d6_30)
  refine Go.by st6 ?_
  show Go _ _ _ _ T6 (mkF m 33 #[rv a, rv b, rv b] [(.int 0), (.int 0)])
  refine Go.icmpN 36 X6 hx (hb hby d6_33) (XT.ii_ne_f rfl) rfl ?_
  refine Go.aload1 37 X6 hx (hb hby d6_36) rfl rfl rfl ?_
  obtain ⟨T7, X7, e7, st7⟩ := getF X6 hx hZ hown (host := "") (Or.inl (ow hw 24 rfl)) Via.refl e6 F_a_value (g := (mkF m 37 #[rv a, rv b, rv b] [(.ref a)])) rfl rfl (hb hby d6_37)
  refine Go.by st7 ?_
  show Go _ _ _ _ T7 (mkF m 40 #[rv a, rv b, rv b] [(.ref av)])
  refine Go.aload1 41 X7 hx (hb hby d6_40) rfl rfl rfl ?_
  obtain ⟨T8, X8, e8, st8⟩ := getF X7 hx hZ hown (host := "") (Or.inl (ow hw 24 rfl)) Via.refl e7 F_b_value (g := (mkF m 41 #[rv a, rv b, rv b] [(.ref b), (.ref av)])) rfl rfl (hb hby d6_41)
  refine Go.by st8 ?_
  show Go _ _ _ _ T8 (mkF m 44 #[rv a, rv b, rv b] [(.ref bv), (.ref av)])
  obtain ⟨_, _, ⟨T9, L9, k9, n9⟩, -, X9, ⟨Lc9, hQ9, l9, y9, z9⟩, st9⟩ := Jvm.LawKit.callS X8 hx (y := (⟨"java/lang/StringLatin1", "equals", "([B[B)Z"⟩ : MethodName)) hown (mvT hZ (ow hw 38 rfl)) (mvT hZ (ow hw 39 rfl)) (mvT hZ (ow hw 40 rfl)) (mvT hZ (ow hw 41 rfl)) (by decide) (backOf (W := 0) (rmLeqNe l Z a0 hw [] av bv ka kb n n2 vs ws2 h0 n0 Z0 V_av V_bv hne) hZ (ow hw 41 rfl) (ow hw 40 rfl) (by decide) (by decide)) (g := (mkF m 44 #[rv a, rv b, rv b] [(.ref bv), (.ref av)])) rfl (by rw [hml]; rfl) (argsL := [(.ref av), (.ref bv)]) (rest := []) (lenOf pd_311 rfl) rfl (by show 2 * 0 + _ ≤ _; exact Nat.le_of_eq rfl) (hb hby d6_44) (fun _ _ => ⟨rfl, e8, (by decide : 0 + 0 ≤ _), (by decide : 0 + 0 ≤ _)⟩)
  dsimp only [Pt.U, Pt.locs, Pt.cells, Pt.slots] at X9 l9 y9 z9 st9 hQ9
  subst l9 y9 z9
  obtain ⟨rfl, N9q, e9⟩ := hQ9
  have N9 := Fr.app N0 N9q
  refine Go.by st9 ?_
  show Go _ _ _ _ T9 (mkF m 47 #[rv a, rv b, rv b] [(.int 0)])
  refine Go.ifY 54 X9 hx (hb hby d6_47) (XT.i0_eq_t rfl) (by decide) (by decide) ?_
  refine Go.iconst 55 X9 hx (0 : Int32) (hb hby d6_54) (by decide) rfl ?_
  exact Go.retI X9 hx Bd.notSynchronized Bd.returns rfl (by simp) (hb hby d6_55) (by rw [e9]; exact ⟨rfl, N9, rfl⟩) (by decide) (by decide)
theorem pn_316 : plainName "com/example/entries_to_nodes/entriestonodes/xml/XsBoolean" = true := by first | (simp [plainName, overriddenIn]; done) | decide +kernel
theorem ef_317 (m : MethodId) (x0 : Addr) : entryFrame m #[(.ref x0)] 2 = mkF m 0 #[rv x0, un] [] := by (first | (simp [entryFrame, mkF, argsToLocals, Value.category]; done) | rfl)
theorem d5_0 : decode prog_27_method_2_code 0 = .ok (.aconst_null, 1) := by decide +kernel
theorem d5_1 : decode prog_27_method_2_code 1 = .ok (.astore_n 1, 1) := by decide +kernel
theorem d5_2 : decode prog_27_method_2_code 2 = .ok (.aload_n 0, 1) := by decide +kernel
theorem d5_3 : decode prog_27_method_2_code 3 = .ok (.ldc 7, 2) := by decide +kernel
theorem pd_322 : parseMethodDescriptor "(Ljava/lang/Object;)Z" = some ⟨[(.object "java/lang/Object")], some .boolean⟩ := by decide +kernel
theorem d5_5 : decode prog_27_method_2_code 5 = .ok (.invokevirtual 9, 3) := by decide +kernel
theorem d5_8 : decode prog_27_method_2_code 8 = .ok (.ifCond .ne 12, 3) := by decide +kernel
theorem d5_11 : decode prog_27_method_2_code 11 = .ok (.aload_n 0, 1) := by decide +kernel
theorem d5_12 : decode prog_27_method_2_code 12 = .ok (.ldc 15, 2) := by decide +kernel
theorem d5_14 : decode prog_27_method_2_code 14 = .ok (.invokevirtual 9, 3) := by decide +kernel
theorem d5_17 : decode prog_27_method_2_code 17 = .ok (.ifCond .eq 10, 3) := by decide +kernel
theorem d5_27 : decode prog_27_method_2_code 27 = .ok (.aload_n 0, 1) := by decide +kernel
theorem d5_28 : decode prog_27_method_2_code 28 = .ok (.ldc 23, 2) := by decide +kernel
theorem d5_30 : decode prog_27_method_2_code 30 = .ok (.invokevirtual 9, 3) := by decide +kernel
theorem d5_33 : decode prog_27_method_2_code 33 = .ok (.ifCond .ne 12, 3) := by decide +kernel
theorem d5_36 : decode prog_27_method_2_code 36 = .ok (.aload_n 0, 1) := by decide +kernel
theorem d5_37 : decode prog_27_method_2_code 37 = .ok (.ldc 25, 2) := by decide +kernel
theorem d5_39 : decode prog_27_method_2_code 39 = .ok (.invokevirtual 9, 3) := by decide +kernel
theorem d5_42 : decode prog_27_method_2_code 42 = .ok (.ifCond .eq 7, 3) := by decide +kernel
theorem d5_49 : decode prog_27_method_2_code 49 = .ok (.aload_n 1, 1) := by decide +kernel
theorem d5_50 : decode prog_27_method_2_code 50 = .ok (.areturn, 1) := by decide +kernel
def Q_rmRead0 (Z : State) (a : Addr) (av : Addr) (ka : ClassId) (cs : Int32) (bT : Addr) (bF : Addr) (h0 : Heap) (n0 : Nat) (v : Option Value) (h : Heap) (L : List Loc) : Prop := ∃ rz : Value, v = some rz ∧ Fr n0 L ∧ Keep h0 h [] ∧ (((True) ∧ rz = .null))
set_option maxRecDepth 65536 in
set_option maxHeartbeats 40000000 in
theorem rmRead0 (l : Launch) (Z : State) (a0 : Array Value) (hw : ∀ d ∈ tables_1, d.before a0 Z = true) (ws : List Jvm.Cond) (a : Addr) (av : Addr) (ka : ClassId) (cs : Int32) (bT : Addr) (bF : Addr) (h0 : Heap) (n0 : Nat) (Z0 : n0 ≤ h0.size) (O0 : Old Z n0 h0) (E_a : Exa Z h0 a "java/lang/String") (F_a_coder : Fld Z h0 a "java/lang/String" "coder" "B" (.int 0)) (F_a_value : Fld Z h0 a "java/lang/String" "value" "[B" (.ref av)) (V_av : Arv Z h0 av ka .byte (0 : Int32) ([]) (.int 0)) (S_cs : Sta Z Z.heap "java/lang/String" "COMPACT_STRINGS" "Z" (.int cs)) (n_cs : ¬ cs = 0) (B0 : Sta Z Z.heap "java/lang/Boolean" "TRUE" "Ljava/lang/Boolean;" (.ref bT)) (B1 : Exa Z Z.heap bT "java/lang/Boolean") (B2 : Fld Z Z.heap bT "java/lang/Boolean" "value" "Z" (.int 1)) (B3 : Sta Z Z.heap "java/lang/Boolean" "FALSE" "Ljava/lang/Boolean;" (.ref bF)) (B4 : Exa Z Z.heap bF "java/lang/Boolean") (B5 : Fld Z Z.heap bF "java/lang/Boolean" "value" "Z" (.int 0)) :
    MetFree l (⟨"com/example/entries_to_nodes/entriestonodes/xml/XsBoolean", "read", "(Ljava/lang/String;)Ljava/lang/Boolean;"⟩ : MethodName) (head1 (Jvm.Cond.code (⟨"com/example/entries_to_nodes/entriestonodes/xml/XsBoolean", "read", "(Ljava/lang/String;)Ljava/lang/Boolean;"⟩ : MethodName) prog_27_method_2_code 2 (some (.object "java/lang/Boolean")) :: ws) ({ frames := 2, cells := 8, slots := 60, locals := 28 } : Room)) (fun as' U => as' = #[(.ref a)] ∧ Z.Warmed39 U.vm ∧ U.heap = h0 ∧ CHv Z own_EL U.vm h0) (fun _ _ _ _ _ => True) (fun _ U o U' => ∃ v L, o = .returned v ∧ Q_rmRead0 Z a av ka cs bT bF h0 n0 v U'.heap L ∧ CHr Z own_EL U.vm U.heap U'.vm U'.heap ∧ ReturnedEndW U o U' L ({ frames := 2, cells := 8, slots := 60, locals := 28 } : Room).cells ({ frames := 2, cells := 8, slots := 60, locals := 28 } : Room).slots) := by
  refine MetFree.of_bodySF (plainFor_of_name pn_316) hisR ?_
  intro p e s m args below meth c s₁ Bd hml0 hP hK
  obtain ⟨rfl, hZ, hh, hH⟩ := hP
  have hx := Bd.exec
  have hby := Bd.bytes
  have hml : c.maxLocals = 2 := hml0
  have hown : s.vm.findClass "com/example/entries_to_nodes/entriestonodes/xml/XsBoolean" = some m.cls := findClass_of_methodNamed Bd.named
  have hnm := (name_of_methodNamed Bd.named Bd.method).1
  have X0 : Stand p l e ({ frames := 2, cells := 8, slots := 60, locals := 28 } : Room) (s.setVm s.vm) m #[(.ref a)] below meth c s₁ [] 0 0 := Stand.of_body Bd
  have e0 : s₁.heap = h0 := by rw [← hh, Bd.state]; rfl
  have N0 := Fr.nil n0
  have hS0 : s.Since s.vm s.heap.size := (State.WarmedH.refl s).since _
  have hk0 : s.heap.size ≤ h0.size := Nat.le_of_eq (by rw [hh])
  have C0 : CHr Z own_EL s.vm h0 s.vm h0 := CHr.refl hH
  have hEL := own_EW hw
  have hSA := own_SA hw
  refine Go.enter (F := EndW Z own_EL s (Q_rmRead0 Z a av ka cs bT bF h0 n0) ({ frames := 2, cells := 8, slots := 60, locals := 28 } : Room).cells ({ frames := 2, cells := 8, slots := 60, locals := 28 } : Room).slots) (ef_317 m a) ?_
  show Go _ _ _ _ s₁ (mkF m 0 #[rv a, un] [])
  refine Go.aconst_null 1 X0 hx (hb hby d5_0) rfl ?_
  refine Go.astore1 2 X0 hx (L' := #[rv a, .val .null]) (hb hby d5_1) rfl rfl rfl ?_
  refine Go.aload1 3 X0 hx (hb hby d5_2) rfl rfl rfl ?_
  obtain ⟨ql0, T1, h1, kq1, qb0, k1, X1, e1, E1, hS1, hk1, hZ1, hown1, Ea1, Fc1, Fv1, Va1, -, -, CH1, -, sf1, st1⟩ := ldcCH X0 hx hZ hown (ow hw 30 rfl) hSA e0 hS0 hk0 hEL (List.mem_of_getElem? (i := 0) rfl) C0.1 (vs := [(.int 116), (.int 114), (.int 117), (.int 101)]) (z := (4 : Int32)) ⟨by decide, by decide⟩ (by decide) rfl (g := (mkF m 3 #[rv a, .val .null] [(.ref a)])) rfl (hb hby d5_3) (n := 16) (by decide) (by decide) (by decide) (by decide)
  have C2 : CHr Z own_EL s.vm h0 T1.vm h1 := C0.trans CH1
  refine Go.by st1 ?_
  show Go _ _ _ _ T1 (mkF m 5 #[rv a, .val .null] [(.ref ql0), (.ref a)])
  have F3 : Old Z n0 h1 := O0.ext E1
  have F4 : Fld Z h1 a "java/lang/String" "coder" "B" (.int 0) := F_a_coder.ext E1
  have F5 : Fld Z h1 a "java/lang/String" "value" "[B" (.ref av) := F_a_value.ext E1
  have F6 : Arv Z h1 av ka .byte (0 : Int32) [] (.int 0) := V_av.ext E1
  have F7 : n0 ≤ h1.size := Nat.le_trans Z0 E1.1
  have F9 : Exa Z h1 a "java/lang/String" := E_a.ext E1
  obtain ⟨cq8, kq8, q8a, q8b, q8c⟩ := isOf hZ1 e1 F9
  obtain ⟨_, _, ⟨T8, L8, k8, n8⟩, -, X8, ⟨Lc8, hQ8, l8, y8, z8⟩, st8⟩ := X1.virtualBack hx (y := (⟨"java/lang/String", "equals", "(Ljava/lang/Object;)Z"⟩ : MethodName)) (z := (⟨"java/lang/String", "equals", "(Ljava/lang/Object;)Z"⟩ : MethodName)) hown1 (mvT hZ1 (ow hw 31 rfl)) (mvT hZ1 (ow hw 32 rfl)) (notFace_of_selects (args := #[]) (mvT hZ1 (ow hw 34 rfl))) (mvT hZ1 (ow hw 34 rfl)) (mvT hZ1 (ow hw 33 rfl)) (by decide) (backOf (W := 0) (rmSeqNe l Z a0 hw [] a ql0 av qb0 ka k1 (0 : Int32) (4 : Int32) ([]) ([(.int 116), (.int 114), (.int 117), (.int 101)]) cs h1 n0 F7 F3 F4 F5 F6 Ea1 Fc1 Fv1 Va1 (by decide) (by decide) S_cs n_cs) hZ1 (ow hw 35 rfl) (ow hw 7 rfl) (by decide) (by decide)) q8a q8c (g := (mkF m 5 #[rv a, .val .null] [(.ref ql0), (.ref a)])) rfl (by rw [hml]; rfl) (Steps.refl _) (argsL := [(.ref ql0)]) (rest := []) (lenOf pd_322 rfl) rfl (by show 2 * 0 + _ ≤ _; exact Nat.le_of_eq rfl) (hb hby d5_5) (fun _ _ => ⟨rfl, e1, (by decide : 2 + 0 ≤ _), (by decide : 20 + 0 ≤ _)⟩)
  dsimp only [Pt.U, Pt.locs, Pt.cells, Pt.slots] at X8 l8 y8 z8 st8 hQ8
  subst l8 y8 z8
  obtain ⟨rfl, N8q, e8⟩ := hQ8
  have N8 := Fr.app N0 N8q
  refine Go.to st8 ?_
  show Go _ _ _ _ T8 (mkF m 8 #[rv a, .val .null] [(.int 0)])
  refine Go.ifN 11 X8 hx (hb hby d5_8) (XT.i0_ne_f rfl) rfl ?_
  refine Go.aload1 12 X8 hx (hb hby d5_11) rfl rfl rfl ?_
  obtain ⟨ql1, T10, h10, kq10, qb1, k10, X10, e10, E10, hS10, hk10, hZ10, hown10, Ea10, Fc10, Fv10, Va10, -, -, CH10, -, sf10, st10⟩ := ldcCH X8 hx hZ1 hown1 (ow hw 42 rfl) hSA e8 hS1 hk1 hEL (List.mem_of_getElem? (i := 1) rfl) C2.1 (vs := [(.int 49)]) (z := (1 : Int32)) ⟨by decide, by decide⟩ (by decide) rfl (g := (mkF m 12 #[rv a, .val .null] [(.ref a)])) rfl (hb hby d5_12) (n := 4) (by decide) (by decide) (by decide) (by decide)
  have C11 : CHr Z own_EL s.vm h0 T10.vm h10 := C2.trans CH10
  refine Go.by st10 ?_
  show Go _ _ _ _ T10 (mkF m 14 #[rv a, .val .null] [(.ref ql1), (.ref a)])
  have F12 : Old Z n0 h10 := F3.ext E10
  have F13 : Fld Z h10 a "java/lang/String" "coder" "B" (.int 0) := F4.ext E10
  have F14 : Fld Z h10 a "java/lang/String" "value" "[B" (.ref av) := F5.ext E10
  have F15 : Arv Z h10 av ka .byte (0 : Int32) [] (.int 0) := F6.ext E10
  have F16 : n0 ≤ h10.size := Nat.le_trans F7 E10.1
  have F18 : Exa Z h10 a "java/lang/String" := F9.ext E10
  obtain ⟨cq17, kq17, q17a, q17b, q17c⟩ := isOf hZ10 e10 F18
  obtain ⟨_, _, ⟨T17, L17, k17, n17⟩, -, X17, ⟨Lc17, hQ17, l17, y17, z17⟩, st17⟩ := X10.virtualBack hx (y := (⟨"java/lang/String", "equals", "(Ljava/lang/Object;)Z"⟩ : MethodName)) (z := (⟨"java/lang/String", "equals", "(Ljava/lang/Object;)Z"⟩ : MethodName)) hown10 (mvT hZ10 (ow hw 31 rfl)) (mvT hZ10 (ow hw 32 rfl)) (notFace_of_selects (args := #[]) (mvT hZ10 (ow hw 34 rfl))) (mvT hZ10 (ow hw 34 rfl)) (mvT hZ10 (ow hw 33 rfl)) (by decide) (backOf (W := 0) (rmSeqNe l Z a0 hw [] a ql1 av qb1 ka k10 (0 : Int32) (1 : Int32) ([]) ([(.int 49)]) cs h10 n0 F16 F12 F13 F14 F15 Ea10 Fc10 Fv10 Va10 (by decide) (by decide) S_cs n_cs) hZ10 (ow hw 35 rfl) (ow hw 7 rfl) (by decide) (by decide)) q17a q17c (g := (mkF m 14 #[rv a, .val .null] [(.ref ql1), (.ref a)])) rfl (by rw [hml]; rfl) (Steps.refl _) (argsL := [(.ref ql1)]) (rest := []) (lenOf pd_322 rfl) rfl (by show 2 * 0 + _ ≤ _; exact Nat.le_of_eq rfl) (hb hby d5_14) (fun _ _ => ⟨rfl, e10, (by decide : 4 + 0 ≤ _), (by decide : 28 + 0 ≤ _)⟩)
  dsimp only [Pt.U, Pt.locs, Pt.cells, Pt.slots] at X17 l17 y17 z17 st17 hQ17
  subst l17 y17 z17
  obtain ⟨rfl, N17q, e17⟩ := hQ17
  have N17 := Fr.app N8 N17q
  refine Go.to st17 ?_
  show Go _ _ _ _ T17 (mkF m 17 #[rv a, .val .null] [(.int 0)])
  refine Go.ifY 27 X17 hx (hb hby d5_17) (XT.i0_eq_t rfl) (by decide) (by decide) ?_
  refine Go.aload1 28 X17 hx (hb hby d5_27) rfl rfl rfl ?_
  obtain ⟨ql2, T19, h19, kq19, qb2, k19, X19, e19, E19, hS19, hk19, hZ19, hown19, Ea19, Fc19, Fv19, Va19, -, -, CH19, -, sf19, st19⟩ := ldcCH X17 hx hZ10 hown10 (ow hw 43 rfl) hSA e17 hS10 hk10 hEL (List.mem_of_getElem? (i := 2) rfl) C11.1 (vs := [(.int 102), (.int 97), (.int 108), (.int 115), (.int 101)]) (z := (5 : Int32)) ⟨by decide, by decide⟩ (by decide) rfl (g := (mkF m 28 #[rv a, .val .null] [(.ref a)])) rfl (hb hby d5_28) (n := 20) (by decide) (by decide) (by decide) (by decide)
  have C20 : CHr Z own_EL s.vm h0 T19.vm h19 := C11.trans CH19
  refine Go.by st19 ?_
  show Go _ _ _ _ T19 (mkF m 30 #[rv a, .val .null] [(.ref ql2), (.ref a)])
  have F21 : Old Z n0 h19 := F12.ext E19
  have F22 : Fld Z h19 a "java/lang/String" "coder" "B" (.int 0) := F13.ext E19
  have F23 : Fld Z h19 a "java/lang/String" "value" "[B" (.ref av) := F14.ext E19
  have F24 : Arv Z h19 av ka .byte (0 : Int32) [] (.int 0) := F15.ext E19
  have F25 : n0 ≤ h19.size := Nat.le_trans F16 E19.1
  have F27 : Exa Z h19 a "java/lang/String" := F18.ext E19
  obtain ⟨cq26, kq26, q26a, q26b, q26c⟩ := isOf hZ19 e19 F27
  obtain ⟨_, _, ⟨T26, L26, k26, n26⟩, -, X26, ⟨Lc26, hQ26, l26, y26, z26⟩, st26⟩ := X19.virtualBack hx (y := (⟨"java/lang/String", "equals", "(Ljava/lang/Object;)Z"⟩ : MethodName)) (z := (⟨"java/lang/String", "equals", "(Ljava/lang/Object;)Z"⟩ : MethodName)) hown19 (mvT hZ19 (ow hw 31 rfl)) (mvT hZ19 (ow hw 32 rfl)) (notFace_of_selects (args := #[]) (mvT hZ19 (ow hw 34 rfl))) (mvT hZ19 (ow hw 34 rfl)) (mvT hZ19 (ow hw 33 rfl)) (by decide) (backOf (W := 0) (rmSeqNe l Z a0 hw [] a ql2 av qb2 ka k19 (0 : Int32) (5 : Int32) ([]) ([(.int 102), (.int 97), (.int 108), (.int 115), (.int 101)]) cs h19 n0 F25 F21 F22 F23 F24 Ea19 Fc19 Fv19 Va19 (by decide) (by decide) S_cs n_cs) hZ19 (ow hw 35 rfl) (ow hw 7 rfl) (by decide) (by decide)) q26a q26c (g := (mkF m 30 #[rv a, .val .null] [(.ref ql2), (.ref a)])) rfl (by rw [hml]; rfl) (Steps.refl _) (argsL := [(.ref ql2)]) (rest := []) (lenOf pd_322 rfl) rfl (by show 2 * 0 + _ ≤ _; exact Nat.le_of_eq rfl) (hb hby d5_30) (fun _ _ => ⟨rfl, e19, (by decide : 6 + 0 ≤ _), (by decide : 52 + 0 ≤ _)⟩)
  dsimp only [Pt.U, Pt.locs, Pt.cells, Pt.slots] at X26 l26 y26 z26 st26 hQ26
  subst l26 y26 z26
  obtain ⟨rfl, N26q, e26⟩ := hQ26
  have N26 := Fr.app N17 N26q
  refine Go.to st26 ?_
  show Go _ _ _ _ T26 (mkF m 33 #[rv a, .val .null] [(.int 0)])
  refine Go.ifN 36 X26 hx (hb hby d5_33) (XT.i0_ne_f rfl) rfl ?_
  refine Go.aload1 37 X26 hx (hb hby d5_36) rfl rfl rfl ?_
  obtain ⟨ql3, T28, h28, kq28, qb3, k28, X28, e28, E28, hS28, hk28, hZ28, hown28, Ea28, Fc28, Fv28, Va28, -, -, CH28, -, sf28, st28⟩ := ldcCH X26 hx hZ19 hown19 (ow hw 44 rfl) hSA e26 hS19 hk19 hEL (List.mem_of_getElem? (i := 3) rfl) C20.1 (vs := [(.int 48)]) (z := (1 : Int32)) ⟨by decide, by decide⟩ (by decide) rfl (g := (mkF m 37 #[rv a, .val .null] [(.ref a)])) rfl (hb hby d5_37) (n := 4) (by decide) (by decide) (by decide) (by decide)
  have C29 : CHr Z own_EL s.vm h0 T28.vm h28 := C20.trans CH28
  refine Go.by st28 ?_
  show Go _ _ _ _ T28 (mkF m 39 #[rv a, .val .null] [(.ref ql3), (.ref a)])
  have F30 : Old Z n0 h28 := F21.ext E28
  have F31 : Fld Z h28 a "java/lang/String" "coder" "B" (.int 0) := F22.ext E28
  have F32 : Fld Z h28 a "java/lang/String" "value" "[B" (.ref av) := F23.ext E28
  have F33 : Arv Z h28 av ka .byte (0 : Int32) [] (.int 0) := F24.ext E28
  have F34 : n0 ≤ h28.size := Nat.le_trans F25 E28.1
  have F36 : Exa Z h28 a "java/lang/String" := F27.ext E28
  obtain ⟨cq35, kq35, q35a, q35b, q35c⟩ := isOf hZ28 e28 F36
  obtain ⟨_, _, ⟨T35, L35, k35, n35⟩, -, X35, ⟨Lc35, hQ35, l35, y35, z35⟩, st35⟩ := X28.virtualBack hx (y := (⟨"java/lang/String", "equals", "(Ljava/lang/Object;)Z"⟩ : MethodName)) (z := (⟨"java/lang/String", "equals", "(Ljava/lang/Object;)Z"⟩ : MethodName)) hown28 (mvT hZ28 (ow hw 31 rfl)) (mvT hZ28 (ow hw 32 rfl)) (notFace_of_selects (args := #[]) (mvT hZ28 (ow hw 34 rfl))) (mvT hZ28 (ow hw 34 rfl)) (mvT hZ28 (ow hw 33 rfl)) (by decide) (backOf (W := 0) (rmSeqNe l Z a0 hw [] a ql3 av qb3 ka k28 (0 : Int32) (1 : Int32) ([]) ([(.int 48)]) cs h28 n0 F34 F30 F31 F32 F33 Ea28 Fc28 Fv28 Va28 (by decide) (by decide) S_cs n_cs) hZ28 (ow hw 35 rfl) (ow hw 7 rfl) (by decide) (by decide)) q35a q35c (g := (mkF m 39 #[rv a, .val .null] [(.ref ql3), (.ref a)])) rfl (by rw [hml]; rfl) (Steps.refl _) (argsL := [(.ref ql3)]) (rest := []) (lenOf pd_322 rfl) rfl (by show 2 * 0 + _ ≤ _; exact Nat.le_of_eq rfl) (hb hby d5_39) (fun _ _ => ⟨rfl, e28, (by decide : 8 + 0 ≤ _), (by decide : 60 + 0 ≤ _)⟩)
  dsimp only [Pt.U, Pt.locs, Pt.cells, Pt.slots] at X35 l35 y35 z35 st35 hQ35
  subst l35 y35 z35
  obtain ⟨rfl, N35q, e35⟩ := hQ35
  have N35 := Fr.app N26 N35q
  refine Go.to st35 ?_
  show Go _ _ _ _ T35 (mkF m 42 #[rv a, .val .null] [(.int 0)])
  refine Go.ifY 49 X35 hx (hb hby d5_42) (XT.i0_eq_t rfl) (by decide) (by decide) ?_
  refine Go.aload1 50 X35 hx (hb hby d5_49) rfl rfl rfl ?_
  have F37 : Keep h0 h1 [] := (Keep.refl h0 []).ext E1
  have F38 : Keep h0 h10 [] := F37.ext E10
  have F39 : Keep h0 h19 [] := F38.ext E19
  have F40 : Keep h0 h28 [] := F39.ext E28
  exact Go.retAW X35 hx Bd.notSynchronized hS28 (by rw [e35]; exact hk28) hZ28 hEL (by rw [hh, e35]; exact C29) Bd.returns rfl rfl (hb hby d5_50) (by rw [e35]; exact ⟨.null, rfl, N35, F40, ⟨trivial, rfl⟩⟩) (by decide) (by decide)
theorem d7_7 : decode jdk_43_method_13_code 7 = .ok (.iconst 0, 1) := by decide +kernel
theorem d7_8 : decode jdk_43_method_13_code 8 = .ok (.istore_n 2, 1) := by decide +kernel
theorem d7_9 : decode jdk_43_method_13_code 9 = .ok (.iload_n 2, 1) := by decide +kernel
theorem d7_10 : decode jdk_43_method_13_code 10 = .ok (.aload_n 0, 1) := by decide +kernel
theorem d7_11 : decode jdk_43_method_13_code 11 = .ok (.arraylength, 1) := by decide +kernel
theorem d7_12 : decode jdk_43_method_13_code 12 = .ok (.if_icmp .ge 20, 3) := by decide +kernel
theorem d7_15 : decode jdk_43_method_13_code 15 = .ok (.aload_n 0, 1) := by decide +kernel
theorem d7_16 : decode jdk_43_method_13_code 16 = .ok (.iload_n 2, 1) := by decide +kernel
theorem d7_17 : decode jdk_43_method_13_code 17 = .ok (.baload, 1) := by decide +kernel
theorem d7_18 : decode jdk_43_method_13_code 18 = .ok (.aload_n 1, 1) := by decide +kernel
theorem d7_19 : decode jdk_43_method_13_code 19 = .ok (.iload_n 2, 1) := by decide +kernel
theorem d7_20 : decode jdk_43_method_13_code 20 = .ok (.baload, 1) := by decide +kernel
theorem d7_21 : decode jdk_43_method_13_code 21 = .ok (.if_icmp .eq 5, 3) := by decide +kernel
theorem d7_26 : decode jdk_43_method_13_code 26 = .ok (.iinc 2 1, 3) := by decide +kernel
theorem d7_29 : decode jdk_43_method_13_code 29 = .ok (.goto (-20), 3) := by decide +kernel
theorem d7_32 : decode jdk_43_method_13_code 32 = .ok (.iconst 1, 1) := by decide +kernel
theorem d7_33 : decode jdk_43_method_13_code 33 = .ok (.ireturn, 1) := by decide +kernel
theorem d7_24 : decode jdk_43_method_13_code 24 = .ok (.iconst 0, 1) := by decide +kernel
theorem d7_25 : decode jdk_43_method_13_code 25 = .ok (.ireturn, 1) := by decide +kernel
def Q_rmLeq1 (Z : State) (av : Addr) (bv : Addr) (ka : ClassId) (kb : ClassId) (xe0 : Int32) (ye0 : Int32) (h0 : Heap) (n0 : Nat) (v : Option Value) (h : Heap) (L : List Loc) : Prop := ∃ r : Int32, v = some (.int r) ∧ Fr n0 L ∧ h = h0 ∧ ((r = 1 ∧ (xe0 = ye0)) ∨ (r = 0 ∧ ¬ (xe0 = ye0)))
set_option maxRecDepth 65536 in
set_option maxHeartbeats 40000000 in
theorem rmLeq1 (l : Launch) (Z : State) (a0 : Array Value) (hw : ∀ d ∈ tables_1, d.before a0 Z = true) (ws : List Jvm.Cond) (av : Addr) (bv : Addr) (ka : ClassId) (kb : ClassId) (xe0 : Int32) (ye0 : Int32) (h0 : Heap) (n0 : Nat) (Z0 : n0 ≤ h0.size) (V_av : Arv Z h0 av ka .byte (1 : Int32) ([(.int xe0)]) (.int 0)) (V_bv : Arv Z h0 bv kb .byte (1 : Int32) ([(.int ye0)]) (.int 0)) :
    MetFree l (⟨"java/lang/StringLatin1", "equals", "([B[B)Z"⟩ : MethodName) (head1 (Jvm.Cond.code (⟨"java/lang/StringLatin1", "equals", "([B[B)Z"⟩ : MethodName) jdk_43_method_13_code 3 (some .boolean) :: ws) ({ frames := 0, cells := 0, slots := 0, locals := 0 } : Room)) (fun as' U => as' = #[(.ref av), (.ref bv)] ∧ Z.Warmed39 U.vm ∧ U.heap = h0) (fun _ _ _ _ _ => True) (fun _ U o U' => ∃ v L, o = .returned v ∧ Q_rmLeq1 Z av bv ka kb xe0 ye0 h0 n0 v U'.heap L ∧ FrameEnd U o U' L ({ frames := 0, cells := 0, slots := 0, locals := 0 } : Room).cells ({ frames := 0, cells := 0, slots := 0, locals := 0 } : Room).slots) := by
  refine MetFree.of_bodySF (plainFor_of_name pn_282) hisR ?_
  intro p e s m args below meth c s₁ Bd hml0 hP hK
  obtain ⟨rfl, hZ, hh⟩ := hP
  have hx := Bd.exec
  have hby := Bd.bytes
  have hml : c.maxLocals = 3 := hml0
  have hown : s.vm.findClass "java/lang/StringLatin1" = some m.cls := findClass_of_methodNamed Bd.named
  have hnm := (name_of_methodNamed Bd.named Bd.method).1
  have X0 : Stand p l e ({ frames := 0, cells := 0, slots := 0, locals := 0 } : Room) s m #[(.ref av), (.ref bv)] below meth c s₁ [] 0 0 := Stand.of_body Bd
  have e0 : s₁.heap = h0 := by rw [← hh, Bd.state]; rfl
  have N0 := Fr.nil n0
  refine Go.enter (F := EndN s (Q_rmLeq1 Z av bv ka kb xe0 ye0 h0 n0) ({ frames := 0, cells := 0, slots := 0, locals := 0 } : Room).cells ({ frames := 0, cells := 0, slots := 0, locals := 0 } : Room).slots) (ef_283 m av bv) ?_
  show Go _ _ _ _ s₁ (mkF m 0 #[rv av, rv bv, un] [])
  refine Go.aload1 1 X0 hx (hb hby d7_0) rfl rfl rfl ?_
  obtain ⟨cl1, Ar1, -, S1, M1, -, -⟩ := id V_av
  refine Go.by (fun _ gk => X0.arraylength hx (by rw [e0]; exact Ar1.1) (State.isArrayOf_alike hZ.alike Ar1.2.1) (g := (mkF m 1 #[rv av, rv bv, un] [(.ref av)])) rfl rfl (hb hby d7_1) _ gk) ?_
  rw [len_of S1 M1]
  show Go _ _ _ _ s₁ (mkF m 2 #[rv av, rv bv, un] [(.int 1)])
  refine Go.aload1 3 X0 hx (hb hby d7_2) rfl rfl rfl ?_
  obtain ⟨cl2, Ar2, -, S2, M2, -, -⟩ := id V_bv
  refine Go.by (fun _ gk => X0.arraylength hx (by rw [e0]; exact Ar2.1) (State.isArrayOf_alike hZ.alike Ar2.2.1) (g := (mkF m 3 #[rv av, rv bv, un] [(.ref bv), (.int 1)])) rfl rfl (hb hby d7_3) _ gk) ?_
  rw [len_of S2 M2]
  show Go _ _ _ _ s₁ (mkF m 4 #[rv av, rv bv, un] [(.int 1), (.int 1)])
  refine Go.icmpN 7 X0 hx (hb hby d7_4) (XT.ii_ne_f rfl) rfl ?_
  refine Go.iconst 8 X0 hx (0 : Int32) (hb hby d7_7) (by decide) rfl ?_
  refine Go.istore1 9 X0 hx (L' := #[rv av, rv bv, iv 0]) (hb hby d7_8) rfl rfl ?_
  refine Go.iload1 10 X0 hx (hb hby d7_9) rfl rfl ?_
  refine Go.aload1 11 X0 hx (hb hby d7_10) rfl rfl rfl ?_
  obtain ⟨cl3, Ar3, -, S3, M3, -, -⟩ := id V_av
  refine Go.by (fun _ gk => X0.arraylength hx (by rw [e0]; exact Ar3.1) (State.isArrayOf_alike hZ.alike Ar3.2.1) (g := (mkF m 11 #[rv av, rv bv, iv 0] [(.ref av), (.int 0)])) rfl rfl (hb hby d7_11) _ gk) ?_
  rw [len_of S3 M3]
  show Go _ _ _ _ s₁ (mkF m 12 #[rv av, rv bv, iv 0] [(.int 1), (.int 0)])
  refine Go.icmpN 15 X0 hx (hb hby d7_12) (XT.ii_ge_f (by decide)) rfl ?_
  refine Go.aload1 16 X0 hx (hb hby d7_15) rfl rfl rfl ?_
  refine Go.iload1 17 X0 hx (hb hby d7_16) rfl rfl ?_
  obtain ⟨cl4, Ar4, -, S4, M4, H4, -⟩ := id V_av
  have hin4 : ¬ ((0 : Int32) < 0 ∨ cl4.slots.size ≤ (0 : Int32).toNatClampNeg) := inb_of S4 ⟨by decide, by decide⟩
  refine Go.by (fun _ gk => X0.baloadBytes hx (j := (0 : Int32)) (v := (.int xe0)) (by rw [e0]; exact Ar4.1) (State.isArrayOf_alike hZ.alike Ar4.2.1) Ar4.2.2 hin4 (Has.at H4 hin4 rfl) (g := (mkF m 17 #[rv av, rv bv, iv 0] [(.int 0), (.ref av)])) rfl rfl (hb hby d7_17) _ gk) ?_
  show Go _ _ _ _ s₁ (mkF m 18 #[rv av, rv bv, iv 0] [(.int xe0)])
  refine Go.aload1 19 X0 hx (hb hby d7_18) rfl rfl rfl ?_
  refine Go.iload1 20 X0 hx (hb hby d7_19) rfl rfl ?_
  obtain ⟨cl5, Ar5, -, S5, M5, H5, -⟩ := id V_bv
  have hin5 : ¬ ((0 : Int32) < 0 ∨ cl5.slots.size ≤ (0 : Int32).toNatClampNeg) := inb_of S5 ⟨by decide, by decide⟩
  refine Go.by (fun _ gk => X0.baloadBytes hx (j := (0 : Int32)) (v := (.int ye0)) (by rw [e0]; exact Ar5.1) (State.isArrayOf_alike hZ.alike Ar5.2.1) Ar5.2.2 hin5 (Has.at H5 hin5 rfl) (g := (mkF m 20 #[rv av, rv bv, iv 0] [(.int 0), (.ref bv), (.int xe0)])) rfl rfl (hb hby d7_20) _ gk) ?_
  show Go _ _ _ _ s₁ (mkF m 21 #[rv av, rv bv, iv 0] [(.int ye0), (.int xe0)])
  by_cases hb6 : xe0 = ye0
  · refine Go.icmpY 26 X0 hx (hb hby d7_21) (XT.ii_eq_t hb6) (by decide) (by decide) ?_
    refine Go.iinc 29 X0 hx (1 : Int32) (L' := #[rv av, rv bv, iv 1]) (hb hby d7_26) (by decide) rfl rfl rfl ?_
    refine Go.goto 9 X0 hx (hb hby d7_29) (by decide) (by decide) ?_
    refine Go.iload1 10 X0 hx (hb hby d7_9) rfl rfl ?_
    refine Go.aload1 11 X0 hx (hb hby d7_10) rfl rfl rfl ?_
    obtain ⟨cl7, Ar7, -, S7, M7, -, -⟩ := id V_av
    refine Go.by (fun _ gk => X0.arraylength hx (by rw [e0]; exact Ar7.1) (State.isArrayOf_alike hZ.alike Ar7.2.1) (g := (mkF m 11 #[rv av, rv bv, iv 1] [(.ref av), (.int 1)])) rfl rfl (hb hby d7_11) _ gk) ?_
    rw [len_of S7 M7]
    show Go _ _ _ _ s₁ (mkF m 12 #[rv av, rv bv, iv 1] [(.int 1), (.int 1)])
    refine Go.icmpY 32 X0 hx (hb hby d7_12) (XT.ii_ge_t (by decide)) (by decide) (by decide) ?_
    refine Go.iconst 33 X0 hx (1 : Int32) (hb hby d7_32) (by decide) rfl ?_
    exact Go.retI X0 hx Bd.notSynchronized Bd.returns rfl (by simp) (hb hby d7_33) (by rw [e0]; exact ⟨(1 : Int32), rfl, N0, rfl, Or.inl ⟨rfl, hb6⟩⟩) (by decide) (by decide)
  · refine Go.icmpN 24 X0 hx (hb hby d7_21) (XT.ii_eq_f hb6) rfl ?_
    refine Go.iconst 25 X0 hx (0 : Int32) (hb hby d7_24) (by decide) rfl ?_
    exact Go.retI X0 hx Bd.notSynchronized Bd.returns rfl (by simp) (hb hby d7_25) (by rw [e0]; exact ⟨(0 : Int32), rfl, N0, rfl, Or.inr ⟨rfl, fun q => hb6 q⟩⟩) (by decide) (by decide)
theorem d6_5 : decode jdk_42_method_66_code 5 = .ok (.iconst 1, 1) := by decide +kernel
theorem d6_6 : decode jdk_42_method_66_code 6 = .ok (.ireturn, 1) := by decide +kernel
theorem d6_50 : decode jdk_42_method_66_code 50 = .ok (.iconst 1, 1) := by decide +kernel
theorem d6_51 : decode jdk_42_method_66_code 51 = .ok (.goto 4, 3) := by decide +kernel
def Q_rmSeq1 (Z : State) (a : Addr) (b : Addr) (av : Addr) (bv : Addr) (ka : ClassId) (kb : ClassId) (xe0 : Int32) (ye0 : Int32) (cs : Int32) (h0 : Heap) (n0 : Nat) (v : Option Value) (h : Heap) (L : List Loc) : Prop := ∃ r : Int32, v = some (.int r) ∧ Fr n0 L ∧ h = h0 ∧ ((r = 1 ∧ (xe0 = ye0)) ∨ (r = 0 ∧ ¬ (xe0 = ye0)))
set_option maxRecDepth 65536 in
set_option maxHeartbeats 40000000 in
theorem rmSeq1 (l : Launch) (Z : State) (a0 : Array Value) (hw : ∀ d ∈ tables_1, d.before a0 Z = true) (ws : List Jvm.Cond) (a : Addr) (b : Addr) (av : Addr) (bv : Addr) (ka : ClassId) (kb : ClassId) (xe0 : Int32) (ye0 : Int32) (cs : Int32) (h0 : Heap) (n0 : Nat) (Z0 : n0 ≤ h0.size) (O0 : Old Z n0 h0) (F_a_coder : Fld Z h0 a "java/lang/String" "coder" "B" (.int 0)) (F_a_value : Fld Z h0 a "java/lang/String" "value" "[B" (.ref av)) (V_av : Arv Z h0 av ka .byte (1 : Int32) ([(.int xe0)]) (.int 0)) (E_b : Exa Z h0 b "java/lang/String") (F_b_coder : Fld Z h0 b "java/lang/String" "coder" "B" (.int 0)) (F_b_value : Fld Z h0 b "java/lang/String" "value" "[B" (.ref bv)) (V_bv : Arv Z h0 bv kb .byte (1 : Int32) ([(.int ye0)]) (.int 0)) (S_cs : Sta Z Z.heap "java/lang/String" "COMPACT_STRINGS" "Z" (.int cs)) (n_cs : ¬ cs = 0) :
    MetFree l (⟨"java/lang/String", "equals", "(Ljava/lang/Object;)Z"⟩ : MethodName) (head1 (Jvm.Cond.code (⟨"java/lang/String", "equals", "(Ljava/lang/Object;)Z"⟩ : MethodName) jdk_42_method_66_code 3 (some .boolean) :: ws) ({ frames := 1, cells := 0, slots := 0, locals := 14 } : Room)) (fun as' U => as' = #[(.ref a), (.ref b)] ∧ Z.Warmed39 U.vm ∧ U.heap = h0) (fun _ _ _ _ _ => True) (fun _ U o U' => ∃ v L, o = .returned v ∧ Q_rmSeq1 Z a b av bv ka kb xe0 ye0 cs h0 n0 v U'.heap L ∧ FrameEnd U o U' L ({ frames := 1, cells := 0, slots := 0, locals := 14 } : Room).cells ({ frames := 1, cells := 0, slots := 0, locals := 14 } : Room).slots) := by
  refine MetFree.of_bodySF (plainFor_of_name pn_1) hisR ?_
  intro p e s m args below meth c s₁ Bd hml0 hP hK
  obtain ⟨rfl, hZ, hh⟩ := hP
  have hx := Bd.exec
  have hby := Bd.bytes
  have hml : c.maxLocals = 3 := hml0
  have hown : s.vm.findClass "java/lang/String" = some m.cls := findClass_of_methodNamed Bd.named
  have hnm := (name_of_methodNamed Bd.named Bd.method).1
  have X0 : Stand p l e ({ frames := 1, cells := 0, slots := 0, locals := 14 } : Room) s m #[(.ref a), (.ref b)] below meth c s₁ [] 0 0 := Stand.of_body Bd
  have e0 : s₁.heap = h0 := by rw [← hh, Bd.state]; rfl
  have N0 := Fr.nil n0
  refine Go.enter (F := EndN s (Q_rmSeq1 Z a b av bv ka kb xe0 ye0 cs h0 n0) ({ frames := 1, cells := 0, slots := 0, locals := 14 } : Room).cells ({ frames := 1, cells := 0, slots := 0, locals := 14 } : Room).slots) (ef_283 m a b) ?_
  show Go _ _ _ _ s₁ (mkF m 0 #[rv a, rv b, un] [])
  refine Go.aload1 1 X0 hx (hb hby d6_0) rfl rfl rfl ?_
  refine Go.aload1 2 X0 hx (hb hby d6_1) rfl rfl rfl ?_
  rcases Classical.em (a = b) with rfl | hab
  · show Go _ _ _ _ s₁ (mkF m 2 #[rv a, rv a, un] [(.ref a), (.ref a)])
    refine Go.by (fun _ gk => XT.acmpNo X0.here hx rfl (hb hby d6_2) rfl rfl rfl (XT.aa_ne_f rfl) gk) ?_
    show Go _ _ _ _ s₁ (mkF m 5 #[rv a, rv a, un] [])
    refine Go.iconst 6 X0 hx (1 : Int32) (hb hby d6_5) (by decide) rfl ?_
    obtain rfl : av = bv := Value.ref.inj (own_fld_same F_a_value F_b_value)
    exact Go.retI X0 hx Bd.notSynchronized Bd.returns rfl (by simp) (hb hby d6_6) (by rw [e0]; exact ⟨(1 : Int32), rfl, N0, rfl, Or.inl ⟨rfl, Value.int.inj (own_arv_same V_av V_bv 0 (by decide))⟩⟩) (by decide) (by decide)
  · refine Go.by (fun _ gk => XT.acmpYes X0.here hx rfl (pc0 := 2) (pc' := 7) rfl (hb hby d6_2) rfl rfl rfl (XT.aa_ne_t (fun q => hab (Value.ref.inj q))) (by decide) (by decide) gk) ?_
    show Go _ _ _ _ s₁ (mkF m 7 #[rv a, rv b, un] [])
    refine Go.aload1 8 X0 hx (hb hby d6_7) rfl rfl rfl ?_
    obtain ⟨T1, X1, e1, st1⟩ := instY X0 hx hZ hown (ow hw 36 rfl) e0 (Ins.self E_b) (g := (mkF m 8 #[rv a, rv b, un] [(.ref b)])) rfl rfl (hb hby d6_8)
    refine Go.by st1 ?_
    show Go _ _ _ _ T1 (mkF m 11 #[rv a, rv b, un] [(.int 1)])
    refine Go.ifN 14 X1 hx (hb hby d6_11) (XT.i0_eq_f (by decide)) rfl ?_
    refine Go.aload1 15 X1 hx (hb hby d6_14) rfl rfl rfl ?_
    obtain ⟨T2, X2, e2, st2⟩ := castY X1 hx hZ hown (ow hw 36 rfl) e1 (Ins.self E_b) (g := (mkF m 15 #[rv a, rv b, un] [(.ref b)])) rfl rfl (hb hby d6_15)
    refine Go.by st2 ?_
    show Go _ _ _ _ T2 (mkF m 18 #[rv a, rv b, un] [(.ref b)])
    refine Go.astore1 19 X2 hx (L' := #[rv a, rv b, rv b]) (hb hby d6_18) rfl rfl rfl ?_
    have F3 : Sta Z h0 "java/lang/String" "COMPACT_STRINGS" "Z" (.int cs) := S_cs.ext O0.2
    obtain ⟨T4, X4, e4, st4⟩ := getS2 X2 hx hZ hown (host := "") (Or.inl (ow hw 37 rfl)) Via.refl e2 F3 (g := (mkF m 19 #[rv a, rv b, rv b] [])) rfl (hb hby d6_19)
    refine Go.by st4 ?_
    show Go _ _ _ _ T4 (mkF m 22 #[rv a, rv b, rv b] [(.int cs)])
    refine Go.ifN 25 X4 hx (hb hby d6_22) (XT.i0_eq_f n_cs) rfl ?_
    refine Go.aload1 26 X4 hx (hb hby d6_25) rfl rfl rfl ?_
    obtain ⟨T5, X5, e5, st5⟩ := getF X4 hx hZ hown (host := "") (Or.inl (ow hw 25 rfl)) Via.refl e4 F_a_coder (g := (mkF m 26 #[rv a, rv b, rv b] [(.ref a)])) rfl rfl (hb hby d6_26)
    refine Go.by st5 ?_
    show Go _ _ _ _ T5 (mkF m 29 #[rv a, rv b, rv b] [(.int 0)])
    refine Go.aload1 30 X5 hx (hb hby d6_29) rfl rfl rfl ?_
    obtain ⟨T6, X6, e6, st6⟩ := getF X5 hx hZ hown (host := "") (Or.inl (ow hw 25 rfl)) Via.refl e5 F_b_coder (g := (mkF m 30 #[rv a, rv b, rv b] [(.ref b), (.int 0)])) rfl rfl (hb hby d6_30)
    refine Go.by st6 ?_
    show Go _ _ _ _ T6 (mkF m 33 #[rv a, rv b, rv b] [(.int 0), (.int 0)])
    refine Go.icmpN 36 X6 hx (hb hby d6_33) (XT.ii_ne_f rfl) rfl ?_
    refine Go.aload1 37 X6 hx (hb hby d6_36) rfl rfl rfl ?_
    obtain ⟨T7, X7, e7, st7⟩ := getF X6 hx hZ hown (host := "") (Or.inl (ow hw 24 rfl)) Via.refl e6 F_a_value (g := (mkF m 37 #[rv a, rv b, rv b] [(.ref a)])) rfl rfl (hb hby d6_37)
    refine Go.by st7 ?_
    show Go _ _ _ _ T7 (mkF m 40 #[rv a, rv b, rv b] [(.ref av)])
    refine Go.aload1 41 X7 hx (hb hby d6_40) rfl rfl rfl ?_
    obtain ⟨T8, X8, e8, st8⟩ := getF X7 hx hZ hown (host := "") (Or.inl (ow hw 24 rfl)) Via.refl e7 F_b_value (g := (mkF m 41 #[rv a, rv b, rv b] [(.ref b), (.ref av)])) rfl rfl (hb hby d6_41)
    refine Go.by st8 ?_
    show Go _ _ _ _ T8 (mkF m 44 #[rv a, rv b, rv b] [(.ref bv), (.ref av)])
    obtain ⟨_, _, ⟨T9, L9, k9, n9⟩, -, X9, ⟨Lc9, hQ9, l9, y9, z9⟩, st9⟩ := Jvm.LawKit.callS X8 hx (y := (⟨"java/lang/StringLatin1", "equals", "([B[B)Z"⟩ : MethodName)) hown (mvT hZ (ow hw 38 rfl)) (mvT hZ (ow hw 39 rfl)) (mvT hZ (ow hw 40 rfl)) (mvT hZ (ow hw 41 rfl)) (by decide) (backOf (W := 0) (rmLeq1 l Z a0 hw [] av bv ka kb xe0 ye0 h0 n0 Z0 V_av V_bv) hZ (ow hw 41 rfl) (ow hw 40 rfl) (by decide) (by decide)) (g := (mkF m 44 #[rv a, rv b, rv b] [(.ref bv), (.ref av)])) rfl (by rw [hml]; rfl) (argsL := [(.ref av), (.ref bv)]) (rest := []) (lenOf pd_311 rfl) rfl (by show 2 * 0 + _ ≤ _; exact Nat.le_of_eq rfl) (hb hby d6_44) (fun _ _ => ⟨rfl, e8, (by decide : 0 + 0 ≤ _), (by decide : 0 + 0 ≤ _)⟩)
    dsimp only [Pt.U, Pt.locs, Pt.cells, Pt.slots] at X9 l9 y9 z9 st9 hQ9
    subst l9 y9 z9
    obtain ⟨r, rfl, N9q, e9, Q9_0⟩ := hQ9
    have N9 := Fr.app N0 N9q
    refine Go.by st9 ?_
    show Go _ _ _ _ T9 (mkF m 47 #[rv a, rv b, rv b] [(.int r)])
    rcases Q9_0 with ⟨rfl, hE⟩ | ⟨rfl, hE⟩
    · show Go _ _ _ _ T9 (mkF m 47 #[rv a, rv b, rv b] [(.int 1)])
      refine Go.ifN 50 X9 hx (hb hby d6_47) (XT.i0_eq_f (by decide)) rfl ?_
      refine Go.iconst 51 X9 hx (1 : Int32) (hb hby d6_50) (by decide) rfl ?_
      refine Go.goto 55 X9 hx (hb hby d6_51) (by decide) (by decide) ?_
      exact Go.retI X9 hx Bd.notSynchronized Bd.returns rfl (by simp) (hb hby d6_55) (by rw [e9]; exact ⟨(1 : Int32), rfl, N9, rfl, Or.inl ⟨rfl, hE⟩⟩) (by decide) (by decide)
    · show Go _ _ _ _ T9 (mkF m 47 #[rv a, rv b, rv b] [(.int 0)])
      refine Go.ifY 54 X9 hx (hb hby d6_47) (XT.i0_eq_t rfl) (by decide) (by decide) ?_
      refine Go.iconst 55 X9 hx (0 : Int32) (hb hby d6_54) (by decide) rfl ?_
      exact Go.retI X9 hx Bd.notSynchronized Bd.returns rfl (by simp) (hb hby d6_55) (by rw [e9]; exact ⟨(0 : Int32), rfl, N9, rfl, Or.inr ⟨rfl, hE⟩⟩) (by decide) (by decide)
theorem d5_20 : decode prog_27_method_2_code 20 = .ok (.getstatic 17, 3) := by decide +kernel
theorem d5_23 : decode prog_27_method_2_code 23 = .ok (.astore_n 1, 1) := by decide +kernel
theorem d5_24 : decode prog_27_method_2_code 24 = .ok (.goto 25, 3) := by decide +kernel
theorem d5_45 : decode prog_27_method_2_code 45 = .ok (.getstatic 27, 3) := by decide +kernel
theorem d5_48 : decode prog_27_method_2_code 48 = .ok (.astore_n 1, 1) := by decide +kernel
def Q_rmRead1 (Z : State) (a : Addr) (av : Addr) (ka : ClassId) (b0x : Int32) (cs : Int32) (bT : Addr) (bF : Addr) (h0 : Heap) (n0 : Nat) (v : Option Value) (h : Heap) (L : List Loc) : Prop := ∃ rz : Value, v = some rz ∧ Fr n0 L ∧ Keep h0 h [] ∧ (((b0x = 49) ∧ rz = .ref bT) ∨ ((b0x = 48) ∧ rz = .ref bF) ∨ ((¬ (b0x = 49) ∧ ¬ (b0x = 48)) ∧ rz = .null))
set_option maxRecDepth 65536 in
set_option maxHeartbeats 40000000 in
theorem rmRead1 (l : Launch) (Z : State) (a0 : Array Value) (hw : ∀ d ∈ tables_1, d.before a0 Z = true) (ws : List Jvm.Cond) (a : Addr) (av : Addr) (ka : ClassId) (b0x : Int32) (cs : Int32) (bT : Addr) (bF : Addr) (h0 : Heap) (n0 : Nat) (Z0 : n0 ≤ h0.size) (O0 : Old Z n0 h0) (E_a : Exa Z h0 a "java/lang/String") (F_a_coder : Fld Z h0 a "java/lang/String" "coder" "B" (.int 0)) (F_a_value : Fld Z h0 a "java/lang/String" "value" "[B" (.ref av)) (V_av : Arv Z h0 av ka .byte (1 : Int32) ([(.int b0x)]) (.int 0)) (S_cs : Sta Z Z.heap "java/lang/String" "COMPACT_STRINGS" "Z" (.int cs)) (n_cs : ¬ cs = 0) (B0 : Sta Z Z.heap "java/lang/Boolean" "TRUE" "Ljava/lang/Boolean;" (.ref bT)) (B1 : Exa Z Z.heap bT "java/lang/Boolean") (B2 : Fld Z Z.heap bT "java/lang/Boolean" "value" "Z" (.int 1)) (B3 : Sta Z Z.heap "java/lang/Boolean" "FALSE" "Ljava/lang/Boolean;" (.ref bF)) (B4 : Exa Z Z.heap bF "java/lang/Boolean") (B5 : Fld Z Z.heap bF "java/lang/Boolean" "value" "Z" (.int 0)) :
    MetFree l (⟨"com/example/entries_to_nodes/entriestonodes/xml/XsBoolean", "read", "(Ljava/lang/String;)Ljava/lang/Boolean;"⟩ : MethodName) (head1 (Jvm.Cond.code (⟨"com/example/entries_to_nodes/entriestonodes/xml/XsBoolean", "read", "(Ljava/lang/String;)Ljava/lang/Boolean;"⟩ : MethodName) prog_27_method_2_code 2 (some (.object "java/lang/Boolean")) :: ws) ({ frames := 2, cells := 8, slots := 60, locals := 28 } : Room)) (fun as' U => as' = #[(.ref a)] ∧ Z.Warmed39 U.vm ∧ U.heap = h0 ∧ CHv Z own_EL U.vm h0) (fun _ _ _ _ _ => True) (fun _ U o U' => ∃ v L, o = .returned v ∧ Q_rmRead1 Z a av ka b0x cs bT bF h0 n0 v U'.heap L ∧ CHr Z own_EL U.vm U.heap U'.vm U'.heap ∧ ReturnedEndW U o U' L ({ frames := 2, cells := 8, slots := 60, locals := 28 } : Room).cells ({ frames := 2, cells := 8, slots := 60, locals := 28 } : Room).slots) := by
  refine MetFree.of_bodySF (plainFor_of_name pn_316) hisR ?_
  intro p e s m args below meth c s₁ Bd hml0 hP hK
  obtain ⟨rfl, hZ, hh, hH⟩ := hP
  have hx := Bd.exec
  have hby := Bd.bytes
  have hml : c.maxLocals = 2 := hml0
  have hown : s.vm.findClass "com/example/entries_to_nodes/entriestonodes/xml/XsBoolean" = some m.cls := findClass_of_methodNamed Bd.named
  have hnm := (name_of_methodNamed Bd.named Bd.method).1
  have X0 : Stand p l e ({ frames := 2, cells := 8, slots := 60, locals := 28 } : Room) (s.setVm s.vm) m #[(.ref a)] below meth c s₁ [] 0 0 := Stand.of_body Bd
  have e0 : s₁.heap = h0 := by rw [← hh, Bd.state]; rfl
  have N0 := Fr.nil n0
  have hS0 : s.Since s.vm s.heap.size := (State.WarmedH.refl s).since _
  have hk0 : s.heap.size ≤ h0.size := Nat.le_of_eq (by rw [hh])
  have C0 : CHr Z own_EL s.vm h0 s.vm h0 := CHr.refl hH
  have hEL := own_EW hw
  have hSA := own_SA hw
  refine Go.enter (F := EndW Z own_EL s (Q_rmRead1 Z a av ka b0x cs bT bF h0 n0) ({ frames := 2, cells := 8, slots := 60, locals := 28 } : Room).cells ({ frames := 2, cells := 8, slots := 60, locals := 28 } : Room).slots) (ef_317 m a) ?_
  show Go _ _ _ _ s₁ (mkF m 0 #[rv a, un] [])
  refine Go.aconst_null 1 X0 hx (hb hby d5_0) rfl ?_
  refine Go.astore1 2 X0 hx (L' := #[rv a, .val .null]) (hb hby d5_1) rfl rfl rfl ?_
  refine Go.aload1 3 X0 hx (hb hby d5_2) rfl rfl rfl ?_
  obtain ⟨ql0, T1, h1, kq1, qb0, k1, X1, e1, E1, hS1, hk1, hZ1, hown1, Ea1, Fc1, Fv1, Va1, -, -, CH1, -, sf1, st1⟩ := ldcCH X0 hx hZ hown (ow hw 30 rfl) hSA e0 hS0 hk0 hEL (List.mem_of_getElem? (i := 0) rfl) C0.1 (vs := [(.int 116), (.int 114), (.int 117), (.int 101)]) (z := (4 : Int32)) ⟨by decide, by decide⟩ (by decide) rfl (g := (mkF m 3 #[rv a, .val .null] [(.ref a)])) rfl (hb hby d5_3) (n := 16) (by decide) (by decide) (by decide) (by decide)
  have C2 : CHr Z own_EL s.vm h0 T1.vm h1 := C0.trans CH1
  refine Go.by st1 ?_
  show Go _ _ _ _ T1 (mkF m 5 #[rv a, .val .null] [(.ref ql0), (.ref a)])
  have F3 : Old Z n0 h1 := O0.ext E1
  have F4 : Fld Z h1 a "java/lang/String" "coder" "B" (.int 0) := F_a_coder.ext E1
  have F5 : Fld Z h1 a "java/lang/String" "value" "[B" (.ref av) := F_a_value.ext E1
  have F6 : Arv Z h1 av ka .byte (1 : Int32) [(.int b0x)] (.int 0) := V_av.ext E1
  have F7 : n0 ≤ h1.size := Nat.le_trans Z0 E1.1
  have F9 : Exa Z h1 a "java/lang/String" := E_a.ext E1
  obtain ⟨cq8, kq8, q8a, q8b, q8c⟩ := isOf hZ1 e1 F9
  obtain ⟨_, _, ⟨T8, L8, k8, n8⟩, -, X8, ⟨Lc8, hQ8, l8, y8, z8⟩, st8⟩ := X1.virtualBack hx (y := (⟨"java/lang/String", "equals", "(Ljava/lang/Object;)Z"⟩ : MethodName)) (z := (⟨"java/lang/String", "equals", "(Ljava/lang/Object;)Z"⟩ : MethodName)) hown1 (mvT hZ1 (ow hw 31 rfl)) (mvT hZ1 (ow hw 32 rfl)) (notFace_of_selects (args := #[]) (mvT hZ1 (ow hw 34 rfl))) (mvT hZ1 (ow hw 34 rfl)) (mvT hZ1 (ow hw 33 rfl)) (by decide) (backOf (W := 0) (rmSeqNe l Z a0 hw [] a ql0 av qb0 ka k1 (1 : Int32) (4 : Int32) ([(.int b0x)]) ([(.int 116), (.int 114), (.int 117), (.int 101)]) cs h1 n0 F7 F3 F4 F5 F6 Ea1 Fc1 Fv1 Va1 (by decide) (by decide) S_cs n_cs) hZ1 (ow hw 35 rfl) (ow hw 7 rfl) (by decide) (by decide)) q8a q8c (g := (mkF m 5 #[rv a, .val .null] [(.ref ql0), (.ref a)])) rfl (by rw [hml]; rfl) (Steps.refl _) (argsL := [(.ref ql0)]) (rest := []) (lenOf pd_322 rfl) rfl (by show 2 * 0 + _ ≤ _; exact Nat.le_of_eq rfl) (hb hby d5_5) (fun _ _ => ⟨rfl, e1, (by decide : 2 + 0 ≤ _), (by decide : 20 + 0 ≤ _)⟩)
  dsimp only [Pt.U, Pt.locs, Pt.cells, Pt.slots] at X8 l8 y8 z8 st8 hQ8
  subst l8 y8 z8
  obtain ⟨rfl, N8q, e8⟩ := hQ8
  have N8 := Fr.app N0 N8q
  refine Go.to st8 ?_
  show Go _ _ _ _ T8 (mkF m 8 #[rv a, .val .null] [(.int 0)])
  refine Go.ifN 11 X8 hx (hb hby d5_8) (XT.i0_ne_f rfl) rfl ?_
  refine Go.aload1 12 X8 hx (hb hby d5_11) rfl rfl rfl ?_
  obtain ⟨ql1, T10, h10, kq10, qb1, k10, X10, e10, E10, hS10, hk10, hZ10, hown10, Ea10, Fc10, Fv10, Va10, -, -, CH10, -, sf10, st10⟩ := ldcCH X8 hx hZ1 hown1 (ow hw 42 rfl) hSA e8 hS1 hk1 hEL (List.mem_of_getElem? (i := 1) rfl) C2.1 (vs := [(.int 49)]) (z := (1 : Int32)) ⟨by decide, by decide⟩ (by decide) rfl (g := (mkF m 12 #[rv a, .val .null] [(.ref a)])) rfl (hb hby d5_12) (n := 4) (by decide) (by decide) (by decide) (by decide)
  have C11 : CHr Z own_EL s.vm h0 T10.vm h10 := C2.trans CH10
  refine Go.by st10 ?_
  show Go _ _ _ _ T10 (mkF m 14 #[rv a, .val .null] [(.ref ql1), (.ref a)])
  have F12 : Old Z n0 h10 := F3.ext E10
  have F13 : Fld Z h10 a "java/lang/String" "coder" "B" (.int 0) := F4.ext E10
  have F14 : Fld Z h10 a "java/lang/String" "value" "[B" (.ref av) := F5.ext E10
  have F15 : Arv Z h10 av ka .byte (1 : Int32) [(.int b0x)] (.int 0) := F6.ext E10
  have F16 : n0 ≤ h10.size := Nat.le_trans F7 E10.1
  have F18 : Exa Z h10 a "java/lang/String" := F9.ext E10
  obtain ⟨cq17, kq17, q17a, q17b, q17c⟩ := isOf hZ10 e10 F18
  obtain ⟨_, _, ⟨T17, L17, k17, n17⟩, -, X17, ⟨Lc17, hQ17, l17, y17, z17⟩, st17⟩ := X10.virtualBack hx (y := (⟨"java/lang/String", "equals", "(Ljava/lang/Object;)Z"⟩ : MethodName)) (z := (⟨"java/lang/String", "equals", "(Ljava/lang/Object;)Z"⟩ : MethodName)) hown10 (mvT hZ10 (ow hw 31 rfl)) (mvT hZ10 (ow hw 32 rfl)) (notFace_of_selects (args := #[]) (mvT hZ10 (ow hw 34 rfl))) (mvT hZ10 (ow hw 34 rfl)) (mvT hZ10 (ow hw 33 rfl)) (by decide) (backOf (W := 0) (rmSeq1 l Z a0 hw [] a ql1 av qb1 ka k10 b0x (49 : Int32) cs h10 n0 F16 F12 F13 F14 F15 Ea10 Fc10 Fv10 Va10 S_cs n_cs) hZ10 (ow hw 35 rfl) (ow hw 7 rfl) (by decide) (by decide)) q17a q17c (g := (mkF m 14 #[rv a, .val .null] [(.ref ql1), (.ref a)])) rfl (by rw [hml]; rfl) (Steps.refl _) (argsL := [(.ref ql1)]) (rest := []) (lenOf pd_322 rfl) rfl (by show 2 * 0 + _ ≤ _; exact Nat.le_of_eq rfl) (hb hby d5_14) (fun _ _ => ⟨rfl, e10, (by decide : 4 + 0 ≤ _), (by decide : 28 + 0 ≤ _)⟩)
  dsimp only [Pt.U, Pt.locs, Pt.cells, Pt.slots] at X17 l17 y17 z17 st17 hQ17
  subst l17 y17 z17
  obtain ⟨r1q, rfl, N17q, e17, Q17_0⟩ := hQ17
  have N17 := Fr.app N8 N17q
  refine Go.to st17 ?_
  show Go _ _ _ _ T17 (mkF m 17 #[rv a, .val .null] [(.int r1q)])
  rcases Q17_0 with ⟨rfl, hE1⟩ | ⟨rfl, hE1⟩
  · show Go _ _ _ _ T17 (mkF m 17 #[rv a, .val .null] [(.int 1)])
    refine Go.ifN 20 X17 hx (hb hby d5_17) (XT.i0_eq_f (by decide)) rfl ?_
    have F19 : Sta Z h10 "java/lang/Boolean" "TRUE" "Ljava/lang/Boolean;" (.ref bT) := B0.ext F12.2
    obtain ⟨T20, X20, e20, st20⟩ := getS2 X17 hx hZ10 hown10 (host := "") (Or.inl (ow hw 55 rfl)) Via.refl e17 F19 (g := (mkF m 20 #[rv a, .val .null] [])) rfl (hb hby d5_20)
    refine Go.by st20 ?_
    show Go _ _ _ _ T20 (mkF m 23 #[rv a, .val .null] [(.ref bT)])
    refine Go.astore1 24 X20 hx (L' := #[rv a, rv bT]) (hb hby d5_23) rfl rfl rfl ?_
    refine Go.goto 49 X20 hx (hb hby d5_24) (by decide) (by decide) ?_
    refine Go.aload1 50 X20 hx (hb hby d5_49) rfl rfl rfl ?_
    have F21 : Keep h0 h1 [] := (Keep.refl h0 []).ext E1
    have F22 : Keep h0 h10 [] := F21.ext E10
    exact Go.retAW X20 hx Bd.notSynchronized hS10 (by rw [e20]; exact hk10) hZ10 hEL (by rw [hh, e20]; exact C11) Bd.returns rfl rfl (hb hby d5_50) (by rw [e20]; exact ⟨(.ref bT), rfl, N17, F22, Or.inl ⟨hE1, rfl⟩⟩) (by decide) (by decide)
  · show Go _ _ _ _ T17 (mkF m 17 #[rv a, .val .null] [(.int 0)])
    refine Go.ifY 27 X17 hx (hb hby d5_17) (XT.i0_eq_t rfl) (by decide) (by decide) ?_
    refine Go.aload1 28 X17 hx (hb hby d5_27) rfl rfl rfl ?_
    obtain ⟨ql2, T23, h23, kq23, qb2, k23, X23, e23, E23, hS23, hk23, hZ23, hown23, Ea23, Fc23, Fv23, Va23, -, -, CH23, -, sf23, st23⟩ := ldcCH X17 hx hZ10 hown10 (ow hw 43 rfl) hSA e17 hS10 hk10 hEL (List.mem_of_getElem? (i := 2) rfl) C11.1 (vs := [(.int 102), (.int 97), (.int 108), (.int 115), (.int 101)]) (z := (5 : Int32)) ⟨by decide, by decide⟩ (by decide) rfl (g := (mkF m 28 #[rv a, .val .null] [(.ref a)])) rfl (hb hby d5_28) (n := 20) (by decide) (by decide) (by decide) (by decide)
    have C24 : CHr Z own_EL s.vm h0 T23.vm h23 := C11.trans CH23
    refine Go.by st23 ?_
    show Go _ _ _ _ T23 (mkF m 30 #[rv a, .val .null] [(.ref ql2), (.ref a)])
    have F25 : Old Z n0 h23 := F12.ext E23
    have F26 : Fld Z h23 a "java/lang/String" "coder" "B" (.int 0) := F13.ext E23
    have F27 : Fld Z h23 a "java/lang/String" "value" "[B" (.ref av) := F14.ext E23
    have F28 : Arv Z h23 av ka .byte (1 : Int32) [(.int b0x)] (.int 0) := F15.ext E23
    have F29 : n0 ≤ h23.size := Nat.le_trans F16 E23.1
    have F31 : Exa Z h23 a "java/lang/String" := F18.ext E23
    obtain ⟨cq30, kq30, q30a, q30b, q30c⟩ := isOf hZ23 e23 F31
    obtain ⟨_, _, ⟨T30, L30, k30, n30⟩, -, X30, ⟨Lc30, hQ30, l30, y30, z30⟩, st30⟩ := X23.virtualBack hx (y := (⟨"java/lang/String", "equals", "(Ljava/lang/Object;)Z"⟩ : MethodName)) (z := (⟨"java/lang/String", "equals", "(Ljava/lang/Object;)Z"⟩ : MethodName)) hown23 (mvT hZ23 (ow hw 31 rfl)) (mvT hZ23 (ow hw 32 rfl)) (notFace_of_selects (args := #[]) (mvT hZ23 (ow hw 34 rfl))) (mvT hZ23 (ow hw 34 rfl)) (mvT hZ23 (ow hw 33 rfl)) (by decide) (backOf (W := 0) (rmSeqNe l Z a0 hw [] a ql2 av qb2 ka k23 (1 : Int32) (5 : Int32) ([(.int b0x)]) ([(.int 102), (.int 97), (.int 108), (.int 115), (.int 101)]) cs h23 n0 F29 F25 F26 F27 F28 Ea23 Fc23 Fv23 Va23 (by decide) (by decide) S_cs n_cs) hZ23 (ow hw 35 rfl) (ow hw 7 rfl) (by decide) (by decide)) q30a q30c (g := (mkF m 30 #[rv a, .val .null] [(.ref ql2), (.ref a)])) rfl (by rw [hml]; rfl) (Steps.refl _) (argsL := [(.ref ql2)]) (rest := []) (lenOf pd_322 rfl) rfl (by show 2 * 0 + _ ≤ _; exact Nat.le_of_eq rfl) (hb hby d5_30) (fun _ _ => ⟨rfl, e23, (by decide : 6 + 0 ≤ _), (by decide : 52 + 0 ≤ _)⟩)
    dsimp only [Pt.U, Pt.locs, Pt.cells, Pt.slots] at X30 l30 y30 z30 st30 hQ30
    subst l30 y30 z30
    obtain ⟨rfl, N30q, e30⟩ := hQ30
    have N30 := Fr.app N17 N30q
    refine Go.to st30 ?_
    show Go _ _ _ _ T30 (mkF m 33 #[rv a, .val .null] [(.int 0)])
    refine Go.ifN 36 X30 hx (hb hby d5_33) (XT.i0_ne_f rfl) rfl ?_
    refine Go.aload1 37 X30 hx (hb hby d5_36) rfl rfl rfl ?_
    obtain ⟨ql3, T32, h32, kq32, qb3, k32, X32, e32, E32, hS32, hk32, hZ32, hown32, Ea32, Fc32, Fv32, Va32, -, -, CH32, -, sf32, st32⟩ := ldcCH X30 hx hZ23 hown23 (ow hw 44 rfl) hSA e30 hS23 hk23 hEL (List.mem_of_getElem? (i := 3) rfl) C24.1 (vs := [(.int 48)]) (z := (1 : Int32)) ⟨by decide, by decide⟩ (by decide) rfl (g := (mkF m 37 #[rv a, .val .null] [(.ref a)])) rfl (hb hby d5_37) (n := 4) (by decide) (by decide) (by decide) (by decide)
    have C33 : CHr Z own_EL s.vm h0 T32.vm h32 := C24.trans CH32
    refine Go.by st32 ?_
    show Go _ _ _ _ T32 (mkF m 39 #[rv a, .val .null] [(.ref ql3), (.ref a)])
    have F34 : Old Z n0 h32 := F25.ext E32
    have F35 : Fld Z h32 a "java/lang/String" "coder" "B" (.int 0) := F26.ext E32
    have F36 : Fld Z h32 a "java/lang/String" "value" "[B" (.ref av) := F27.ext E32
    have F37 : Arv Z h32 av ka .byte (1 : Int32) [(.int b0x)] (.int 0) := F28.ext E32
    have F38 : n0 ≤ h32.size := Nat.le_trans F29 E32.1
    have F40 : Exa Z h32 a "java/lang/String" := F31.ext E32
    obtain ⟨cq39, kq39, q39a, q39b, q39c⟩ := isOf hZ32 e32 F40
    obtain ⟨_, _, ⟨T39, L39, k39, n39⟩, -, X39, ⟨Lc39, hQ39, l39, y39, z39⟩, st39⟩ := X32.virtualBack hx (y := (⟨"java/lang/String", "equals", "(Ljava/lang/Object;)Z"⟩ : MethodName)) (z := (⟨"java/lang/String", "equals", "(Ljava/lang/Object;)Z"⟩ : MethodName)) hown32 (mvT hZ32 (ow hw 31 rfl)) (mvT hZ32 (ow hw 32 rfl)) (notFace_of_selects (args := #[]) (mvT hZ32 (ow hw 34 rfl))) (mvT hZ32 (ow hw 34 rfl)) (mvT hZ32 (ow hw 33 rfl)) (by decide) (backOf (W := 0) (rmSeq1 l Z a0 hw [] a ql3 av qb3 ka k32 b0x (48 : Int32) cs h32 n0 F38 F34 F35 F36 F37 Ea32 Fc32 Fv32 Va32 S_cs n_cs) hZ32 (ow hw 35 rfl) (ow hw 7 rfl) (by decide) (by decide)) q39a q39c (g := (mkF m 39 #[rv a, .val .null] [(.ref ql3), (.ref a)])) rfl (by rw [hml]; rfl) (Steps.refl _) (argsL := [(.ref ql3)]) (rest := []) (lenOf pd_322 rfl) rfl (by show 2 * 0 + _ ≤ _; exact Nat.le_of_eq rfl) (hb hby d5_39) (fun _ _ => ⟨rfl, e32, (by decide : 8 + 0 ≤ _), (by decide : 60 + 0 ≤ _)⟩)
    dsimp only [Pt.U, Pt.locs, Pt.cells, Pt.slots] at X39 l39 y39 z39 st39 hQ39
    subst l39 y39 z39
    obtain ⟨r3q, rfl, N39q, e39, Q39_0⟩ := hQ39
    have N39 := Fr.app N30 N39q
    refine Go.to st39 ?_
    show Go _ _ _ _ T39 (mkF m 42 #[rv a, .val .null] [(.int r3q)])
    rcases Q39_0 with ⟨rfl, hE3⟩ | ⟨rfl, hE3⟩
    · show Go _ _ _ _ T39 (mkF m 42 #[rv a, .val .null] [(.int 1)])
      refine Go.ifN 45 X39 hx (hb hby d5_42) (XT.i0_eq_f (by decide)) rfl ?_
      have F41 : Sta Z h32 "java/lang/Boolean" "FALSE" "Ljava/lang/Boolean;" (.ref bF) := B3.ext F34.2
      obtain ⟨T42, X42, e42, st42⟩ := getS2 X39 hx hZ32 hown32 (host := "") (Or.inl (ow hw 64 rfl)) Via.refl e39 F41 (g := (mkF m 45 #[rv a, .val .null] [])) rfl (hb hby d5_45)
      refine Go.by st42 ?_
      show Go _ _ _ _ T42 (mkF m 48 #[rv a, .val .null] [(.ref bF)])
      refine Go.astore1 49 X42 hx (L' := #[rv a, rv bF]) (hb hby d5_48) rfl rfl rfl ?_
      refine Go.aload1 50 X42 hx (hb hby d5_49) rfl rfl rfl ?_
      have F43 : Keep h0 h1 [] := (Keep.refl h0 []).ext E1
      have F44 : Keep h0 h10 [] := F43.ext E10
      have F45 : Keep h0 h23 [] := F44.ext E23
      have F46 : Keep h0 h32 [] := F45.ext E32
      exact Go.retAW X42 hx Bd.notSynchronized hS32 (by rw [e42]; exact hk32) hZ32 hEL (by rw [hh, e42]; exact C33) Bd.returns rfl rfl (hb hby d5_50) (by rw [e42]; exact ⟨(.ref bF), rfl, N39, F46, Or.inr (Or.inl ⟨hE3, rfl⟩)⟩) (by decide) (by decide)
    · show Go _ _ _ _ T39 (mkF m 42 #[rv a, .val .null] [(.int 0)])
      refine Go.ifY 49 X39 hx (hb hby d5_42) (XT.i0_eq_t rfl) (by decide) (by decide) ?_
      refine Go.aload1 50 X39 hx (hb hby d5_49) rfl rfl rfl ?_
      have F47 : Keep h0 h1 [] := (Keep.refl h0 []).ext E1
      have F48 : Keep h0 h10 [] := F47.ext E10
      have F49 : Keep h0 h23 [] := F48.ext E23
      have F50 : Keep h0 h32 [] := F49.ext E32
      exact Go.retAW X39 hx Bd.notSynchronized hS32 (by rw [e39]; exact hk32) hZ32 hEL (by rw [hh, e39]; exact C33) Bd.returns rfl rfl (hb hby d5_50) (by rw [e39]; exact ⟨.null, rfl, N39, F50, Or.inr (Or.inr (⟨⟨hE1, hE3⟩, rfl⟩))⟩) (by decide) (by decide)
def Q_rmRead2 (Z : State) (a : Addr) (av : Addr) (ka : ClassId) (b0x : Int32) (b1x : Int32) (cs : Int32) (bT : Addr) (bF : Addr) (h0 : Heap) (n0 : Nat) (v : Option Value) (h : Heap) (L : List Loc) : Prop := ∃ rz : Value, v = some rz ∧ Fr n0 L ∧ Keep h0 h [] ∧ (((True) ∧ rz = .null))
set_option maxRecDepth 65536 in
set_option maxHeartbeats 40000000 in
theorem rmRead2 (l : Launch) (Z : State) (a0 : Array Value) (hw : ∀ d ∈ tables_1, d.before a0 Z = true) (ws : List Jvm.Cond) (a : Addr) (av : Addr) (ka : ClassId) (b0x : Int32) (b1x : Int32) (cs : Int32) (bT : Addr) (bF : Addr) (h0 : Heap) (n0 : Nat) (Z0 : n0 ≤ h0.size) (O0 : Old Z n0 h0) (E_a : Exa Z h0 a "java/lang/String") (F_a_coder : Fld Z h0 a "java/lang/String" "coder" "B" (.int 0)) (F_a_value : Fld Z h0 a "java/lang/String" "value" "[B" (.ref av)) (V_av : Arv Z h0 av ka .byte (2 : Int32) ([(.int b0x), (.int b1x)]) (.int 0)) (S_cs : Sta Z Z.heap "java/lang/String" "COMPACT_STRINGS" "Z" (.int cs)) (n_cs : ¬ cs = 0) (B0 : Sta Z Z.heap "java/lang/Boolean" "TRUE" "Ljava/lang/Boolean;" (.ref bT)) (B1 : Exa Z Z.heap bT "java/lang/Boolean") (B2 : Fld Z Z.heap bT "java/lang/Boolean" "value" "Z" (.int 1)) (B3 : Sta Z Z.heap "java/lang/Boolean" "FALSE" "Ljava/lang/Boolean;" (.ref bF)) (B4 : Exa Z Z.heap bF "java/lang/Boolean") (B5 : Fld Z Z.heap bF "java/lang/Boolean" "value" "Z" (.int 0)) :
    MetFree l (⟨"com/example/entries_to_nodes/entriestonodes/xml/XsBoolean", "read", "(Ljava/lang/String;)Ljava/lang/Boolean;"⟩ : MethodName) (head1 (Jvm.Cond.code (⟨"com/example/entries_to_nodes/entriestonodes/xml/XsBoolean", "read", "(Ljava/lang/String;)Ljava/lang/Boolean;"⟩ : MethodName) prog_27_method_2_code 2 (some (.object "java/lang/Boolean")) :: ws) ({ frames := 2, cells := 8, slots := 60, locals := 28 } : Room)) (fun as' U => as' = #[(.ref a)] ∧ Z.Warmed39 U.vm ∧ U.heap = h0 ∧ CHv Z own_EL U.vm h0) (fun _ _ _ _ _ => True) (fun _ U o U' => ∃ v L, o = .returned v ∧ Q_rmRead2 Z a av ka b0x b1x cs bT bF h0 n0 v U'.heap L ∧ CHr Z own_EL U.vm U.heap U'.vm U'.heap ∧ ReturnedEndW U o U' L ({ frames := 2, cells := 8, slots := 60, locals := 28 } : Room).cells ({ frames := 2, cells := 8, slots := 60, locals := 28 } : Room).slots) := by
  refine MetFree.of_bodySF (plainFor_of_name pn_316) hisR ?_
  intro p e s m args below meth c s₁ Bd hml0 hP hK
  obtain ⟨rfl, hZ, hh, hH⟩ := hP
  have hx := Bd.exec
  have hby := Bd.bytes
  have hml : c.maxLocals = 2 := hml0
  have hown : s.vm.findClass "com/example/entries_to_nodes/entriestonodes/xml/XsBoolean" = some m.cls := findClass_of_methodNamed Bd.named
  have hnm := (name_of_methodNamed Bd.named Bd.method).1
  have X0 : Stand p l e ({ frames := 2, cells := 8, slots := 60, locals := 28 } : Room) (s.setVm s.vm) m #[(.ref a)] below meth c s₁ [] 0 0 := Stand.of_body Bd
  have e0 : s₁.heap = h0 := by rw [← hh, Bd.state]; rfl
  have N0 := Fr.nil n0
  have hS0 : s.Since s.vm s.heap.size := (State.WarmedH.refl s).since _
  have hk0 : s.heap.size ≤ h0.size := Nat.le_of_eq (by rw [hh])
  have C0 : CHr Z own_EL s.vm h0 s.vm h0 := CHr.refl hH
  have hEL := own_EW hw
  have hSA := own_SA hw
  refine Go.enter (F := EndW Z own_EL s (Q_rmRead2 Z a av ka b0x b1x cs bT bF h0 n0) ({ frames := 2, cells := 8, slots := 60, locals := 28 } : Room).cells ({ frames := 2, cells := 8, slots := 60, locals := 28 } : Room).slots) (ef_317 m a) ?_
  show Go _ _ _ _ s₁ (mkF m 0 #[rv a, un] [])
  refine Go.aconst_null 1 X0 hx (hb hby d5_0) rfl ?_
  refine Go.astore1 2 X0 hx (L' := #[rv a, .val .null]) (hb hby d5_1) rfl rfl rfl ?_
  refine Go.aload1 3 X0 hx (hb hby d5_2) rfl rfl rfl ?_
  obtain ⟨ql0, T1, h1, kq1, qb0, k1, X1, e1, E1, hS1, hk1, hZ1, hown1, Ea1, Fc1, Fv1, Va1, -, -, CH1, -, sf1, st1⟩ := ldcCH X0 hx hZ hown (ow hw 30 rfl) hSA e0 hS0 hk0 hEL (List.mem_of_getElem? (i := 0) rfl) C0.1 (vs := [(.int 116), (.int 114), (.int 117), (.int 101)]) (z := (4 : Int32)) ⟨by decide, by decide⟩ (by decide) rfl (g := (mkF m 3 #[rv a, .val .null] [(.ref a)])) rfl (hb hby d5_3) (n := 16) (by decide) (by decide) (by decide) (by decide)
  have C2 : CHr Z own_EL s.vm h0 T1.vm h1 := C0.trans CH1
  refine Go.by st1 ?_
  show Go _ _ _ _ T1 (mkF m 5 #[rv a, .val .null] [(.ref ql0), (.ref a)])
  have F3 : Old Z n0 h1 := O0.ext E1
  have F4 : Fld Z h1 a "java/lang/String" "coder" "B" (.int 0) := F_a_coder.ext E1
  have F5 : Fld Z h1 a "java/lang/String" "value" "[B" (.ref av) := F_a_value.ext E1
  have F6 : Arv Z h1 av ka .byte (2 : Int32) [(.int b0x), (.int b1x)] (.int 0) := V_av.ext E1
  have F7 : n0 ≤ h1.size := Nat.le_trans Z0 E1.1
  have F9 : Exa Z h1 a "java/lang/String" := E_a.ext E1
  obtain ⟨cq8, kq8, q8a, q8b, q8c⟩ := isOf hZ1 e1 F9
  obtain ⟨_, _, ⟨T8, L8, k8, n8⟩, -, X8, ⟨Lc8, hQ8, l8, y8, z8⟩, st8⟩ := X1.virtualBack hx (y := (⟨"java/lang/String", "equals", "(Ljava/lang/Object;)Z"⟩ : MethodName)) (z := (⟨"java/lang/String", "equals", "(Ljava/lang/Object;)Z"⟩ : MethodName)) hown1 (mvT hZ1 (ow hw 31 rfl)) (mvT hZ1 (ow hw 32 rfl)) (notFace_of_selects (args := #[]) (mvT hZ1 (ow hw 34 rfl))) (mvT hZ1 (ow hw 34 rfl)) (mvT hZ1 (ow hw 33 rfl)) (by decide) (backOf (W := 0) (rmSeqNe l Z a0 hw [] a ql0 av qb0 ka k1 (2 : Int32) (4 : Int32) ([(.int b0x), (.int b1x)]) ([(.int 116), (.int 114), (.int 117), (.int 101)]) cs h1 n0 F7 F3 F4 F5 F6 Ea1 Fc1 Fv1 Va1 (by decide) (by decide) S_cs n_cs) hZ1 (ow hw 35 rfl) (ow hw 7 rfl) (by decide) (by decide)) q8a q8c (g := (mkF m 5 #[rv a, .val .null] [(.ref ql0), (.ref a)])) rfl (by rw [hml]; rfl) (Steps.refl _) (argsL := [(.ref ql0)]) (rest := []) (lenOf pd_322 rfl) rfl (by show 2 * 0 + _ ≤ _; exact Nat.le_of_eq rfl) (hb hby d5_5) (fun _ _ => ⟨rfl, e1, (by decide : 2 + 0 ≤ _), (by decide : 20 + 0 ≤ _)⟩)
  dsimp only [Pt.U, Pt.locs, Pt.cells, Pt.slots] at X8 l8 y8 z8 st8 hQ8
  subst l8 y8 z8
  obtain ⟨rfl, N8q, e8⟩ := hQ8
  have N8 := Fr.app N0 N8q
  refine Go.to st8 ?_
  show Go _ _ _ _ T8 (mkF m 8 #[rv a, .val .null] [(.int 0)])
  refine Go.ifN 11 X8 hx (hb hby d5_8) (XT.i0_ne_f rfl) rfl ?_
  refine Go.aload1 12 X8 hx (hb hby d5_11) rfl rfl rfl ?_
  obtain ⟨ql1, T10, h10, kq10, qb1, k10, X10, e10, E10, hS10, hk10, hZ10, hown10, Ea10, Fc10, Fv10, Va10, -, -, CH10, -, sf10, st10⟩ := ldcCH X8 hx hZ1 hown1 (ow hw 42 rfl) hSA e8 hS1 hk1 hEL (List.mem_of_getElem? (i := 1) rfl) C2.1 (vs := [(.int 49)]) (z := (1 : Int32)) ⟨by decide, by decide⟩ (by decide) rfl (g := (mkF m 12 #[rv a, .val .null] [(.ref a)])) rfl (hb hby d5_12) (n := 4) (by decide) (by decide) (by decide) (by decide)
  have C11 : CHr Z own_EL s.vm h0 T10.vm h10 := C2.trans CH10
  refine Go.by st10 ?_
  show Go _ _ _ _ T10 (mkF m 14 #[rv a, .val .null] [(.ref ql1), (.ref a)])
  have F12 : Old Z n0 h10 := F3.ext E10
  have F13 : Fld Z h10 a "java/lang/String" "coder" "B" (.int 0) := F4.ext E10
  have F14 : Fld Z h10 a "java/lang/String" "value" "[B" (.ref av) := F5.ext E10
  have F15 : Arv Z h10 av ka .byte (2 : Int32) [(.int b0x), (.int b1x)] (.int 0) := F6.ext E10
  have F16 : n0 ≤ h10.size := Nat.le_trans F7 E10.1
  have F18 : Exa Z h10 a "java/lang/String" := F9.ext E10
  obtain ⟨cq17, kq17, q17a, q17b, q17c⟩ := isOf hZ10 e10 F18
  obtain ⟨_, _, ⟨T17, L17, k17, n17⟩, -, X17, ⟨Lc17, hQ17, l17, y17, z17⟩, st17⟩ := X10.virtualBack hx (y := (⟨"java/lang/String", "equals", "(Ljava/lang/Object;)Z"⟩ : MethodName)) (z := (⟨"java/lang/String", "equals", "(Ljava/lang/Object;)Z"⟩ : MethodName)) hown10 (mvT hZ10 (ow hw 31 rfl)) (mvT hZ10 (ow hw 32 rfl)) (notFace_of_selects (args := #[]) (mvT hZ10 (ow hw 34 rfl))) (mvT hZ10 (ow hw 34 rfl)) (mvT hZ10 (ow hw 33 rfl)) (by decide) (backOf (W := 0) (rmSeqNe l Z a0 hw [] a ql1 av qb1 ka k10 (2 : Int32) (1 : Int32) ([(.int b0x), (.int b1x)]) ([(.int 49)]) cs h10 n0 F16 F12 F13 F14 F15 Ea10 Fc10 Fv10 Va10 (by decide) (by decide) S_cs n_cs) hZ10 (ow hw 35 rfl) (ow hw 7 rfl) (by decide) (by decide)) q17a q17c (g := (mkF m 14 #[rv a, .val .null] [(.ref ql1), (.ref a)])) rfl (by rw [hml]; rfl) (Steps.refl _) (argsL := [(.ref ql1)]) (rest := []) (lenOf pd_322 rfl) rfl (by show 2 * 0 + _ ≤ _; exact Nat.le_of_eq rfl) (hb hby d5_14) (fun _ _ => ⟨rfl, e10, (by decide : 4 + 0 ≤ _), (by decide : 28 + 0 ≤ _)⟩)
  dsimp only [Pt.U, Pt.locs, Pt.cells, Pt.slots] at X17 l17 y17 z17 st17 hQ17
  subst l17 y17 z17
  obtain ⟨rfl, N17q, e17⟩ := hQ17
  have N17 := Fr.app N8 N17q
  refine Go.to st17 ?_
  show Go _ _ _ _ T17 (mkF m 17 #[rv a, .val .null] [(.int 0)])
  refine Go.ifY 27 X17 hx (hb hby d5_17) (XT.i0_eq_t rfl) (by decide) (by decide) ?_
  refine Go.aload1 28 X17 hx (hb hby d5_27) rfl rfl rfl ?_
  obtain ⟨ql2, T19, h19, kq19, qb2, k19, X19, e19, E19, hS19, hk19, hZ19, hown19, Ea19, Fc19, Fv19, Va19, -, -, CH19, -, sf19, st19⟩ := ldcCH X17 hx hZ10 hown10 (ow hw 43 rfl) hSA e17 hS10 hk10 hEL (List.mem_of_getElem? (i := 2) rfl) C11.1 (vs := [(.int 102), (.int 97), (.int 108), (.int 115), (.int 101)]) (z := (5 : Int32)) ⟨by decide, by decide⟩ (by decide) rfl (g := (mkF m 28 #[rv a, .val .null] [(.ref a)])) rfl (hb hby d5_28) (n := 20) (by decide) (by decide) (by decide) (by decide)
  have C20 : CHr Z own_EL s.vm h0 T19.vm h19 := C11.trans CH19
  refine Go.by st19 ?_
  show Go _ _ _ _ T19 (mkF m 30 #[rv a, .val .null] [(.ref ql2), (.ref a)])
  have F21 : Old Z n0 h19 := F12.ext E19
  have F22 : Fld Z h19 a "java/lang/String" "coder" "B" (.int 0) := F13.ext E19
  have F23 : Fld Z h19 a "java/lang/String" "value" "[B" (.ref av) := F14.ext E19
  have F24 : Arv Z h19 av ka .byte (2 : Int32) [(.int b0x), (.int b1x)] (.int 0) := F15.ext E19
  have F25 : n0 ≤ h19.size := Nat.le_trans F16 E19.1
  have F27 : Exa Z h19 a "java/lang/String" := F18.ext E19
  obtain ⟨cq26, kq26, q26a, q26b, q26c⟩ := isOf hZ19 e19 F27
  obtain ⟨_, _, ⟨T26, L26, k26, n26⟩, -, X26, ⟨Lc26, hQ26, l26, y26, z26⟩, st26⟩ := X19.virtualBack hx (y := (⟨"java/lang/String", "equals", "(Ljava/lang/Object;)Z"⟩ : MethodName)) (z := (⟨"java/lang/String", "equals", "(Ljava/lang/Object;)Z"⟩ : MethodName)) hown19 (mvT hZ19 (ow hw 31 rfl)) (mvT hZ19 (ow hw 32 rfl)) (notFace_of_selects (args := #[]) (mvT hZ19 (ow hw 34 rfl))) (mvT hZ19 (ow hw 34 rfl)) (mvT hZ19 (ow hw 33 rfl)) (by decide) (backOf (W := 0) (rmSeqNe l Z a0 hw [] a ql2 av qb2 ka k19 (2 : Int32) (5 : Int32) ([(.int b0x), (.int b1x)]) ([(.int 102), (.int 97), (.int 108), (.int 115), (.int 101)]) cs h19 n0 F25 F21 F22 F23 F24 Ea19 Fc19 Fv19 Va19 (by decide) (by decide) S_cs n_cs) hZ19 (ow hw 35 rfl) (ow hw 7 rfl) (by decide) (by decide)) q26a q26c (g := (mkF m 30 #[rv a, .val .null] [(.ref ql2), (.ref a)])) rfl (by rw [hml]; rfl) (Steps.refl _) (argsL := [(.ref ql2)]) (rest := []) (lenOf pd_322 rfl) rfl (by show 2 * 0 + _ ≤ _; exact Nat.le_of_eq rfl) (hb hby d5_30) (fun _ _ => ⟨rfl, e19, (by decide : 6 + 0 ≤ _), (by decide : 52 + 0 ≤ _)⟩)
  dsimp only [Pt.U, Pt.locs, Pt.cells, Pt.slots] at X26 l26 y26 z26 st26 hQ26
  subst l26 y26 z26
  obtain ⟨rfl, N26q, e26⟩ := hQ26
  have N26 := Fr.app N17 N26q
  refine Go.to st26 ?_
  show Go _ _ _ _ T26 (mkF m 33 #[rv a, .val .null] [(.int 0)])
  refine Go.ifN 36 X26 hx (hb hby d5_33) (XT.i0_ne_f rfl) rfl ?_
  refine Go.aload1 37 X26 hx (hb hby d5_36) rfl rfl rfl ?_
  obtain ⟨ql3, T28, h28, kq28, qb3, k28, X28, e28, E28, hS28, hk28, hZ28, hown28, Ea28, Fc28, Fv28, Va28, -, -, CH28, -, sf28, st28⟩ := ldcCH X26 hx hZ19 hown19 (ow hw 44 rfl) hSA e26 hS19 hk19 hEL (List.mem_of_getElem? (i := 3) rfl) C20.1 (vs := [(.int 48)]) (z := (1 : Int32)) ⟨by decide, by decide⟩ (by decide) rfl (g := (mkF m 37 #[rv a, .val .null] [(.ref a)])) rfl (hb hby d5_37) (n := 4) (by decide) (by decide) (by decide) (by decide)
  have C29 : CHr Z own_EL s.vm h0 T28.vm h28 := C20.trans CH28
  refine Go.by st28 ?_
  show Go _ _ _ _ T28 (mkF m 39 #[rv a, .val .null] [(.ref ql3), (.ref a)])
  have F30 : Old Z n0 h28 := F21.ext E28
  have F31 : Fld Z h28 a "java/lang/String" "coder" "B" (.int 0) := F22.ext E28
  have F32 : Fld Z h28 a "java/lang/String" "value" "[B" (.ref av) := F23.ext E28
  have F33 : Arv Z h28 av ka .byte (2 : Int32) [(.int b0x), (.int b1x)] (.int 0) := F24.ext E28
  have F34 : n0 ≤ h28.size := Nat.le_trans F25 E28.1
  have F36 : Exa Z h28 a "java/lang/String" := F27.ext E28
  obtain ⟨cq35, kq35, q35a, q35b, q35c⟩ := isOf hZ28 e28 F36
  obtain ⟨_, _, ⟨T35, L35, k35, n35⟩, -, X35, ⟨Lc35, hQ35, l35, y35, z35⟩, st35⟩ := X28.virtualBack hx (y := (⟨"java/lang/String", "equals", "(Ljava/lang/Object;)Z"⟩ : MethodName)) (z := (⟨"java/lang/String", "equals", "(Ljava/lang/Object;)Z"⟩ : MethodName)) hown28 (mvT hZ28 (ow hw 31 rfl)) (mvT hZ28 (ow hw 32 rfl)) (notFace_of_selects (args := #[]) (mvT hZ28 (ow hw 34 rfl))) (mvT hZ28 (ow hw 34 rfl)) (mvT hZ28 (ow hw 33 rfl)) (by decide) (backOf (W := 0) (rmSeqNe l Z a0 hw [] a ql3 av qb3 ka k28 (2 : Int32) (1 : Int32) ([(.int b0x), (.int b1x)]) ([(.int 48)]) cs h28 n0 F34 F30 F31 F32 F33 Ea28 Fc28 Fv28 Va28 (by decide) (by decide) S_cs n_cs) hZ28 (ow hw 35 rfl) (ow hw 7 rfl) (by decide) (by decide)) q35a q35c (g := (mkF m 39 #[rv a, .val .null] [(.ref ql3), (.ref a)])) rfl (by rw [hml]; rfl) (Steps.refl _) (argsL := [(.ref ql3)]) (rest := []) (lenOf pd_322 rfl) rfl (by show 2 * 0 + _ ≤ _; exact Nat.le_of_eq rfl) (hb hby d5_39) (fun _ _ => ⟨rfl, e28, (by decide : 8 + 0 ≤ _), (by decide : 60 + 0 ≤ _)⟩)
  dsimp only [Pt.U, Pt.locs, Pt.cells, Pt.slots] at X35 l35 y35 z35 st35 hQ35
  subst l35 y35 z35
  obtain ⟨rfl, N35q, e35⟩ := hQ35
  have N35 := Fr.app N26 N35q
  refine Go.to st35 ?_
  show Go _ _ _ _ T35 (mkF m 42 #[rv a, .val .null] [(.int 0)])
  refine Go.ifY 49 X35 hx (hb hby d5_42) (XT.i0_eq_t rfl) (by decide) (by decide) ?_
  refine Go.aload1 50 X35 hx (hb hby d5_49) rfl rfl rfl ?_
  have F37 : Keep h0 h1 [] := (Keep.refl h0 []).ext E1
  have F38 : Keep h0 h10 [] := F37.ext E10
  have F39 : Keep h0 h19 [] := F38.ext E19
  have F40 : Keep h0 h28 [] := F39.ext E28
  exact Go.retAW X35 hx Bd.notSynchronized hS28 (by rw [e35]; exact hk28) hZ28 hEL (by rw [hh, e35]; exact C29) Bd.returns rfl rfl (hb hby d5_50) (by rw [e35]; exact ⟨.null, rfl, N35, F40, ⟨trivial, rfl⟩⟩) (by decide) (by decide)
def Q_rmRead3 (Z : State) (a : Addr) (av : Addr) (ka : ClassId) (b0x : Int32) (b1x : Int32) (b2x : Int32) (cs : Int32) (bT : Addr) (bF : Addr) (h0 : Heap) (n0 : Nat) (v : Option Value) (h : Heap) (L : List Loc) : Prop := ∃ rz : Value, v = some rz ∧ Fr n0 L ∧ Keep h0 h [] ∧ (((True) ∧ rz = .null))
set_option maxRecDepth 65536 in
set_option maxHeartbeats 40000000 in
theorem rmRead3 (l : Launch) (Z : State) (a0 : Array Value) (hw : ∀ d ∈ tables_1, d.before a0 Z = true) (ws : List Jvm.Cond) (a : Addr) (av : Addr) (ka : ClassId) (b0x : Int32) (b1x : Int32) (b2x : Int32) (cs : Int32) (bT : Addr) (bF : Addr) (h0 : Heap) (n0 : Nat) (Z0 : n0 ≤ h0.size) (O0 : Old Z n0 h0) (E_a : Exa Z h0 a "java/lang/String") (F_a_coder : Fld Z h0 a "java/lang/String" "coder" "B" (.int 0)) (F_a_value : Fld Z h0 a "java/lang/String" "value" "[B" (.ref av)) (V_av : Arv Z h0 av ka .byte (3 : Int32) ([(.int b0x), (.int b1x), (.int b2x)]) (.int 0)) (S_cs : Sta Z Z.heap "java/lang/String" "COMPACT_STRINGS" "Z" (.int cs)) (n_cs : ¬ cs = 0) (B0 : Sta Z Z.heap "java/lang/Boolean" "TRUE" "Ljava/lang/Boolean;" (.ref bT)) (B1 : Exa Z Z.heap bT "java/lang/Boolean") (B2 : Fld Z Z.heap bT "java/lang/Boolean" "value" "Z" (.int 1)) (B3 : Sta Z Z.heap "java/lang/Boolean" "FALSE" "Ljava/lang/Boolean;" (.ref bF)) (B4 : Exa Z Z.heap bF "java/lang/Boolean") (B5 : Fld Z Z.heap bF "java/lang/Boolean" "value" "Z" (.int 0)) :
    MetFree l (⟨"com/example/entries_to_nodes/entriestonodes/xml/XsBoolean", "read", "(Ljava/lang/String;)Ljava/lang/Boolean;"⟩ : MethodName) (head1 (Jvm.Cond.code (⟨"com/example/entries_to_nodes/entriestonodes/xml/XsBoolean", "read", "(Ljava/lang/String;)Ljava/lang/Boolean;"⟩ : MethodName) prog_27_method_2_code 2 (some (.object "java/lang/Boolean")) :: ws) ({ frames := 2, cells := 8, slots := 60, locals := 28 } : Room)) (fun as' U => as' = #[(.ref a)] ∧ Z.Warmed39 U.vm ∧ U.heap = h0 ∧ CHv Z own_EL U.vm h0) (fun _ _ _ _ _ => True) (fun _ U o U' => ∃ v L, o = .returned v ∧ Q_rmRead3 Z a av ka b0x b1x b2x cs bT bF h0 n0 v U'.heap L ∧ CHr Z own_EL U.vm U.heap U'.vm U'.heap ∧ ReturnedEndW U o U' L ({ frames := 2, cells := 8, slots := 60, locals := 28 } : Room).cells ({ frames := 2, cells := 8, slots := 60, locals := 28 } : Room).slots) := by
  refine MetFree.of_bodySF (plainFor_of_name pn_316) hisR ?_
  intro p e s m args below meth c s₁ Bd hml0 hP hK
  obtain ⟨rfl, hZ, hh, hH⟩ := hP
  have hx := Bd.exec
  have hby := Bd.bytes
  have hml : c.maxLocals = 2 := hml0
  have hown : s.vm.findClass "com/example/entries_to_nodes/entriestonodes/xml/XsBoolean" = some m.cls := findClass_of_methodNamed Bd.named
  have hnm := (name_of_methodNamed Bd.named Bd.method).1
  have X0 : Stand p l e ({ frames := 2, cells := 8, slots := 60, locals := 28 } : Room) (s.setVm s.vm) m #[(.ref a)] below meth c s₁ [] 0 0 := Stand.of_body Bd
  have e0 : s₁.heap = h0 := by rw [← hh, Bd.state]; rfl
  have N0 := Fr.nil n0
  have hS0 : s.Since s.vm s.heap.size := (State.WarmedH.refl s).since _
  have hk0 : s.heap.size ≤ h0.size := Nat.le_of_eq (by rw [hh])
  have C0 : CHr Z own_EL s.vm h0 s.vm h0 := CHr.refl hH
  have hEL := own_EW hw
  have hSA := own_SA hw
  refine Go.enter (F := EndW Z own_EL s (Q_rmRead3 Z a av ka b0x b1x b2x cs bT bF h0 n0) ({ frames := 2, cells := 8, slots := 60, locals := 28 } : Room).cells ({ frames := 2, cells := 8, slots := 60, locals := 28 } : Room).slots) (ef_317 m a) ?_
  show Go _ _ _ _ s₁ (mkF m 0 #[rv a, un] [])
  refine Go.aconst_null 1 X0 hx (hb hby d5_0) rfl ?_
  refine Go.astore1 2 X0 hx (L' := #[rv a, .val .null]) (hb hby d5_1) rfl rfl rfl ?_
  refine Go.aload1 3 X0 hx (hb hby d5_2) rfl rfl rfl ?_
  obtain ⟨ql0, T1, h1, kq1, qb0, k1, X1, e1, E1, hS1, hk1, hZ1, hown1, Ea1, Fc1, Fv1, Va1, -, -, CH1, -, sf1, st1⟩ := ldcCH X0 hx hZ hown (ow hw 30 rfl) hSA e0 hS0 hk0 hEL (List.mem_of_getElem? (i := 0) rfl) C0.1 (vs := [(.int 116), (.int 114), (.int 117), (.int 101)]) (z := (4 : Int32)) ⟨by decide, by decide⟩ (by decide) rfl (g := (mkF m 3 #[rv a, .val .null] [(.ref a)])) rfl (hb hby d5_3) (n := 16) (by decide) (by decide) (by decide) (by decide)
  have C2 : CHr Z own_EL s.vm h0 T1.vm h1 := C0.trans CH1
  refine Go.by st1 ?_
  show Go _ _ _ _ T1 (mkF m 5 #[rv a, .val .null] [(.ref ql0), (.ref a)])
  have F3 : Old Z n0 h1 := O0.ext E1
  have F4 : Fld Z h1 a "java/lang/String" "coder" "B" (.int 0) := F_a_coder.ext E1
  have F5 : Fld Z h1 a "java/lang/String" "value" "[B" (.ref av) := F_a_value.ext E1
  have F6 : Arv Z h1 av ka .byte (3 : Int32) [(.int b0x), (.int b1x), (.int b2x)] (.int 0) := V_av.ext E1
  have F7 : n0 ≤ h1.size := Nat.le_trans Z0 E1.1
  have F9 : Exa Z h1 a "java/lang/String" := E_a.ext E1
  obtain ⟨cq8, kq8, q8a, q8b, q8c⟩ := isOf hZ1 e1 F9
  obtain ⟨_, _, ⟨T8, L8, k8, n8⟩, -, X8, ⟨Lc8, hQ8, l8, y8, z8⟩, st8⟩ := X1.virtualBack hx (y := (⟨"java/lang/String", "equals", "(Ljava/lang/Object;)Z"⟩ : MethodName)) (z := (⟨"java/lang/String", "equals", "(Ljava/lang/Object;)Z"⟩ : MethodName)) hown1 (mvT hZ1 (ow hw 31 rfl)) (mvT hZ1 (ow hw 32 rfl)) (notFace_of_selects (args := #[]) (mvT hZ1 (ow hw 34 rfl))) (mvT hZ1 (ow hw 34 rfl)) (mvT hZ1 (ow hw 33 rfl)) (by decide) (backOf (W := 0) (rmSeqNe l Z a0 hw [] a ql0 av qb0 ka k1 (3 : Int32) (4 : Int32) ([(.int b0x), (.int b1x), (.int b2x)]) ([(.int 116), (.int 114), (.int 117), (.int 101)]) cs h1 n0 F7 F3 F4 F5 F6 Ea1 Fc1 Fv1 Va1 (by decide) (by decide) S_cs n_cs) hZ1 (ow hw 35 rfl) (ow hw 7 rfl) (by decide) (by decide)) q8a q8c (g := (mkF m 5 #[rv a, .val .null] [(.ref ql0), (.ref a)])) rfl (by rw [hml]; rfl) (Steps.refl _) (argsL := [(.ref ql0)]) (rest := []) (lenOf pd_322 rfl) rfl (by show 2 * 0 + _ ≤ _; exact Nat.le_of_eq rfl) (hb hby d5_5) (fun _ _ => ⟨rfl, e1, (by decide : 2 + 0 ≤ _), (by decide : 20 + 0 ≤ _)⟩)
  dsimp only [Pt.U, Pt.locs, Pt.cells, Pt.slots] at X8 l8 y8 z8 st8 hQ8
  subst l8 y8 z8
  obtain ⟨rfl, N8q, e8⟩ := hQ8
  have N8 := Fr.app N0 N8q
  refine Go.to st8 ?_
  show Go _ _ _ _ T8 (mkF m 8 #[rv a, .val .null] [(.int 0)])
  refine Go.ifN 11 X8 hx (hb hby d5_8) (XT.i0_ne_f rfl) rfl ?_
  refine Go.aload1 12 X8 hx (hb hby d5_11) rfl rfl rfl ?_
  obtain ⟨ql1, T10, h10, kq10, qb1, k10, X10, e10, E10, hS10, hk10, hZ10, hown10, Ea10, Fc10, Fv10, Va10, -, -, CH10, -, sf10, st10⟩ := ldcCH X8 hx hZ1 hown1 (ow hw 42 rfl) hSA e8 hS1 hk1 hEL (List.mem_of_getElem? (i := 1) rfl) C2.1 (vs := [(.int 49)]) (z := (1 : Int32)) ⟨by decide, by decide⟩ (by decide) rfl (g := (mkF m 12 #[rv a, .val .null] [(.ref a)])) rfl (hb hby d5_12) (n := 4) (by decide) (by decide) (by decide) (by decide)
  have C11 : CHr Z own_EL s.vm h0 T10.vm h10 := C2.trans CH10
  refine Go.by st10 ?_
  show Go _ _ _ _ T10 (mkF m 14 #[rv a, .val .null] [(.ref ql1), (.ref a)])
  have F12 : Old Z n0 h10 := F3.ext E10
  have F13 : Fld Z h10 a "java/lang/String" "coder" "B" (.int 0) := F4.ext E10
  have F14 : Fld Z h10 a "java/lang/String" "value" "[B" (.ref av) := F5.ext E10
  have F15 : Arv Z h10 av ka .byte (3 : Int32) [(.int b0x), (.int b1x), (.int b2x)] (.int 0) := F6.ext E10
  have F16 : n0 ≤ h10.size := Nat.le_trans F7 E10.1
  have F18 : Exa Z h10 a "java/lang/String" := F9.ext E10
  obtain ⟨cq17, kq17, q17a, q17b, q17c⟩ := isOf hZ10 e10 F18
  obtain ⟨_, _, ⟨T17, L17, k17, n17⟩, -, X17, ⟨Lc17, hQ17, l17, y17, z17⟩, st17⟩ := X10.virtualBack hx (y := (⟨"java/lang/String", "equals", "(Ljava/lang/Object;)Z"⟩ : MethodName)) (z := (⟨"java/lang/String", "equals", "(Ljava/lang/Object;)Z"⟩ : MethodName)) hown10 (mvT hZ10 (ow hw 31 rfl)) (mvT hZ10 (ow hw 32 rfl)) (notFace_of_selects (args := #[]) (mvT hZ10 (ow hw 34 rfl))) (mvT hZ10 (ow hw 34 rfl)) (mvT hZ10 (ow hw 33 rfl)) (by decide) (backOf (W := 0) (rmSeqNe l Z a0 hw [] a ql1 av qb1 ka k10 (3 : Int32) (1 : Int32) ([(.int b0x), (.int b1x), (.int b2x)]) ([(.int 49)]) cs h10 n0 F16 F12 F13 F14 F15 Ea10 Fc10 Fv10 Va10 (by decide) (by decide) S_cs n_cs) hZ10 (ow hw 35 rfl) (ow hw 7 rfl) (by decide) (by decide)) q17a q17c (g := (mkF m 14 #[rv a, .val .null] [(.ref ql1), (.ref a)])) rfl (by rw [hml]; rfl) (Steps.refl _) (argsL := [(.ref ql1)]) (rest := []) (lenOf pd_322 rfl) rfl (by show 2 * 0 + _ ≤ _; exact Nat.le_of_eq rfl) (hb hby d5_14) (fun _ _ => ⟨rfl, e10, (by decide : 4 + 0 ≤ _), (by decide : 28 + 0 ≤ _)⟩)
  dsimp only [Pt.U, Pt.locs, Pt.cells, Pt.slots] at X17 l17 y17 z17 st17 hQ17
  subst l17 y17 z17
  obtain ⟨rfl, N17q, e17⟩ := hQ17
  have N17 := Fr.app N8 N17q
  refine Go.to st17 ?_
  show Go _ _ _ _ T17 (mkF m 17 #[rv a, .val .null] [(.int 0)])
  refine Go.ifY 27 X17 hx (hb hby d5_17) (XT.i0_eq_t rfl) (by decide) (by decide) ?_
  refine Go.aload1 28 X17 hx (hb hby d5_27) rfl rfl rfl ?_
  obtain ⟨ql2, T19, h19, kq19, qb2, k19, X19, e19, E19, hS19, hk19, hZ19, hown19, Ea19, Fc19, Fv19, Va19, -, -, CH19, -, sf19, st19⟩ := ldcCH X17 hx hZ10 hown10 (ow hw 43 rfl) hSA e17 hS10 hk10 hEL (List.mem_of_getElem? (i := 2) rfl) C11.1 (vs := [(.int 102), (.int 97), (.int 108), (.int 115), (.int 101)]) (z := (5 : Int32)) ⟨by decide, by decide⟩ (by decide) rfl (g := (mkF m 28 #[rv a, .val .null] [(.ref a)])) rfl (hb hby d5_28) (n := 20) (by decide) (by decide) (by decide) (by decide)
  have C20 : CHr Z own_EL s.vm h0 T19.vm h19 := C11.trans CH19
  refine Go.by st19 ?_
  show Go _ _ _ _ T19 (mkF m 30 #[rv a, .val .null] [(.ref ql2), (.ref a)])
  have F21 : Old Z n0 h19 := F12.ext E19
  have F22 : Fld Z h19 a "java/lang/String" "coder" "B" (.int 0) := F13.ext E19
  have F23 : Fld Z h19 a "java/lang/String" "value" "[B" (.ref av) := F14.ext E19
  have F24 : Arv Z h19 av ka .byte (3 : Int32) [(.int b0x), (.int b1x), (.int b2x)] (.int 0) := F15.ext E19
  have F25 : n0 ≤ h19.size := Nat.le_trans F16 E19.1
  have F27 : Exa Z h19 a "java/lang/String" := F18.ext E19
  obtain ⟨cq26, kq26, q26a, q26b, q26c⟩ := isOf hZ19 e19 F27
  obtain ⟨_, _, ⟨T26, L26, k26, n26⟩, -, X26, ⟨Lc26, hQ26, l26, y26, z26⟩, st26⟩ := X19.virtualBack hx (y := (⟨"java/lang/String", "equals", "(Ljava/lang/Object;)Z"⟩ : MethodName)) (z := (⟨"java/lang/String", "equals", "(Ljava/lang/Object;)Z"⟩ : MethodName)) hown19 (mvT hZ19 (ow hw 31 rfl)) (mvT hZ19 (ow hw 32 rfl)) (notFace_of_selects (args := #[]) (mvT hZ19 (ow hw 34 rfl))) (mvT hZ19 (ow hw 34 rfl)) (mvT hZ19 (ow hw 33 rfl)) (by decide) (backOf (W := 0) (rmSeqNe l Z a0 hw [] a ql2 av qb2 ka k19 (3 : Int32) (5 : Int32) ([(.int b0x), (.int b1x), (.int b2x)]) ([(.int 102), (.int 97), (.int 108), (.int 115), (.int 101)]) cs h19 n0 F25 F21 F22 F23 F24 Ea19 Fc19 Fv19 Va19 (by decide) (by decide) S_cs n_cs) hZ19 (ow hw 35 rfl) (ow hw 7 rfl) (by decide) (by decide)) q26a q26c (g := (mkF m 30 #[rv a, .val .null] [(.ref ql2), (.ref a)])) rfl (by rw [hml]; rfl) (Steps.refl _) (argsL := [(.ref ql2)]) (rest := []) (lenOf pd_322 rfl) rfl (by show 2 * 0 + _ ≤ _; exact Nat.le_of_eq rfl) (hb hby d5_30) (fun _ _ => ⟨rfl, e19, (by decide : 6 + 0 ≤ _), (by decide : 52 + 0 ≤ _)⟩)
  dsimp only [Pt.U, Pt.locs, Pt.cells, Pt.slots] at X26 l26 y26 z26 st26 hQ26
  subst l26 y26 z26
  obtain ⟨rfl, N26q, e26⟩ := hQ26
  have N26 := Fr.app N17 N26q
  refine Go.to st26 ?_
  show Go _ _ _ _ T26 (mkF m 33 #[rv a, .val .null] [(.int 0)])
  refine Go.ifN 36 X26 hx (hb hby d5_33) (XT.i0_ne_f rfl) rfl ?_
  refine Go.aload1 37 X26 hx (hb hby d5_36) rfl rfl rfl ?_
  obtain ⟨ql3, T28, h28, kq28, qb3, k28, X28, e28, E28, hS28, hk28, hZ28, hown28, Ea28, Fc28, Fv28, Va28, -, -, CH28, -, sf28, st28⟩ := ldcCH X26 hx hZ19 hown19 (ow hw 44 rfl) hSA e26 hS19 hk19 hEL (List.mem_of_getElem? (i := 3) rfl) C20.1 (vs := [(.int 48)]) (z := (1 : Int32)) ⟨by decide, by decide⟩ (by decide) rfl (g := (mkF m 37 #[rv a, .val .null] [(.ref a)])) rfl (hb hby d5_37) (n := 4) (by decide) (by decide) (by decide) (by decide)
  have C29 : CHr Z own_EL s.vm h0 T28.vm h28 := C20.trans CH28
  refine Go.by st28 ?_
  show Go _ _ _ _ T28 (mkF m 39 #[rv a, .val .null] [(.ref ql3), (.ref a)])
  have F30 : Old Z n0 h28 := F21.ext E28
  have F31 : Fld Z h28 a "java/lang/String" "coder" "B" (.int 0) := F22.ext E28
  have F32 : Fld Z h28 a "java/lang/String" "value" "[B" (.ref av) := F23.ext E28
  have F33 : Arv Z h28 av ka .byte (3 : Int32) [(.int b0x), (.int b1x), (.int b2x)] (.int 0) := F24.ext E28
  have F34 : n0 ≤ h28.size := Nat.le_trans F25 E28.1
  have F36 : Exa Z h28 a "java/lang/String" := F27.ext E28
  obtain ⟨cq35, kq35, q35a, q35b, q35c⟩ := isOf hZ28 e28 F36
  obtain ⟨_, _, ⟨T35, L35, k35, n35⟩, -, X35, ⟨Lc35, hQ35, l35, y35, z35⟩, st35⟩ := X28.virtualBack hx (y := (⟨"java/lang/String", "equals", "(Ljava/lang/Object;)Z"⟩ : MethodName)) (z := (⟨"java/lang/String", "equals", "(Ljava/lang/Object;)Z"⟩ : MethodName)) hown28 (mvT hZ28 (ow hw 31 rfl)) (mvT hZ28 (ow hw 32 rfl)) (notFace_of_selects (args := #[]) (mvT hZ28 (ow hw 34 rfl))) (mvT hZ28 (ow hw 34 rfl)) (mvT hZ28 (ow hw 33 rfl)) (by decide) (backOf (W := 0) (rmSeqNe l Z a0 hw [] a ql3 av qb3 ka k28 (3 : Int32) (1 : Int32) ([(.int b0x), (.int b1x), (.int b2x)]) ([(.int 48)]) cs h28 n0 F34 F30 F31 F32 F33 Ea28 Fc28 Fv28 Va28 (by decide) (by decide) S_cs n_cs) hZ28 (ow hw 35 rfl) (ow hw 7 rfl) (by decide) (by decide)) q35a q35c (g := (mkF m 39 #[rv a, .val .null] [(.ref ql3), (.ref a)])) rfl (by rw [hml]; rfl) (Steps.refl _) (argsL := [(.ref ql3)]) (rest := []) (lenOf pd_322 rfl) rfl (by show 2 * 0 + _ ≤ _; exact Nat.le_of_eq rfl) (hb hby d5_39) (fun _ _ => ⟨rfl, e28, (by decide : 8 + 0 ≤ _), (by decide : 60 + 0 ≤ _)⟩)
  dsimp only [Pt.U, Pt.locs, Pt.cells, Pt.slots] at X35 l35 y35 z35 st35 hQ35
  subst l35 y35 z35
  obtain ⟨rfl, N35q, e35⟩ := hQ35
  have N35 := Fr.app N26 N35q
  refine Go.to st35 ?_
  show Go _ _ _ _ T35 (mkF m 42 #[rv a, .val .null] [(.int 0)])
  refine Go.ifY 49 X35 hx (hb hby d5_42) (XT.i0_eq_t rfl) (by decide) (by decide) ?_
  refine Go.aload1 50 X35 hx (hb hby d5_49) rfl rfl rfl ?_
  have F37 : Keep h0 h1 [] := (Keep.refl h0 []).ext E1
  have F38 : Keep h0 h10 [] := F37.ext E10
  have F39 : Keep h0 h19 [] := F38.ext E19
  have F40 : Keep h0 h28 [] := F39.ext E28
  exact Go.retAW X35 hx Bd.notSynchronized hS28 (by rw [e35]; exact hk28) hZ28 hEL (by rw [hh, e35]; exact C29) Bd.returns rfl rfl (hb hby d5_50) (by rw [e35]; exact ⟨.null, rfl, N35, F40, ⟨trivial, rfl⟩⟩) (by decide) (by decide)
def Q_rmLeq4 (Z : State) (av : Addr) (bv : Addr) (ka : ClassId) (kb : ClassId) (xe0 : Int32) (xe1 : Int32) (xe2 : Int32) (xe3 : Int32) (ye0 : Int32) (ye1 : Int32) (ye2 : Int32) (ye3 : Int32) (h0 : Heap) (n0 : Nat) (v : Option Value) (h : Heap) (L : List Loc) : Prop := ∃ r : Int32, v = some (.int r) ∧ Fr n0 L ∧ h = h0 ∧ ((r = 1 ∧ (xe0 = ye0 ∧ xe1 = ye1 ∧ xe2 = ye2 ∧ xe3 = ye3)) ∨ (r = 0 ∧ ¬ (xe0 = ye0 ∧ xe1 = ye1 ∧ xe2 = ye2 ∧ xe3 = ye3)))
set_option maxRecDepth 65536 in
set_option maxHeartbeats 40000000 in
theorem rmLeq4 (l : Launch) (Z : State) (a0 : Array Value) (hw : ∀ d ∈ tables_1, d.before a0 Z = true) (ws : List Jvm.Cond) (av : Addr) (bv : Addr) (ka : ClassId) (kb : ClassId) (xe0 : Int32) (xe1 : Int32) (xe2 : Int32) (xe3 : Int32) (ye0 : Int32) (ye1 : Int32) (ye2 : Int32) (ye3 : Int32) (h0 : Heap) (n0 : Nat) (Z0 : n0 ≤ h0.size) (V_av : Arv Z h0 av ka .byte (4 : Int32) ([(.int xe0), (.int xe1), (.int xe2), (.int xe3)]) (.int 0)) (V_bv : Arv Z h0 bv kb .byte (4 : Int32) ([(.int ye0), (.int ye1), (.int ye2), (.int ye3)]) (.int 0)) :
    MetFree l (⟨"java/lang/StringLatin1", "equals", "([B[B)Z"⟩ : MethodName) (head1 (Jvm.Cond.code (⟨"java/lang/StringLatin1", "equals", "([B[B)Z"⟩ : MethodName) jdk_43_method_13_code 3 (some .boolean) :: ws) ({ frames := 0, cells := 0, slots := 0, locals := 0 } : Room)) (fun as' U => as' = #[(.ref av), (.ref bv)] ∧ Z.Warmed39 U.vm ∧ U.heap = h0) (fun _ _ _ _ _ => True) (fun _ U o U' => ∃ v L, o = .returned v ∧ Q_rmLeq4 Z av bv ka kb xe0 xe1 xe2 xe3 ye0 ye1 ye2 ye3 h0 n0 v U'.heap L ∧ FrameEnd U o U' L ({ frames := 0, cells := 0, slots := 0, locals := 0 } : Room).cells ({ frames := 0, cells := 0, slots := 0, locals := 0 } : Room).slots) := by
  refine MetFree.of_bodySF (plainFor_of_name pn_282) hisR ?_
  intro p e s m args below meth c s₁ Bd hml0 hP hK
  obtain ⟨rfl, hZ, hh⟩ := hP
  have hx := Bd.exec
  have hby := Bd.bytes
  have hml : c.maxLocals = 3 := hml0
  have hown : s.vm.findClass "java/lang/StringLatin1" = some m.cls := findClass_of_methodNamed Bd.named
  have hnm := (name_of_methodNamed Bd.named Bd.method).1
  have X0 : Stand p l e ({ frames := 0, cells := 0, slots := 0, locals := 0 } : Room) s m #[(.ref av), (.ref bv)] below meth c s₁ [] 0 0 := Stand.of_body Bd
  have e0 : s₁.heap = h0 := by rw [← hh, Bd.state]; rfl
  have N0 := Fr.nil n0
  refine Go.enter (F := EndN s (Q_rmLeq4 Z av bv ka kb xe0 xe1 xe2 xe3 ye0 ye1 ye2 ye3 h0 n0) ({ frames := 0, cells := 0, slots := 0, locals := 0 } : Room).cells ({ frames := 0, cells := 0, slots := 0, locals := 0 } : Room).slots) (ef_283 m av bv) ?_
  show Go _ _ _ _ s₁ (mkF m 0 #[rv av, rv bv, un] [])
  refine Go.aload1 1 X0 hx (hb hby d7_0) rfl rfl rfl ?_
  obtain ⟨cl1, Ar1, -, S1, M1, -, -⟩ := id V_av
  refine Go.by (fun _ gk => X0.arraylength hx (by rw [e0]; exact Ar1.1) (State.isArrayOf_alike hZ.alike Ar1.2.1) (g := (mkF m 1 #[rv av, rv bv, un] [(.ref av)])) rfl rfl (hb hby d7_1) _ gk) ?_
  rw [len_of S1 M1]
  show Go _ _ _ _ s₁ (mkF m 2 #[rv av, rv bv, un] [(.int 4)])
  refine Go.aload1 3 X0 hx (hb hby d7_2) rfl rfl rfl ?_
  obtain ⟨cl2, Ar2, -, S2, M2, -, -⟩ := id V_bv
  refine Go.by (fun _ gk => X0.arraylength hx (by rw [e0]; exact Ar2.1) (State.isArrayOf_alike hZ.alike Ar2.2.1) (g := (mkF m 3 #[rv av, rv bv, un] [(.ref bv), (.int 4)])) rfl rfl (hb hby d7_3) _ gk) ?_
  rw [len_of S2 M2]
  show Go _ _ _ _ s₁ (mkF m 4 #[rv av, rv bv, un] [(.int 4), (.int 4)])
  refine Go.icmpN 7 X0 hx (hb hby d7_4) (XT.ii_ne_f rfl) rfl ?_
  refine Go.iconst 8 X0 hx (0 : Int32) (hb hby d7_7) (by decide) rfl ?_
  refine Go.istore1 9 X0 hx (L' := #[rv av, rv bv, iv 0]) (hb hby d7_8) rfl rfl ?_
  refine Go.iload1 10 X0 hx (hb hby d7_9) rfl rfl ?_
  refine Go.aload1 11 X0 hx (hb hby d7_10) rfl rfl rfl ?_
  obtain ⟨cl3, Ar3, -, S3, M3, -, -⟩ := id V_av
  refine Go.by (fun _ gk => X0.arraylength hx (by rw [e0]; exact Ar3.1) (State.isArrayOf_alike hZ.alike Ar3.2.1) (g := (mkF m 11 #[rv av, rv bv, iv 0] [(.ref av), (.int 0)])) rfl rfl (hb hby d7_11) _ gk) ?_
  rw [len_of S3 M3]
  show Go _ _ _ _ s₁ (mkF m 12 #[rv av, rv bv, iv 0] [(.int 4), (.int 0)])
  refine Go.icmpN 15 X0 hx (hb hby d7_12) (XT.ii_ge_f (by decide)) rfl ?_
  refine Go.aload1 16 X0 hx (hb hby d7_15) rfl rfl rfl ?_
  refine Go.iload1 17 X0 hx (hb hby d7_16) rfl rfl ?_
  obtain ⟨cl4, Ar4, -, S4, M4, H4, -⟩ := id V_av
  have hin4 : ¬ ((0 : Int32) < 0 ∨ cl4.slots.size ≤ (0 : Int32).toNatClampNeg) := inb_of S4 ⟨by decide, by decide⟩
  refine Go.by (fun _ gk => X0.baloadBytes hx (j := (0 : Int32)) (v := (.int xe0)) (by rw [e0]; exact Ar4.1) (State.isArrayOf_alike hZ.alike Ar4.2.1) Ar4.2.2 hin4 (Has.at H4 hin4 rfl) (g := (mkF m 17 #[rv av, rv bv, iv 0] [(.int 0), (.ref av)])) rfl rfl (hb hby d7_17) _ gk) ?_
  show Go _ _ _ _ s₁ (mkF m 18 #[rv av, rv bv, iv 0] [(.int xe0)])
  refine Go.aload1 19 X0 hx (hb hby d7_18) rfl rfl rfl ?_
  refine Go.iload1 20 X0 hx (hb hby d7_19) rfl rfl ?_
  obtain ⟨cl5, Ar5, -, S5, M5, H5, -⟩ := id V_bv
  have hin5 : ¬ ((0 : Int32) < 0 ∨ cl5.slots.size ≤ (0 : Int32).toNatClampNeg) := inb_of S5 ⟨by decide, by decide⟩
  refine Go.by (fun _ gk => X0.baloadBytes hx (j := (0 : Int32)) (v := (.int ye0)) (by rw [e0]; exact Ar5.1) (State.isArrayOf_alike hZ.alike Ar5.2.1) Ar5.2.2 hin5 (Has.at H5 hin5 rfl) (g := (mkF m 20 #[rv av, rv bv, iv 0] [(.int 0), (.ref bv), (.int xe0)])) rfl rfl (hb hby d7_20) _ gk) ?_
  show Go _ _ _ _ s₁ (mkF m 21 #[rv av, rv bv, iv 0] [(.int ye0), (.int xe0)])
  by_cases hb6 : xe0 = ye0
  · refine Go.icmpY 26 X0 hx (hb hby d7_21) (XT.ii_eq_t hb6) (by decide) (by decide) ?_
    refine Go.iinc 29 X0 hx (1 : Int32) (L' := #[rv av, rv bv, iv 1]) (hb hby d7_26) (by decide) rfl rfl rfl ?_
    refine Go.goto 9 X0 hx (hb hby d7_29) (by decide) (by decide) ?_
    refine Go.iload1 10 X0 hx (hb hby d7_9) rfl rfl ?_
    refine Go.aload1 11 X0 hx (hb hby d7_10) rfl rfl rfl ?_
    obtain ⟨cl7, Ar7, -, S7, M7, -, -⟩ := id V_av
    refine Go.by (fun _ gk => X0.arraylength hx (by rw [e0]; exact Ar7.1) (State.isArrayOf_alike hZ.alike Ar7.2.1) (g := (mkF m 11 #[rv av, rv bv, iv 1] [(.ref av), (.int 1)])) rfl rfl (hb hby d7_11) _ gk) ?_
    rw [len_of S7 M7]
    show Go _ _ _ _ s₁ (mkF m 12 #[rv av, rv bv, iv 1] [(.int 4), (.int 1)])
    refine Go.icmpN 15 X0 hx (hb hby d7_12) (XT.ii_ge_f (by decide)) rfl ?_
    refine Go.aload1 16 X0 hx (hb hby d7_15) rfl rfl rfl ?_
    refine Go.iload1 17 X0 hx (hb hby d7_16) rfl rfl ?_
    obtain ⟨cl8, Ar8, -, S8, M8, H8, -⟩ := id V_av
    have hin8 : ¬ ((1 : Int32) < 0 ∨ cl8.slots.size ≤ (1 : Int32).toNatClampNeg) := inb_of S8 ⟨by decide, by decide⟩
    refine Go.by (fun _ gk => X0.baloadBytes hx (j := (1 : Int32)) (v := (.int xe1)) (by rw [e0]; exact Ar8.1) (State.isArrayOf_alike hZ.alike Ar8.2.1) Ar8.2.2 hin8 (Has.at H8 hin8 rfl) (g := (mkF m 17 #[rv av, rv bv, iv 1] [(.int 1), (.ref av)])) rfl rfl (hb hby d7_17) _ gk) ?_
    show Go _ _ _ _ s₁ (mkF m 18 #[rv av, rv bv, iv 1] [(.int xe1)])
    refine Go.aload1 19 X0 hx (hb hby d7_18) rfl rfl rfl ?_
    refine Go.iload1 20 X0 hx (hb hby d7_19) rfl rfl ?_
    obtain ⟨cl9, Ar9, -, S9, M9, H9, -⟩ := id V_bv
    have hin9 : ¬ ((1 : Int32) < 0 ∨ cl9.slots.size ≤ (1 : Int32).toNatClampNeg) := inb_of S9 ⟨by decide, by decide⟩
    refine Go.by (fun _ gk => X0.baloadBytes hx (j := (1 : Int32)) (v := (.int ye1)) (by rw [e0]; exact Ar9.1) (State.isArrayOf_alike hZ.alike Ar9.2.1) Ar9.2.2 hin9 (Has.at H9 hin9 rfl) (g := (mkF m 20 #[rv av, rv bv, iv 1] [(.int 1), (.ref bv), (.int xe1)])) rfl rfl (hb hby d7_20) _ gk) ?_
    show Go _ _ _ _ s₁ (mkF m 21 #[rv av, rv bv, iv 1] [(.int ye1), (.int xe1)])
    by_cases hb10 : xe1 = ye1
    · refine Go.icmpY 26 X0 hx (hb hby d7_21) (XT.ii_eq_t hb10) (by decide) (by decide) ?_
      refine Go.iinc 29 X0 hx (1 : Int32) (L' := #[rv av, rv bv, iv 2]) (hb hby d7_26) (by decide) rfl rfl rfl ?_
      refine Go.goto 9 X0 hx (hb hby d7_29) (by decide) (by decide) ?_
      refine Go.iload1 10 X0 hx (hb hby d7_9) rfl rfl ?_
      refine Go.aload1 11 X0 hx (hb hby d7_10) rfl rfl rfl ?_
      obtain ⟨cl11, Ar11, -, S11, M11, -, -⟩ := id V_av
      refine Go.by (fun _ gk => X0.arraylength hx (by rw [e0]; exact Ar11.1) (State.isArrayOf_alike hZ.alike Ar11.2.1) (g := (mkF m 11 #[rv av, rv bv, iv 2] [(.ref av), (.int 2)])) rfl rfl (hb hby d7_11) _ gk) ?_
      rw [len_of S11 M11]
      show Go _ _ _ _ s₁ (mkF m 12 #[rv av, rv bv, iv 2] [(.int 4), (.int 2)])
      refine Go.icmpN 15 X0 hx (hb hby d7_12) (XT.ii_ge_f (by decide)) rfl ?_
      refine Go.aload1 16 X0 hx (hb hby d7_15) rfl rfl rfl ?_
      refine Go.iload1 17 X0 hx (hb hby d7_16) rfl rfl ?_
      obtain ⟨cl12, Ar12, -, S12, M12, H12, -⟩ := id V_av
      have hin12 : ¬ ((2 : Int32) < 0 ∨ cl12.slots.size ≤ (2 : Int32).toNatClampNeg) := inb_of S12 ⟨by decide, by decide⟩
      refine Go.by (fun _ gk => X0.baloadBytes hx (j := (2 : Int32)) (v := (.int xe2)) (by rw [e0]; exact Ar12.1) (State.isArrayOf_alike hZ.alike Ar12.2.1) Ar12.2.2 hin12 (Has.at H12 hin12 rfl) (g := (mkF m 17 #[rv av, rv bv, iv 2] [(.int 2), (.ref av)])) rfl rfl (hb hby d7_17) _ gk) ?_
      show Go _ _ _ _ s₁ (mkF m 18 #[rv av, rv bv, iv 2] [(.int xe2)])
      refine Go.aload1 19 X0 hx (hb hby d7_18) rfl rfl rfl ?_
      refine Go.iload1 20 X0 hx (hb hby d7_19) rfl rfl ?_
      obtain ⟨cl13, Ar13, -, S13, M13, H13, -⟩ := id V_bv
      have hin13 : ¬ ((2 : Int32) < 0 ∨ cl13.slots.size ≤ (2 : Int32).toNatClampNeg) := inb_of S13 ⟨by decide, by decide⟩
      refine Go.by (fun _ gk => X0.baloadBytes hx (j := (2 : Int32)) (v := (.int ye2)) (by rw [e0]; exact Ar13.1) (State.isArrayOf_alike hZ.alike Ar13.2.1) Ar13.2.2 hin13 (Has.at H13 hin13 rfl) (g := (mkF m 20 #[rv av, rv bv, iv 2] [(.int 2), (.ref bv), (.int xe2)])) rfl rfl (hb hby d7_20) _ gk) ?_
      show Go _ _ _ _ s₁ (mkF m 21 #[rv av, rv bv, iv 2] [(.int ye2), (.int xe2)])
      by_cases hb14 : xe2 = ye2
      · refine Go.icmpY 26 X0 hx (hb hby d7_21) (XT.ii_eq_t hb14) (by decide) (by decide) ?_
        refine Go.iinc 29 X0 hx (1 : Int32) (L' := #[rv av, rv bv, iv 3]) (hb hby d7_26) (by decide) rfl rfl rfl ?_
        refine Go.goto 9 X0 hx (hb hby d7_29) (by decide) (by decide) ?_
        refine Go.iload1 10 X0 hx (hb hby d7_9) rfl rfl ?_
        refine Go.aload1 11 X0 hx (hb hby d7_10) rfl rfl rfl ?_
        obtain ⟨cl15, Ar15, -, S15, M15, -, -⟩ := id V_av
        refine Go.by (fun _ gk => X0.arraylength hx (by rw [e0]; exact Ar15.1) (State.isArrayOf_alike hZ.alike Ar15.2.1) (g := (mkF m 11 #[rv av, rv bv, iv 3] [(.ref av), (.int 3)])) rfl rfl (hb hby d7_11) _ gk) ?_
        rw [len_of S15 M15]
        show Go _ _ _ _ s₁ (mkF m 12 #[rv av, rv bv, iv 3] [(.int 4), (.int 3)])
        refine Go.icmpN 15 X0 hx (hb hby d7_12) (XT.ii_ge_f (by decide)) rfl ?_
        refine Go.aload1 16 X0 hx (hb hby d7_15) rfl rfl rfl ?_
        refine Go.iload1 17 X0 hx (hb hby d7_16) rfl rfl ?_
        obtain ⟨cl16, Ar16, -, S16, M16, H16, -⟩ := id V_av
        have hin16 : ¬ ((3 : Int32) < 0 ∨ cl16.slots.size ≤ (3 : Int32).toNatClampNeg) := inb_of S16 ⟨by decide, by decide⟩
        refine Go.by (fun _ gk => X0.baloadBytes hx (j := (3 : Int32)) (v := (.int xe3)) (by rw [e0]; exact Ar16.1) (State.isArrayOf_alike hZ.alike Ar16.2.1) Ar16.2.2 hin16 (Has.at H16 hin16 rfl) (g := (mkF m 17 #[rv av, rv bv, iv 3] [(.int 3), (.ref av)])) rfl rfl (hb hby d7_17) _ gk) ?_
        show Go _ _ _ _ s₁ (mkF m 18 #[rv av, rv bv, iv 3] [(.int xe3)])
        refine Go.aload1 19 X0 hx (hb hby d7_18) rfl rfl rfl ?_
        refine Go.iload1 20 X0 hx (hb hby d7_19) rfl rfl ?_
        obtain ⟨cl17, Ar17, -, S17, M17, H17, -⟩ := id V_bv
        have hin17 : ¬ ((3 : Int32) < 0 ∨ cl17.slots.size ≤ (3 : Int32).toNatClampNeg) := inb_of S17 ⟨by decide, by decide⟩
        refine Go.by (fun _ gk => X0.baloadBytes hx (j := (3 : Int32)) (v := (.int ye3)) (by rw [e0]; exact Ar17.1) (State.isArrayOf_alike hZ.alike Ar17.2.1) Ar17.2.2 hin17 (Has.at H17 hin17 rfl) (g := (mkF m 20 #[rv av, rv bv, iv 3] [(.int 3), (.ref bv), (.int xe3)])) rfl rfl (hb hby d7_20) _ gk) ?_
        show Go _ _ _ _ s₁ (mkF m 21 #[rv av, rv bv, iv 3] [(.int ye3), (.int xe3)])
        by_cases hb18 : xe3 = ye3
        · refine Go.icmpY 26 X0 hx (hb hby d7_21) (XT.ii_eq_t hb18) (by decide) (by decide) ?_
          refine Go.iinc 29 X0 hx (1 : Int32) (L' := #[rv av, rv bv, iv 4]) (hb hby d7_26) (by decide) rfl rfl rfl ?_
          refine Go.goto 9 X0 hx (hb hby d7_29) (by decide) (by decide) ?_
          refine Go.iload1 10 X0 hx (hb hby d7_9) rfl rfl ?_
          refine Go.aload1 11 X0 hx (hb hby d7_10) rfl rfl rfl ?_
          obtain ⟨cl19, Ar19, -, S19, M19, -, -⟩ := id V_av
          refine Go.by (fun _ gk => X0.arraylength hx (by rw [e0]; exact Ar19.1) (State.isArrayOf_alike hZ.alike Ar19.2.1) (g := (mkF m 11 #[rv av, rv bv, iv 4] [(.ref av), (.int 4)])) rfl rfl (hb hby d7_11) _ gk) ?_
          rw [len_of S19 M19]
          show Go _ _ _ _ s₁ (mkF m 12 #[rv av, rv bv, iv 4] [(.int 4), (.int 4)])
          refine Go.icmpY 32 X0 hx (hb hby d7_12) (XT.ii_ge_t (by decide)) (by decide) (by decide) ?_
          refine Go.iconst 33 X0 hx (1 : Int32) (hb hby d7_32) (by decide) rfl ?_
          exact Go.retI X0 hx Bd.notSynchronized Bd.returns rfl (by simp) (hb hby d7_33) (by rw [e0]; exact ⟨(1 : Int32), rfl, N0, rfl, Or.inl ⟨rfl, hb6, hb10, hb14, hb18⟩⟩) (by decide) (by decide)
        · refine Go.icmpN 24 X0 hx (hb hby d7_21) (XT.ii_eq_f hb18) rfl ?_
          refine Go.iconst 25 X0 hx (0 : Int32) (hb hby d7_24) (by decide) rfl ?_
          exact Go.retI X0 hx Bd.notSynchronized Bd.returns rfl (by simp) (hb hby d7_25) (by rw [e0]; exact ⟨(0 : Int32), rfl, N0, rfl, Or.inr ⟨rfl, fun q => hb18 q.2.2.2⟩⟩) (by decide) (by decide)
      · refine Go.icmpN 24 X0 hx (hb hby d7_21) (XT.ii_eq_f hb14) rfl ?_
        refine Go.iconst 25 X0 hx (0 : Int32) (hb hby d7_24) (by decide) rfl ?_
        exact Go.retI X0 hx Bd.notSynchronized Bd.returns rfl (by simp) (hb hby d7_25) (by rw [e0]; exact ⟨(0 : Int32), rfl, N0, rfl, Or.inr ⟨rfl, fun q => hb14 q.2.2.1⟩⟩) (by decide) (by decide)
    · refine Go.icmpN 24 X0 hx (hb hby d7_21) (XT.ii_eq_f hb10) rfl ?_
      refine Go.iconst 25 X0 hx (0 : Int32) (hb hby d7_24) (by decide) rfl ?_
      exact Go.retI X0 hx Bd.notSynchronized Bd.returns rfl (by simp) (hb hby d7_25) (by rw [e0]; exact ⟨(0 : Int32), rfl, N0, rfl, Or.inr ⟨rfl, fun q => hb10 q.2.1⟩⟩) (by decide) (by decide)
  · refine Go.icmpN 24 X0 hx (hb hby d7_21) (XT.ii_eq_f hb6) rfl ?_
    refine Go.iconst 25 X0 hx (0 : Int32) (hb hby d7_24) (by decide) rfl ?_
    exact Go.retI X0 hx Bd.notSynchronized Bd.returns rfl (by simp) (hb hby d7_25) (by rw [e0]; exact ⟨(0 : Int32), rfl, N0, rfl, Or.inr ⟨rfl, fun q => hb6 q.1⟩⟩) (by decide) (by decide)
def Q_rmSeq4 (Z : State) (a : Addr) (b : Addr) (av : Addr) (bv : Addr) (ka : ClassId) (kb : ClassId) (xe0 : Int32) (xe1 : Int32) (xe2 : Int32) (xe3 : Int32) (ye0 : Int32) (ye1 : Int32) (ye2 : Int32) (ye3 : Int32) (cs : Int32) (h0 : Heap) (n0 : Nat) (v : Option Value) (h : Heap) (L : List Loc) : Prop := ∃ r : Int32, v = some (.int r) ∧ Fr n0 L ∧ h = h0 ∧ ((r = 1 ∧ (xe0 = ye0 ∧ xe1 = ye1 ∧ xe2 = ye2 ∧ xe3 = ye3)) ∨ (r = 0 ∧ ¬ (xe0 = ye0 ∧ xe1 = ye1 ∧ xe2 = ye2 ∧ xe3 = ye3)))
set_option maxRecDepth 65536 in
set_option maxHeartbeats 40000000 in
theorem rmSeq4 (l : Launch) (Z : State) (a0 : Array Value) (hw : ∀ d ∈ tables_1, d.before a0 Z = true) (ws : List Jvm.Cond) (a : Addr) (b : Addr) (av : Addr) (bv : Addr) (ka : ClassId) (kb : ClassId) (xe0 : Int32) (xe1 : Int32) (xe2 : Int32) (xe3 : Int32) (ye0 : Int32) (ye1 : Int32) (ye2 : Int32) (ye3 : Int32) (cs : Int32) (h0 : Heap) (n0 : Nat) (Z0 : n0 ≤ h0.size) (O0 : Old Z n0 h0) (F_a_coder : Fld Z h0 a "java/lang/String" "coder" "B" (.int 0)) (F_a_value : Fld Z h0 a "java/lang/String" "value" "[B" (.ref av)) (V_av : Arv Z h0 av ka .byte (4 : Int32) ([(.int xe0), (.int xe1), (.int xe2), (.int xe3)]) (.int 0)) (E_b : Exa Z h0 b "java/lang/String") (F_b_coder : Fld Z h0 b "java/lang/String" "coder" "B" (.int 0)) (F_b_value : Fld Z h0 b "java/lang/String" "value" "[B" (.ref bv)) (V_bv : Arv Z h0 bv kb .byte (4 : Int32) ([(.int ye0), (.int ye1), (.int ye2), (.int ye3)]) (.int 0)) (S_cs : Sta Z Z.heap "java/lang/String" "COMPACT_STRINGS" "Z" (.int cs)) (n_cs : ¬ cs = 0) :
    MetFree l (⟨"java/lang/String", "equals", "(Ljava/lang/Object;)Z"⟩ : MethodName) (head1 (Jvm.Cond.code (⟨"java/lang/String", "equals", "(Ljava/lang/Object;)Z"⟩ : MethodName) jdk_42_method_66_code 3 (some .boolean) :: ws) ({ frames := 1, cells := 0, slots := 0, locals := 14 } : Room)) (fun as' U => as' = #[(.ref a), (.ref b)] ∧ Z.Warmed39 U.vm ∧ U.heap = h0) (fun _ _ _ _ _ => True) (fun _ U o U' => ∃ v L, o = .returned v ∧ Q_rmSeq4 Z a b av bv ka kb xe0 xe1 xe2 xe3 ye0 ye1 ye2 ye3 cs h0 n0 v U'.heap L ∧ FrameEnd U o U' L ({ frames := 1, cells := 0, slots := 0, locals := 14 } : Room).cells ({ frames := 1, cells := 0, slots := 0, locals := 14 } : Room).slots) := by
  refine MetFree.of_bodySF (plainFor_of_name pn_1) hisR ?_
  intro p e s m args below meth c s₁ Bd hml0 hP hK
  obtain ⟨rfl, hZ, hh⟩ := hP
  have hx := Bd.exec
  have hby := Bd.bytes
  have hml : c.maxLocals = 3 := hml0
  have hown : s.vm.findClass "java/lang/String" = some m.cls := findClass_of_methodNamed Bd.named
  have hnm := (name_of_methodNamed Bd.named Bd.method).1
  have X0 : Stand p l e ({ frames := 1, cells := 0, slots := 0, locals := 14 } : Room) s m #[(.ref a), (.ref b)] below meth c s₁ [] 0 0 := Stand.of_body Bd
  have e0 : s₁.heap = h0 := by rw [← hh, Bd.state]; rfl
  have N0 := Fr.nil n0
  refine Go.enter (F := EndN s (Q_rmSeq4 Z a b av bv ka kb xe0 xe1 xe2 xe3 ye0 ye1 ye2 ye3 cs h0 n0) ({ frames := 1, cells := 0, slots := 0, locals := 14 } : Room).cells ({ frames := 1, cells := 0, slots := 0, locals := 14 } : Room).slots) (ef_283 m a b) ?_
  show Go _ _ _ _ s₁ (mkF m 0 #[rv a, rv b, un] [])
  refine Go.aload1 1 X0 hx (hb hby d6_0) rfl rfl rfl ?_
  refine Go.aload1 2 X0 hx (hb hby d6_1) rfl rfl rfl ?_
  rcases Classical.em (a = b) with rfl | hab
  · show Go _ _ _ _ s₁ (mkF m 2 #[rv a, rv a, un] [(.ref a), (.ref a)])
    refine Go.by (fun _ gk => XT.acmpNo X0.here hx rfl (hb hby d6_2) rfl rfl rfl (XT.aa_ne_f rfl) gk) ?_
    show Go _ _ _ _ s₁ (mkF m 5 #[rv a, rv a, un] [])
    refine Go.iconst 6 X0 hx (1 : Int32) (hb hby d6_5) (by decide) rfl ?_
    obtain rfl : av = bv := Value.ref.inj (own_fld_same F_a_value F_b_value)
    exact Go.retI X0 hx Bd.notSynchronized Bd.returns rfl (by simp) (hb hby d6_6) (by rw [e0]; exact ⟨(1 : Int32), rfl, N0, rfl, Or.inl ⟨rfl, Value.int.inj (own_arv_same V_av V_bv 0 (by decide)), Value.int.inj (own_arv_same V_av V_bv 1 (by decide)), Value.int.inj (own_arv_same V_av V_bv 2 (by decide)), Value.int.inj (own_arv_same V_av V_bv 3 (by decide))⟩⟩) (by decide) (by decide)
  · refine Go.by (fun _ gk => XT.acmpYes X0.here hx rfl (pc0 := 2) (pc' := 7) rfl (hb hby d6_2) rfl rfl rfl (XT.aa_ne_t (fun q => hab (Value.ref.inj q))) (by decide) (by decide) gk) ?_
    show Go _ _ _ _ s₁ (mkF m 7 #[rv a, rv b, un] [])
    refine Go.aload1 8 X0 hx (hb hby d6_7) rfl rfl rfl ?_
    obtain ⟨T1, X1, e1, st1⟩ := instY X0 hx hZ hown (ow hw 36 rfl) e0 (Ins.self E_b) (g := (mkF m 8 #[rv a, rv b, un] [(.ref b)])) rfl rfl (hb hby d6_8)
    refine Go.by st1 ?_
    show Go _ _ _ _ T1 (mkF m 11 #[rv a, rv b, un] [(.int 1)])
    refine Go.ifN 14 X1 hx (hb hby d6_11) (XT.i0_eq_f (by decide)) rfl ?_
    refine Go.aload1 15 X1 hx (hb hby d6_14) rfl rfl rfl ?_
    obtain ⟨T2, X2, e2, st2⟩ := castY X1 hx hZ hown (ow hw 36 rfl) e1 (Ins.self E_b) (g := (mkF m 15 #[rv a, rv b, un] [(.ref b)])) rfl rfl (hb hby d6_15)
    refine Go.by st2 ?_
    show Go _ _ _ _ T2 (mkF m 18 #[rv a, rv b, un] [(.ref b)])
    refine Go.astore1 19 X2 hx (L' := #[rv a, rv b, rv b]) (hb hby d6_18) rfl rfl rfl ?_
    have F3 : Sta Z h0 "java/lang/String" "COMPACT_STRINGS" "Z" (.int cs) := S_cs.ext O0.2
    obtain ⟨T4, X4, e4, st4⟩ := getS2 X2 hx hZ hown (host := "") (Or.inl (ow hw 37 rfl)) Via.refl e2 F3 (g := (mkF m 19 #[rv a, rv b, rv b] [])) rfl (hb hby d6_19)
    refine Go.by st4 ?_
    show Go _ _ _ _ T4 (mkF m 22 #[rv a, rv b, rv b] [(.int cs)])
    refine Go.ifN 25 X4 hx (hb hby d6_22) (XT.i0_eq_f n_cs) rfl ?_
    refine Go.aload1 26 X4 hx (hb hby d6_25) rfl rfl rfl ?_
    obtain ⟨T5, X5, e5, st5⟩ := getF X4 hx hZ hown (host := "") (Or.inl (ow hw 25 rfl)) Via.refl e4 F_a_coder (g := (mkF m 26 #[rv a, rv b, rv b] [(.ref a)])) rfl rfl (hb hby d6_26)
    refine Go.by st5 ?_
    show Go _ _ _ _ T5 (mkF m 29 #[rv a, rv b, rv b] [(.int 0)])
    refine Go.aload1 30 X5 hx (hb hby d6_29) rfl rfl rfl ?_
    obtain ⟨T6, X6, e6, st6⟩ := getF X5 hx hZ hown (host := "") (Or.inl (ow hw 25 rfl)) Via.refl e5 F_b_coder (g := (mkF m 30 #[rv a, rv b, rv b] [(.ref b), (.int 0)])) rfl rfl (hb hby d6_30)
    refine Go.by st6 ?_
    show Go _ _ _ _ T6 (mkF m 33 #[rv a, rv b, rv b] [(.int 0), (.int 0)])
    refine Go.icmpN 36 X6 hx (hb hby d6_33) (XT.ii_ne_f rfl) rfl ?_
    refine Go.aload1 37 X6 hx (hb hby d6_36) rfl rfl rfl ?_
    obtain ⟨T7, X7, e7, st7⟩ := getF X6 hx hZ hown (host := "") (Or.inl (ow hw 24 rfl)) Via.refl e6 F_a_value (g := (mkF m 37 #[rv a, rv b, rv b] [(.ref a)])) rfl rfl (hb hby d6_37)
    refine Go.by st7 ?_
    show Go _ _ _ _ T7 (mkF m 40 #[rv a, rv b, rv b] [(.ref av)])
    refine Go.aload1 41 X7 hx (hb hby d6_40) rfl rfl rfl ?_
    obtain ⟨T8, X8, e8, st8⟩ := getF X7 hx hZ hown (host := "") (Or.inl (ow hw 24 rfl)) Via.refl e7 F_b_value (g := (mkF m 41 #[rv a, rv b, rv b] [(.ref b), (.ref av)])) rfl rfl (hb hby d6_41)
    refine Go.by st8 ?_
    show Go _ _ _ _ T8 (mkF m 44 #[rv a, rv b, rv b] [(.ref bv), (.ref av)])
    obtain ⟨_, _, ⟨T9, L9, k9, n9⟩, -, X9, ⟨Lc9, hQ9, l9, y9, z9⟩, st9⟩ := Jvm.LawKit.callS X8 hx (y := (⟨"java/lang/StringLatin1", "equals", "([B[B)Z"⟩ : MethodName)) hown (mvT hZ (ow hw 38 rfl)) (mvT hZ (ow hw 39 rfl)) (mvT hZ (ow hw 40 rfl)) (mvT hZ (ow hw 41 rfl)) (by decide) (backOf (W := 0) (rmLeq4 l Z a0 hw [] av bv ka kb xe0 xe1 xe2 xe3 ye0 ye1 ye2 ye3 h0 n0 Z0 V_av V_bv) hZ (ow hw 41 rfl) (ow hw 40 rfl) (by decide) (by decide)) (g := (mkF m 44 #[rv a, rv b, rv b] [(.ref bv), (.ref av)])) rfl (by rw [hml]; rfl) (argsL := [(.ref av), (.ref bv)]) (rest := []) (lenOf pd_311 rfl) rfl (by show 2 * 0 + _ ≤ _; exact Nat.le_of_eq rfl) (hb hby d6_44) (fun _ _ => ⟨rfl, e8, (by decide : 0 + 0 ≤ _), (by decide : 0 + 0 ≤ _)⟩)
    dsimp only [Pt.U, Pt.locs, Pt.cells, Pt.slots] at X9 l9 y9 z9 st9 hQ9
    subst l9 y9 z9
    obtain ⟨r, rfl, N9q, e9, Q9_0⟩ := hQ9
    have N9 := Fr.app N0 N9q
    refine Go.by st9 ?_
    show Go _ _ _ _ T9 (mkF m 47 #[rv a, rv b, rv b] [(.int r)])
    rcases Q9_0 with ⟨rfl, hE⟩ | ⟨rfl, hE⟩
    · show Go _ _ _ _ T9 (mkF m 47 #[rv a, rv b, rv b] [(.int 1)])
      refine Go.ifN 50 X9 hx (hb hby d6_47) (XT.i0_eq_f (by decide)) rfl ?_
      refine Go.iconst 51 X9 hx (1 : Int32) (hb hby d6_50) (by decide) rfl ?_
      refine Go.goto 55 X9 hx (hb hby d6_51) (by decide) (by decide) ?_
      exact Go.retI X9 hx Bd.notSynchronized Bd.returns rfl (by simp) (hb hby d6_55) (by rw [e9]; exact ⟨(1 : Int32), rfl, N9, rfl, Or.inl ⟨rfl, hE⟩⟩) (by decide) (by decide)
    · show Go _ _ _ _ T9 (mkF m 47 #[rv a, rv b, rv b] [(.int 0)])
      refine Go.ifY 54 X9 hx (hb hby d6_47) (XT.i0_eq_t rfl) (by decide) (by decide) ?_
      refine Go.iconst 55 X9 hx (0 : Int32) (hb hby d6_54) (by decide) rfl ?_
      exact Go.retI X9 hx Bd.notSynchronized Bd.returns rfl (by simp) (hb hby d6_55) (by rw [e9]; exact ⟨(0 : Int32), rfl, N9, rfl, Or.inr ⟨rfl, hE⟩⟩) (by decide) (by decide)
def Q_rmRead4 (Z : State) (a : Addr) (av : Addr) (ka : ClassId) (b0x : Int32) (b1x : Int32) (b2x : Int32) (b3x : Int32) (cs : Int32) (bT : Addr) (bF : Addr) (h0 : Heap) (n0 : Nat) (v : Option Value) (h : Heap) (L : List Loc) : Prop := ∃ rz : Value, v = some rz ∧ Fr n0 L ∧ Keep h0 h [] ∧ (((b0x = 116 ∧ b1x = 114 ∧ b2x = 117 ∧ b3x = 101) ∧ rz = .ref bT) ∨ ((¬ (b0x = 116 ∧ b1x = 114 ∧ b2x = 117 ∧ b3x = 101)) ∧ rz = .null))
set_option maxRecDepth 65536 in
set_option maxHeartbeats 40000000 in
theorem rmRead4 (l : Launch) (Z : State) (a0 : Array Value) (hw : ∀ d ∈ tables_1, d.before a0 Z = true) (ws : List Jvm.Cond) (a : Addr) (av : Addr) (ka : ClassId) (b0x : Int32) (b1x : Int32) (b2x : Int32) (b3x : Int32) (cs : Int32) (bT : Addr) (bF : Addr) (h0 : Heap) (n0 : Nat) (Z0 : n0 ≤ h0.size) (O0 : Old Z n0 h0) (E_a : Exa Z h0 a "java/lang/String") (F_a_coder : Fld Z h0 a "java/lang/String" "coder" "B" (.int 0)) (F_a_value : Fld Z h0 a "java/lang/String" "value" "[B" (.ref av)) (V_av : Arv Z h0 av ka .byte (4 : Int32) ([(.int b0x), (.int b1x), (.int b2x), (.int b3x)]) (.int 0)) (S_cs : Sta Z Z.heap "java/lang/String" "COMPACT_STRINGS" "Z" (.int cs)) (n_cs : ¬ cs = 0) (B0 : Sta Z Z.heap "java/lang/Boolean" "TRUE" "Ljava/lang/Boolean;" (.ref bT)) (B1 : Exa Z Z.heap bT "java/lang/Boolean") (B2 : Fld Z Z.heap bT "java/lang/Boolean" "value" "Z" (.int 1)) (B3 : Sta Z Z.heap "java/lang/Boolean" "FALSE" "Ljava/lang/Boolean;" (.ref bF)) (B4 : Exa Z Z.heap bF "java/lang/Boolean") (B5 : Fld Z Z.heap bF "java/lang/Boolean" "value" "Z" (.int 0)) :
    MetFree l (⟨"com/example/entries_to_nodes/entriestonodes/xml/XsBoolean", "read", "(Ljava/lang/String;)Ljava/lang/Boolean;"⟩ : MethodName) (head1 (Jvm.Cond.code (⟨"com/example/entries_to_nodes/entriestonodes/xml/XsBoolean", "read", "(Ljava/lang/String;)Ljava/lang/Boolean;"⟩ : MethodName) prog_27_method_2_code 2 (some (.object "java/lang/Boolean")) :: ws) ({ frames := 2, cells := 8, slots := 60, locals := 28 } : Room)) (fun as' U => as' = #[(.ref a)] ∧ Z.Warmed39 U.vm ∧ U.heap = h0 ∧ CHv Z own_EL U.vm h0) (fun _ _ _ _ _ => True) (fun _ U o U' => ∃ v L, o = .returned v ∧ Q_rmRead4 Z a av ka b0x b1x b2x b3x cs bT bF h0 n0 v U'.heap L ∧ CHr Z own_EL U.vm U.heap U'.vm U'.heap ∧ ReturnedEndW U o U' L ({ frames := 2, cells := 8, slots := 60, locals := 28 } : Room).cells ({ frames := 2, cells := 8, slots := 60, locals := 28 } : Room).slots) := by
  refine MetFree.of_bodySF (plainFor_of_name pn_316) hisR ?_
  intro p e s m args below meth c s₁ Bd hml0 hP hK
  obtain ⟨rfl, hZ, hh, hH⟩ := hP
  have hx := Bd.exec
  have hby := Bd.bytes
  have hml : c.maxLocals = 2 := hml0
  have hown : s.vm.findClass "com/example/entries_to_nodes/entriestonodes/xml/XsBoolean" = some m.cls := findClass_of_methodNamed Bd.named
  have hnm := (name_of_methodNamed Bd.named Bd.method).1
  have X0 : Stand p l e ({ frames := 2, cells := 8, slots := 60, locals := 28 } : Room) (s.setVm s.vm) m #[(.ref a)] below meth c s₁ [] 0 0 := Stand.of_body Bd
  have e0 : s₁.heap = h0 := by rw [← hh, Bd.state]; rfl
  have N0 := Fr.nil n0
  have hS0 : s.Since s.vm s.heap.size := (State.WarmedH.refl s).since _
  have hk0 : s.heap.size ≤ h0.size := Nat.le_of_eq (by rw [hh])
  have C0 : CHr Z own_EL s.vm h0 s.vm h0 := CHr.refl hH
  have hEL := own_EW hw
  have hSA := own_SA hw
  refine Go.enter (F := EndW Z own_EL s (Q_rmRead4 Z a av ka b0x b1x b2x b3x cs bT bF h0 n0) ({ frames := 2, cells := 8, slots := 60, locals := 28 } : Room).cells ({ frames := 2, cells := 8, slots := 60, locals := 28 } : Room).slots) (ef_317 m a) ?_
  show Go _ _ _ _ s₁ (mkF m 0 #[rv a, un] [])
  refine Go.aconst_null 1 X0 hx (hb hby d5_0) rfl ?_
  refine Go.astore1 2 X0 hx (L' := #[rv a, .val .null]) (hb hby d5_1) rfl rfl rfl ?_
  refine Go.aload1 3 X0 hx (hb hby d5_2) rfl rfl rfl ?_
  obtain ⟨ql0, T1, h1, kq1, qb0, k1, X1, e1, E1, hS1, hk1, hZ1, hown1, Ea1, Fc1, Fv1, Va1, -, -, CH1, -, sf1, st1⟩ := ldcCH X0 hx hZ hown (ow hw 30 rfl) hSA e0 hS0 hk0 hEL (List.mem_of_getElem? (i := 0) rfl) C0.1 (vs := [(.int 116), (.int 114), (.int 117), (.int 101)]) (z := (4 : Int32)) ⟨by decide, by decide⟩ (by decide) rfl (g := (mkF m 3 #[rv a, .val .null] [(.ref a)])) rfl (hb hby d5_3) (n := 16) (by decide) (by decide) (by decide) (by decide)
  have C2 : CHr Z own_EL s.vm h0 T1.vm h1 := C0.trans CH1
  refine Go.by st1 ?_
  show Go _ _ _ _ T1 (mkF m 5 #[rv a, .val .null] [(.ref ql0), (.ref a)])
  have F3 : Old Z n0 h1 := O0.ext E1
  have F4 : Fld Z h1 a "java/lang/String" "coder" "B" (.int 0) := F_a_coder.ext E1
  have F5 : Fld Z h1 a "java/lang/String" "value" "[B" (.ref av) := F_a_value.ext E1
  have F6 : Arv Z h1 av ka .byte (4 : Int32) [(.int b0x), (.int b1x), (.int b2x), (.int b3x)] (.int 0) := V_av.ext E1
  have F7 : n0 ≤ h1.size := Nat.le_trans Z0 E1.1
  have F9 : Exa Z h1 a "java/lang/String" := E_a.ext E1
  obtain ⟨cq8, kq8, q8a, q8b, q8c⟩ := isOf hZ1 e1 F9
  obtain ⟨_, _, ⟨T8, L8, k8, n8⟩, -, X8, ⟨Lc8, hQ8, l8, y8, z8⟩, st8⟩ := X1.virtualBack hx (y := (⟨"java/lang/String", "equals", "(Ljava/lang/Object;)Z"⟩ : MethodName)) (z := (⟨"java/lang/String", "equals", "(Ljava/lang/Object;)Z"⟩ : MethodName)) hown1 (mvT hZ1 (ow hw 31 rfl)) (mvT hZ1 (ow hw 32 rfl)) (notFace_of_selects (args := #[]) (mvT hZ1 (ow hw 34 rfl))) (mvT hZ1 (ow hw 34 rfl)) (mvT hZ1 (ow hw 33 rfl)) (by decide) (backOf (W := 0) (rmSeq4 l Z a0 hw [] a ql0 av qb0 ka k1 b0x b1x b2x b3x (116 : Int32) (114 : Int32) (117 : Int32) (101 : Int32) cs h1 n0 F7 F3 F4 F5 F6 Ea1 Fc1 Fv1 Va1 S_cs n_cs) hZ1 (ow hw 35 rfl) (ow hw 7 rfl) (by decide) (by decide)) q8a q8c (g := (mkF m 5 #[rv a, .val .null] [(.ref ql0), (.ref a)])) rfl (by rw [hml]; rfl) (Steps.refl _) (argsL := [(.ref ql0)]) (rest := []) (lenOf pd_322 rfl) rfl (by show 2 * 0 + _ ≤ _; exact Nat.le_of_eq rfl) (hb hby d5_5) (fun _ _ => ⟨rfl, e1, (by decide : 2 + 0 ≤ _), (by decide : 20 + 0 ≤ _)⟩)
  dsimp only [Pt.U, Pt.locs, Pt.cells, Pt.slots] at X8 l8 y8 z8 st8 hQ8
  subst l8 y8 z8
  obtain ⟨r0q, rfl, N8q, e8, Q8_0⟩ := hQ8
  have N8 := Fr.app N0 N8q
  refine Go.to st8 ?_
  show Go _ _ _ _ T8 (mkF m 8 #[rv a, .val .null] [(.int r0q)])
  rcases Q8_0 with ⟨rfl, hE0⟩ | ⟨rfl, hE0⟩
  · show Go _ _ _ _ T8 (mkF m 8 #[rv a, .val .null] [(.int 1)])
    refine Go.ifY 20 X8 hx (hb hby d5_8) (XT.i0_ne_t (by decide)) (by decide) (by decide) ?_
    have F10 : Sta Z h1 "java/lang/Boolean" "TRUE" "Ljava/lang/Boolean;" (.ref bT) := B0.ext F3.2
    obtain ⟨T11, X11, e11, st11⟩ := getS2 X8 hx hZ1 hown1 (host := "") (Or.inl (ow hw 55 rfl)) Via.refl e8 F10 (g := (mkF m 20 #[rv a, .val .null] [])) rfl (hb hby d5_20)
    refine Go.by st11 ?_
    show Go _ _ _ _ T11 (mkF m 23 #[rv a, .val .null] [(.ref bT)])
    refine Go.astore1 24 X11 hx (L' := #[rv a, rv bT]) (hb hby d5_23) rfl rfl rfl ?_
    refine Go.goto 49 X11 hx (hb hby d5_24) (by decide) (by decide) ?_
    refine Go.aload1 50 X11 hx (hb hby d5_49) rfl rfl rfl ?_
    have F12 : Keep h0 h1 [] := (Keep.refl h0 []).ext E1
    exact Go.retAW X11 hx Bd.notSynchronized hS1 (by rw [e11]; exact hk1) hZ1 hEL (by rw [hh, e11]; exact C2) Bd.returns rfl rfl (hb hby d5_50) (by rw [e11]; exact ⟨(.ref bT), rfl, N8, F12, Or.inl ⟨hE0, rfl⟩⟩) (by decide) (by decide)
  · show Go _ _ _ _ T8 (mkF m 8 #[rv a, .val .null] [(.int 0)])
    refine Go.ifN 11 X8 hx (hb hby d5_8) (XT.i0_ne_f rfl) rfl ?_
    refine Go.aload1 12 X8 hx (hb hby d5_11) rfl rfl rfl ?_
    obtain ⟨ql1, T13, h13, kq13, qb1, k13, X13, e13, E13, hS13, hk13, hZ13, hown13, Ea13, Fc13, Fv13, Va13, -, -, CH13, -, sf13, st13⟩ := ldcCH X8 hx hZ1 hown1 (ow hw 42 rfl) hSA e8 hS1 hk1 hEL (List.mem_of_getElem? (i := 1) rfl) C2.1 (vs := [(.int 49)]) (z := (1 : Int32)) ⟨by decide, by decide⟩ (by decide) rfl (g := (mkF m 12 #[rv a, .val .null] [(.ref a)])) rfl (hb hby d5_12) (n := 4) (by decide) (by decide) (by decide) (by decide)
    have C14 : CHr Z own_EL s.vm h0 T13.vm h13 := C2.trans CH13
    refine Go.by st13 ?_
    show Go _ _ _ _ T13 (mkF m 14 #[rv a, .val .null] [(.ref ql1), (.ref a)])
    have F15 : Old Z n0 h13 := F3.ext E13
    have F16 : Fld Z h13 a "java/lang/String" "coder" "B" (.int 0) := F4.ext E13
    have F17 : Fld Z h13 a "java/lang/String" "value" "[B" (.ref av) := F5.ext E13
    have F18 : Arv Z h13 av ka .byte (4 : Int32) [(.int b0x), (.int b1x), (.int b2x), (.int b3x)] (.int 0) := F6.ext E13
    have F19 : n0 ≤ h13.size := Nat.le_trans F7 E13.1
    have F21 : Exa Z h13 a "java/lang/String" := F9.ext E13
    obtain ⟨cq20, kq20, q20a, q20b, q20c⟩ := isOf hZ13 e13 F21
    obtain ⟨_, _, ⟨T20, L20, k20, n20⟩, -, X20, ⟨Lc20, hQ20, l20, y20, z20⟩, st20⟩ := X13.virtualBack hx (y := (⟨"java/lang/String", "equals", "(Ljava/lang/Object;)Z"⟩ : MethodName)) (z := (⟨"java/lang/String", "equals", "(Ljava/lang/Object;)Z"⟩ : MethodName)) hown13 (mvT hZ13 (ow hw 31 rfl)) (mvT hZ13 (ow hw 32 rfl)) (notFace_of_selects (args := #[]) (mvT hZ13 (ow hw 34 rfl))) (mvT hZ13 (ow hw 34 rfl)) (mvT hZ13 (ow hw 33 rfl)) (by decide) (backOf (W := 0) (rmSeqNe l Z a0 hw [] a ql1 av qb1 ka k13 (4 : Int32) (1 : Int32) ([(.int b0x), (.int b1x), (.int b2x), (.int b3x)]) ([(.int 49)]) cs h13 n0 F19 F15 F16 F17 F18 Ea13 Fc13 Fv13 Va13 (by decide) (by decide) S_cs n_cs) hZ13 (ow hw 35 rfl) (ow hw 7 rfl) (by decide) (by decide)) q20a q20c (g := (mkF m 14 #[rv a, .val .null] [(.ref ql1), (.ref a)])) rfl (by rw [hml]; rfl) (Steps.refl _) (argsL := [(.ref ql1)]) (rest := []) (lenOf pd_322 rfl) rfl (by show 2 * 0 + _ ≤ _; exact Nat.le_of_eq rfl) (hb hby d5_14) (fun _ _ => ⟨rfl, e13, (by decide : 4 + 0 ≤ _), (by decide : 28 + 0 ≤ _)⟩)
    dsimp only [Pt.U, Pt.locs, Pt.cells, Pt.slots] at X20 l20 y20 z20 st20 hQ20
    subst l20 y20 z20
    obtain ⟨rfl, N20q, e20⟩ := hQ20
    have N20 := Fr.app N8 N20q
    refine Go.to st20 ?_
    show Go _ _ _ _ T20 (mkF m 17 #[rv a, .val .null] [(.int 0)])
    refine Go.ifY 27 X20 hx (hb hby d5_17) (XT.i0_eq_t rfl) (by decide) (by decide) ?_
    refine Go.aload1 28 X20 hx (hb hby d5_27) rfl rfl rfl ?_
    obtain ⟨ql2, T22, h22, kq22, qb2, k22, X22, e22, E22, hS22, hk22, hZ22, hown22, Ea22, Fc22, Fv22, Va22, -, -, CH22, -, sf22, st22⟩ := ldcCH X20 hx hZ13 hown13 (ow hw 43 rfl) hSA e20 hS13 hk13 hEL (List.mem_of_getElem? (i := 2) rfl) C14.1 (vs := [(.int 102), (.int 97), (.int 108), (.int 115), (.int 101)]) (z := (5 : Int32)) ⟨by decide, by decide⟩ (by decide) rfl (g := (mkF m 28 #[rv a, .val .null] [(.ref a)])) rfl (hb hby d5_28) (n := 20) (by decide) (by decide) (by decide) (by decide)
    have C23 : CHr Z own_EL s.vm h0 T22.vm h22 := C14.trans CH22
    refine Go.by st22 ?_
    show Go _ _ _ _ T22 (mkF m 30 #[rv a, .val .null] [(.ref ql2), (.ref a)])
    have F24 : Old Z n0 h22 := F15.ext E22
    have F25 : Fld Z h22 a "java/lang/String" "coder" "B" (.int 0) := F16.ext E22
    have F26 : Fld Z h22 a "java/lang/String" "value" "[B" (.ref av) := F17.ext E22
    have F27 : Arv Z h22 av ka .byte (4 : Int32) [(.int b0x), (.int b1x), (.int b2x), (.int b3x)] (.int 0) := F18.ext E22
    have F28 : n0 ≤ h22.size := Nat.le_trans F19 E22.1
    have F30 : Exa Z h22 a "java/lang/String" := F21.ext E22
    obtain ⟨cq29, kq29, q29a, q29b, q29c⟩ := isOf hZ22 e22 F30
    obtain ⟨_, _, ⟨T29, L29, k29, n29⟩, -, X29, ⟨Lc29, hQ29, l29, y29, z29⟩, st29⟩ := X22.virtualBack hx (y := (⟨"java/lang/String", "equals", "(Ljava/lang/Object;)Z"⟩ : MethodName)) (z := (⟨"java/lang/String", "equals", "(Ljava/lang/Object;)Z"⟩ : MethodName)) hown22 (mvT hZ22 (ow hw 31 rfl)) (mvT hZ22 (ow hw 32 rfl)) (notFace_of_selects (args := #[]) (mvT hZ22 (ow hw 34 rfl))) (mvT hZ22 (ow hw 34 rfl)) (mvT hZ22 (ow hw 33 rfl)) (by decide) (backOf (W := 0) (rmSeqNe l Z a0 hw [] a ql2 av qb2 ka k22 (4 : Int32) (5 : Int32) ([(.int b0x), (.int b1x), (.int b2x), (.int b3x)]) ([(.int 102), (.int 97), (.int 108), (.int 115), (.int 101)]) cs h22 n0 F28 F24 F25 F26 F27 Ea22 Fc22 Fv22 Va22 (by decide) (by decide) S_cs n_cs) hZ22 (ow hw 35 rfl) (ow hw 7 rfl) (by decide) (by decide)) q29a q29c (g := (mkF m 30 #[rv a, .val .null] [(.ref ql2), (.ref a)])) rfl (by rw [hml]; rfl) (Steps.refl _) (argsL := [(.ref ql2)]) (rest := []) (lenOf pd_322 rfl) rfl (by show 2 * 0 + _ ≤ _; exact Nat.le_of_eq rfl) (hb hby d5_30) (fun _ _ => ⟨rfl, e22, (by decide : 6 + 0 ≤ _), (by decide : 52 + 0 ≤ _)⟩)
    dsimp only [Pt.U, Pt.locs, Pt.cells, Pt.slots] at X29 l29 y29 z29 st29 hQ29
    subst l29 y29 z29
    obtain ⟨rfl, N29q, e29⟩ := hQ29
    have N29 := Fr.app N20 N29q
    refine Go.to st29 ?_
    show Go _ _ _ _ T29 (mkF m 33 #[rv a, .val .null] [(.int 0)])
    refine Go.ifN 36 X29 hx (hb hby d5_33) (XT.i0_ne_f rfl) rfl ?_
    refine Go.aload1 37 X29 hx (hb hby d5_36) rfl rfl rfl ?_
    obtain ⟨ql3, T31, h31, kq31, qb3, k31, X31, e31, E31, hS31, hk31, hZ31, hown31, Ea31, Fc31, Fv31, Va31, -, -, CH31, -, sf31, st31⟩ := ldcCH X29 hx hZ22 hown22 (ow hw 44 rfl) hSA e29 hS22 hk22 hEL (List.mem_of_getElem? (i := 3) rfl) C23.1 (vs := [(.int 48)]) (z := (1 : Int32)) ⟨by decide, by decide⟩ (by decide) rfl (g := (mkF m 37 #[rv a, .val .null] [(.ref a)])) rfl (hb hby d5_37) (n := 4) (by decide) (by decide) (by decide) (by decide)
    have C32 : CHr Z own_EL s.vm h0 T31.vm h31 := C23.trans CH31
    refine Go.by st31 ?_
    show Go _ _ _ _ T31 (mkF m 39 #[rv a, .val .null] [(.ref ql3), (.ref a)])
    have F33 : Old Z n0 h31 := F24.ext E31
    have F34 : Fld Z h31 a "java/lang/String" "coder" "B" (.int 0) := F25.ext E31
    have F35 : Fld Z h31 a "java/lang/String" "value" "[B" (.ref av) := F26.ext E31
    have F36 : Arv Z h31 av ka .byte (4 : Int32) [(.int b0x), (.int b1x), (.int b2x), (.int b3x)] (.int 0) := F27.ext E31
    have F37 : n0 ≤ h31.size := Nat.le_trans F28 E31.1
    have F39 : Exa Z h31 a "java/lang/String" := F30.ext E31
    obtain ⟨cq38, kq38, q38a, q38b, q38c⟩ := isOf hZ31 e31 F39
    obtain ⟨_, _, ⟨T38, L38, k38, n38⟩, -, X38, ⟨Lc38, hQ38, l38, y38, z38⟩, st38⟩ := X31.virtualBack hx (y := (⟨"java/lang/String", "equals", "(Ljava/lang/Object;)Z"⟩ : MethodName)) (z := (⟨"java/lang/String", "equals", "(Ljava/lang/Object;)Z"⟩ : MethodName)) hown31 (mvT hZ31 (ow hw 31 rfl)) (mvT hZ31 (ow hw 32 rfl)) (notFace_of_selects (args := #[]) (mvT hZ31 (ow hw 34 rfl))) (mvT hZ31 (ow hw 34 rfl)) (mvT hZ31 (ow hw 33 rfl)) (by decide) (backOf (W := 0) (rmSeqNe l Z a0 hw [] a ql3 av qb3 ka k31 (4 : Int32) (1 : Int32) ([(.int b0x), (.int b1x), (.int b2x), (.int b3x)]) ([(.int 48)]) cs h31 n0 F37 F33 F34 F35 F36 Ea31 Fc31 Fv31 Va31 (by decide) (by decide) S_cs n_cs) hZ31 (ow hw 35 rfl) (ow hw 7 rfl) (by decide) (by decide)) q38a q38c (g := (mkF m 39 #[rv a, .val .null] [(.ref ql3), (.ref a)])) rfl (by rw [hml]; rfl) (Steps.refl _) (argsL := [(.ref ql3)]) (rest := []) (lenOf pd_322 rfl) rfl (by show 2 * 0 + _ ≤ _; exact Nat.le_of_eq rfl) (hb hby d5_39) (fun _ _ => ⟨rfl, e31, (by decide : 8 + 0 ≤ _), (by decide : 60 + 0 ≤ _)⟩)
    dsimp only [Pt.U, Pt.locs, Pt.cells, Pt.slots] at X38 l38 y38 z38 st38 hQ38
    subst l38 y38 z38
    obtain ⟨rfl, N38q, e38⟩ := hQ38
    have N38 := Fr.app N29 N38q
    refine Go.to st38 ?_
    show Go _ _ _ _ T38 (mkF m 42 #[rv a, .val .null] [(.int 0)])
    refine Go.ifY 49 X38 hx (hb hby d5_42) (XT.i0_eq_t rfl) (by decide) (by decide) ?_
    refine Go.aload1 50 X38 hx (hb hby d5_49) rfl rfl rfl ?_
    have F40 : Keep h0 h1 [] := (Keep.refl h0 []).ext E1
    have F41 : Keep h0 h13 [] := F40.ext E13
    have F42 : Keep h0 h22 [] := F41.ext E22
    have F43 : Keep h0 h31 [] := F42.ext E31
    exact Go.retAW X38 hx Bd.notSynchronized hS31 (by rw [e38]; exact hk31) hZ31 hEL (by rw [hh, e38]; exact C32) Bd.returns rfl rfl (hb hby d5_50) (by rw [e38]; exact ⟨.null, rfl, N38, F43, Or.inr (⟨hE0, rfl⟩)⟩) (by decide) (by decide)
def Q_rmLeq5 (Z : State) (av : Addr) (bv : Addr) (ka : ClassId) (kb : ClassId) (xe0 : Int32) (xe1 : Int32) (xe2 : Int32) (xe3 : Int32) (xe4 : Int32) (ye0 : Int32) (ye1 : Int32) (ye2 : Int32) (ye3 : Int32) (ye4 : Int32) (h0 : Heap) (n0 : Nat) (v : Option Value) (h : Heap) (L : List Loc) : Prop := ∃ r : Int32, v = some (.int r) ∧ Fr n0 L ∧ h = h0 ∧ ((r = 1 ∧ (xe0 = ye0 ∧ xe1 = ye1 ∧ xe2 = ye2 ∧ xe3 = ye3 ∧ xe4 = ye4)) ∨ (r = 0 ∧ ¬ (xe0 = ye0 ∧ xe1 = ye1 ∧ xe2 = ye2 ∧ xe3 = ye3 ∧ xe4 = ye4)))
set_option maxRecDepth 65536 in
set_option maxHeartbeats 40000000 in
theorem rmLeq5 (l : Launch) (Z : State) (a0 : Array Value) (hw : ∀ d ∈ tables_1, d.before a0 Z = true) (ws : List Jvm.Cond) (av : Addr) (bv : Addr) (ka : ClassId) (kb : ClassId) (xe0 : Int32) (xe1 : Int32) (xe2 : Int32) (xe3 : Int32) (xe4 : Int32) (ye0 : Int32) (ye1 : Int32) (ye2 : Int32) (ye3 : Int32) (ye4 : Int32) (h0 : Heap) (n0 : Nat) (Z0 : n0 ≤ h0.size) (V_av : Arv Z h0 av ka .byte (5 : Int32) ([(.int xe0), (.int xe1), (.int xe2), (.int xe3), (.int xe4)]) (.int 0)) (V_bv : Arv Z h0 bv kb .byte (5 : Int32) ([(.int ye0), (.int ye1), (.int ye2), (.int ye3), (.int ye4)]) (.int 0)) :
    MetFree l (⟨"java/lang/StringLatin1", "equals", "([B[B)Z"⟩ : MethodName) (head1 (Jvm.Cond.code (⟨"java/lang/StringLatin1", "equals", "([B[B)Z"⟩ : MethodName) jdk_43_method_13_code 3 (some .boolean) :: ws) ({ frames := 0, cells := 0, slots := 0, locals := 0 } : Room)) (fun as' U => as' = #[(.ref av), (.ref bv)] ∧ Z.Warmed39 U.vm ∧ U.heap = h0) (fun _ _ _ _ _ => True) (fun _ U o U' => ∃ v L, o = .returned v ∧ Q_rmLeq5 Z av bv ka kb xe0 xe1 xe2 xe3 xe4 ye0 ye1 ye2 ye3 ye4 h0 n0 v U'.heap L ∧ FrameEnd U o U' L ({ frames := 0, cells := 0, slots := 0, locals := 0 } : Room).cells ({ frames := 0, cells := 0, slots := 0, locals := 0 } : Room).slots) := by
  refine MetFree.of_bodySF (plainFor_of_name pn_282) hisR ?_
  intro p e s m args below meth c s₁ Bd hml0 hP hK
  obtain ⟨rfl, hZ, hh⟩ := hP
  have hx := Bd.exec
  have hby := Bd.bytes
  have hml : c.maxLocals = 3 := hml0
  have hown : s.vm.findClass "java/lang/StringLatin1" = some m.cls := findClass_of_methodNamed Bd.named
  have hnm := (name_of_methodNamed Bd.named Bd.method).1
  have X0 : Stand p l e ({ frames := 0, cells := 0, slots := 0, locals := 0 } : Room) s m #[(.ref av), (.ref bv)] below meth c s₁ [] 0 0 := Stand.of_body Bd
  have e0 : s₁.heap = h0 := by rw [← hh, Bd.state]; rfl
  have N0 := Fr.nil n0
  refine Go.enter (F := EndN s (Q_rmLeq5 Z av bv ka kb xe0 xe1 xe2 xe3 xe4 ye0 ye1 ye2 ye3 ye4 h0 n0) ({ frames := 0, cells := 0, slots := 0, locals := 0 } : Room).cells ({ frames := 0, cells := 0, slots := 0, locals := 0 } : Room).slots) (ef_283 m av bv) ?_
  show Go _ _ _ _ s₁ (mkF m 0 #[rv av, rv bv, un] [])
  refine Go.aload1 1 X0 hx (hb hby d7_0) rfl rfl rfl ?_
  obtain ⟨cl1, Ar1, -, S1, M1, -, -⟩ := id V_av
  refine Go.by (fun _ gk => X0.arraylength hx (by rw [e0]; exact Ar1.1) (State.isArrayOf_alike hZ.alike Ar1.2.1) (g := (mkF m 1 #[rv av, rv bv, un] [(.ref av)])) rfl rfl (hb hby d7_1) _ gk) ?_
  rw [len_of S1 M1]
  show Go _ _ _ _ s₁ (mkF m 2 #[rv av, rv bv, un] [(.int 5)])
  refine Go.aload1 3 X0 hx (hb hby d7_2) rfl rfl rfl ?_
  obtain ⟨cl2, Ar2, -, S2, M2, -, -⟩ := id V_bv
  refine Go.by (fun _ gk => X0.arraylength hx (by rw [e0]; exact Ar2.1) (State.isArrayOf_alike hZ.alike Ar2.2.1) (g := (mkF m 3 #[rv av, rv bv, un] [(.ref bv), (.int 5)])) rfl rfl (hb hby d7_3) _ gk) ?_
  rw [len_of S2 M2]
  show Go _ _ _ _ s₁ (mkF m 4 #[rv av, rv bv, un] [(.int 5), (.int 5)])
  refine Go.icmpN 7 X0 hx (hb hby d7_4) (XT.ii_ne_f rfl) rfl ?_
  refine Go.iconst 8 X0 hx (0 : Int32) (hb hby d7_7) (by decide) rfl ?_
  refine Go.istore1 9 X0 hx (L' := #[rv av, rv bv, iv 0]) (hb hby d7_8) rfl rfl ?_
  refine Go.iload1 10 X0 hx (hb hby d7_9) rfl rfl ?_
  refine Go.aload1 11 X0 hx (hb hby d7_10) rfl rfl rfl ?_
  obtain ⟨cl3, Ar3, -, S3, M3, -, -⟩ := id V_av
  refine Go.by (fun _ gk => X0.arraylength hx (by rw [e0]; exact Ar3.1) (State.isArrayOf_alike hZ.alike Ar3.2.1) (g := (mkF m 11 #[rv av, rv bv, iv 0] [(.ref av), (.int 0)])) rfl rfl (hb hby d7_11) _ gk) ?_
  rw [len_of S3 M3]
  show Go _ _ _ _ s₁ (mkF m 12 #[rv av, rv bv, iv 0] [(.int 5), (.int 0)])
  refine Go.icmpN 15 X0 hx (hb hby d7_12) (XT.ii_ge_f (by decide)) rfl ?_
  refine Go.aload1 16 X0 hx (hb hby d7_15) rfl rfl rfl ?_
  refine Go.iload1 17 X0 hx (hb hby d7_16) rfl rfl ?_
  obtain ⟨cl4, Ar4, -, S4, M4, H4, -⟩ := id V_av
  have hin4 : ¬ ((0 : Int32) < 0 ∨ cl4.slots.size ≤ (0 : Int32).toNatClampNeg) := inb_of S4 ⟨by decide, by decide⟩
  refine Go.by (fun _ gk => X0.baloadBytes hx (j := (0 : Int32)) (v := (.int xe0)) (by rw [e0]; exact Ar4.1) (State.isArrayOf_alike hZ.alike Ar4.2.1) Ar4.2.2 hin4 (Has.at H4 hin4 rfl) (g := (mkF m 17 #[rv av, rv bv, iv 0] [(.int 0), (.ref av)])) rfl rfl (hb hby d7_17) _ gk) ?_
  show Go _ _ _ _ s₁ (mkF m 18 #[rv av, rv bv, iv 0] [(.int xe0)])
  refine Go.aload1 19 X0 hx (hb hby d7_18) rfl rfl rfl ?_
  refine Go.iload1 20 X0 hx (hb hby d7_19) rfl rfl ?_
  obtain ⟨cl5, Ar5, -, S5, M5, H5, -⟩ := id V_bv
  have hin5 : ¬ ((0 : Int32) < 0 ∨ cl5.slots.size ≤ (0 : Int32).toNatClampNeg) := inb_of S5 ⟨by decide, by decide⟩
  refine Go.by (fun _ gk => X0.baloadBytes hx (j := (0 : Int32)) (v := (.int ye0)) (by rw [e0]; exact Ar5.1) (State.isArrayOf_alike hZ.alike Ar5.2.1) Ar5.2.2 hin5 (Has.at H5 hin5 rfl) (g := (mkF m 20 #[rv av, rv bv, iv 0] [(.int 0), (.ref bv), (.int xe0)])) rfl rfl (hb hby d7_20) _ gk) ?_
  show Go _ _ _ _ s₁ (mkF m 21 #[rv av, rv bv, iv 0] [(.int ye0), (.int xe0)])
  by_cases hb6 : xe0 = ye0
  · refine Go.icmpY 26 X0 hx (hb hby d7_21) (XT.ii_eq_t hb6) (by decide) (by decide) ?_
    refine Go.iinc 29 X0 hx (1 : Int32) (L' := #[rv av, rv bv, iv 1]) (hb hby d7_26) (by decide) rfl rfl rfl ?_
    refine Go.goto 9 X0 hx (hb hby d7_29) (by decide) (by decide) ?_
    refine Go.iload1 10 X0 hx (hb hby d7_9) rfl rfl ?_
    refine Go.aload1 11 X0 hx (hb hby d7_10) rfl rfl rfl ?_
    obtain ⟨cl7, Ar7, -, S7, M7, -, -⟩ := id V_av
    refine Go.by (fun _ gk => X0.arraylength hx (by rw [e0]; exact Ar7.1) (State.isArrayOf_alike hZ.alike Ar7.2.1) (g := (mkF m 11 #[rv av, rv bv, iv 1] [(.ref av), (.int 1)])) rfl rfl (hb hby d7_11) _ gk) ?_
    rw [len_of S7 M7]
    show Go _ _ _ _ s₁ (mkF m 12 #[rv av, rv bv, iv 1] [(.int 5), (.int 1)])
    refine Go.icmpN 15 X0 hx (hb hby d7_12) (XT.ii_ge_f (by decide)) rfl ?_
    refine Go.aload1 16 X0 hx (hb hby d7_15) rfl rfl rfl ?_
    refine Go.iload1 17 X0 hx (hb hby d7_16) rfl rfl ?_
    obtain ⟨cl8, Ar8, -, S8, M8, H8, -⟩ := id V_av
    have hin8 : ¬ ((1 : Int32) < 0 ∨ cl8.slots.size ≤ (1 : Int32).toNatClampNeg) := inb_of S8 ⟨by decide, by decide⟩
    refine Go.by (fun _ gk => X0.baloadBytes hx (j := (1 : Int32)) (v := (.int xe1)) (by rw [e0]; exact Ar8.1) (State.isArrayOf_alike hZ.alike Ar8.2.1) Ar8.2.2 hin8 (Has.at H8 hin8 rfl) (g := (mkF m 17 #[rv av, rv bv, iv 1] [(.int 1), (.ref av)])) rfl rfl (hb hby d7_17) _ gk) ?_
    show Go _ _ _ _ s₁ (mkF m 18 #[rv av, rv bv, iv 1] [(.int xe1)])
    refine Go.aload1 19 X0 hx (hb hby d7_18) rfl rfl rfl ?_
    refine Go.iload1 20 X0 hx (hb hby d7_19) rfl rfl ?_
    obtain ⟨cl9, Ar9, -, S9, M9, H9, -⟩ := id V_bv
    have hin9 : ¬ ((1 : Int32) < 0 ∨ cl9.slots.size ≤ (1 : Int32).toNatClampNeg) := inb_of S9 ⟨by decide, by decide⟩
    refine Go.by (fun _ gk => X0.baloadBytes hx (j := (1 : Int32)) (v := (.int ye1)) (by rw [e0]; exact Ar9.1) (State.isArrayOf_alike hZ.alike Ar9.2.1) Ar9.2.2 hin9 (Has.at H9 hin9 rfl) (g := (mkF m 20 #[rv av, rv bv, iv 1] [(.int 1), (.ref bv), (.int xe1)])) rfl rfl (hb hby d7_20) _ gk) ?_
    show Go _ _ _ _ s₁ (mkF m 21 #[rv av, rv bv, iv 1] [(.int ye1), (.int xe1)])
    by_cases hb10 : xe1 = ye1
    · refine Go.icmpY 26 X0 hx (hb hby d7_21) (XT.ii_eq_t hb10) (by decide) (by decide) ?_
      refine Go.iinc 29 X0 hx (1 : Int32) (L' := #[rv av, rv bv, iv 2]) (hb hby d7_26) (by decide) rfl rfl rfl ?_
      refine Go.goto 9 X0 hx (hb hby d7_29) (by decide) (by decide) ?_
      refine Go.iload1 10 X0 hx (hb hby d7_9) rfl rfl ?_
      refine Go.aload1 11 X0 hx (hb hby d7_10) rfl rfl rfl ?_
      obtain ⟨cl11, Ar11, -, S11, M11, -, -⟩ := id V_av
      refine Go.by (fun _ gk => X0.arraylength hx (by rw [e0]; exact Ar11.1) (State.isArrayOf_alike hZ.alike Ar11.2.1) (g := (mkF m 11 #[rv av, rv bv, iv 2] [(.ref av), (.int 2)])) rfl rfl (hb hby d7_11) _ gk) ?_
      rw [len_of S11 M11]
      show Go _ _ _ _ s₁ (mkF m 12 #[rv av, rv bv, iv 2] [(.int 5), (.int 2)])
      refine Go.icmpN 15 X0 hx (hb hby d7_12) (XT.ii_ge_f (by decide)) rfl ?_
      refine Go.aload1 16 X0 hx (hb hby d7_15) rfl rfl rfl ?_
      refine Go.iload1 17 X0 hx (hb hby d7_16) rfl rfl ?_
      obtain ⟨cl12, Ar12, -, S12, M12, H12, -⟩ := id V_av
      have hin12 : ¬ ((2 : Int32) < 0 ∨ cl12.slots.size ≤ (2 : Int32).toNatClampNeg) := inb_of S12 ⟨by decide, by decide⟩
      refine Go.by (fun _ gk => X0.baloadBytes hx (j := (2 : Int32)) (v := (.int xe2)) (by rw [e0]; exact Ar12.1) (State.isArrayOf_alike hZ.alike Ar12.2.1) Ar12.2.2 hin12 (Has.at H12 hin12 rfl) (g := (mkF m 17 #[rv av, rv bv, iv 2] [(.int 2), (.ref av)])) rfl rfl (hb hby d7_17) _ gk) ?_
      show Go _ _ _ _ s₁ (mkF m 18 #[rv av, rv bv, iv 2] [(.int xe2)])
      refine Go.aload1 19 X0 hx (hb hby d7_18) rfl rfl rfl ?_
      refine Go.iload1 20 X0 hx (hb hby d7_19) rfl rfl ?_
      obtain ⟨cl13, Ar13, -, S13, M13, H13, -⟩ := id V_bv
      have hin13 : ¬ ((2 : Int32) < 0 ∨ cl13.slots.size ≤ (2 : Int32).toNatClampNeg) := inb_of S13 ⟨by decide, by decide⟩
      refine Go.by (fun _ gk => X0.baloadBytes hx (j := (2 : Int32)) (v := (.int ye2)) (by rw [e0]; exact Ar13.1) (State.isArrayOf_alike hZ.alike Ar13.2.1) Ar13.2.2 hin13 (Has.at H13 hin13 rfl) (g := (mkF m 20 #[rv av, rv bv, iv 2] [(.int 2), (.ref bv), (.int xe2)])) rfl rfl (hb hby d7_20) _ gk) ?_
      show Go _ _ _ _ s₁ (mkF m 21 #[rv av, rv bv, iv 2] [(.int ye2), (.int xe2)])
      by_cases hb14 : xe2 = ye2
      · refine Go.icmpY 26 X0 hx (hb hby d7_21) (XT.ii_eq_t hb14) (by decide) (by decide) ?_
        refine Go.iinc 29 X0 hx (1 : Int32) (L' := #[rv av, rv bv, iv 3]) (hb hby d7_26) (by decide) rfl rfl rfl ?_
        refine Go.goto 9 X0 hx (hb hby d7_29) (by decide) (by decide) ?_
        refine Go.iload1 10 X0 hx (hb hby d7_9) rfl rfl ?_
        refine Go.aload1 11 X0 hx (hb hby d7_10) rfl rfl rfl ?_
        obtain ⟨cl15, Ar15, -, S15, M15, -, -⟩ := id V_av
        refine Go.by (fun _ gk => X0.arraylength hx (by rw [e0]; exact Ar15.1) (State.isArrayOf_alike hZ.alike Ar15.2.1) (g := (mkF m 11 #[rv av, rv bv, iv 3] [(.ref av), (.int 3)])) rfl rfl (hb hby d7_11) _ gk) ?_
        rw [len_of S15 M15]
        show Go _ _ _ _ s₁ (mkF m 12 #[rv av, rv bv, iv 3] [(.int 5), (.int 3)])
        refine Go.icmpN 15 X0 hx (hb hby d7_12) (XT.ii_ge_f (by decide)) rfl ?_
        refine Go.aload1 16 X0 hx (hb hby d7_15) rfl rfl rfl ?_
        refine Go.iload1 17 X0 hx (hb hby d7_16) rfl rfl ?_
        obtain ⟨cl16, Ar16, -, S16, M16, H16, -⟩ := id V_av
        have hin16 : ¬ ((3 : Int32) < 0 ∨ cl16.slots.size ≤ (3 : Int32).toNatClampNeg) := inb_of S16 ⟨by decide, by decide⟩
        refine Go.by (fun _ gk => X0.baloadBytes hx (j := (3 : Int32)) (v := (.int xe3)) (by rw [e0]; exact Ar16.1) (State.isArrayOf_alike hZ.alike Ar16.2.1) Ar16.2.2 hin16 (Has.at H16 hin16 rfl) (g := (mkF m 17 #[rv av, rv bv, iv 3] [(.int 3), (.ref av)])) rfl rfl (hb hby d7_17) _ gk) ?_
        show Go _ _ _ _ s₁ (mkF m 18 #[rv av, rv bv, iv 3] [(.int xe3)])
        refine Go.aload1 19 X0 hx (hb hby d7_18) rfl rfl rfl ?_
        refine Go.iload1 20 X0 hx (hb hby d7_19) rfl rfl ?_
        obtain ⟨cl17, Ar17, -, S17, M17, H17, -⟩ := id V_bv
        have hin17 : ¬ ((3 : Int32) < 0 ∨ cl17.slots.size ≤ (3 : Int32).toNatClampNeg) := inb_of S17 ⟨by decide, by decide⟩
        refine Go.by (fun _ gk => X0.baloadBytes hx (j := (3 : Int32)) (v := (.int ye3)) (by rw [e0]; exact Ar17.1) (State.isArrayOf_alike hZ.alike Ar17.2.1) Ar17.2.2 hin17 (Has.at H17 hin17 rfl) (g := (mkF m 20 #[rv av, rv bv, iv 3] [(.int 3), (.ref bv), (.int xe3)])) rfl rfl (hb hby d7_20) _ gk) ?_
        show Go _ _ _ _ s₁ (mkF m 21 #[rv av, rv bv, iv 3] [(.int ye3), (.int xe3)])
        by_cases hb18 : xe3 = ye3
        · refine Go.icmpY 26 X0 hx (hb hby d7_21) (XT.ii_eq_t hb18) (by decide) (by decide) ?_
          refine Go.iinc 29 X0 hx (1 : Int32) (L' := #[rv av, rv bv, iv 4]) (hb hby d7_26) (by decide) rfl rfl rfl ?_
          refine Go.goto 9 X0 hx (hb hby d7_29) (by decide) (by decide) ?_
          refine Go.iload1 10 X0 hx (hb hby d7_9) rfl rfl ?_
          refine Go.aload1 11 X0 hx (hb hby d7_10) rfl rfl rfl ?_
          obtain ⟨cl19, Ar19, -, S19, M19, -, -⟩ := id V_av
          refine Go.by (fun _ gk => X0.arraylength hx (by rw [e0]; exact Ar19.1) (State.isArrayOf_alike hZ.alike Ar19.2.1) (g := (mkF m 11 #[rv av, rv bv, iv 4] [(.ref av), (.int 4)])) rfl rfl (hb hby d7_11) _ gk) ?_
          rw [len_of S19 M19]
          show Go _ _ _ _ s₁ (mkF m 12 #[rv av, rv bv, iv 4] [(.int 5), (.int 4)])
          refine Go.icmpN 15 X0 hx (hb hby d7_12) (XT.ii_ge_f (by decide)) rfl ?_
          refine Go.aload1 16 X0 hx (hb hby d7_15) rfl rfl rfl ?_
          refine Go.iload1 17 X0 hx (hb hby d7_16) rfl rfl ?_
          obtain ⟨cl20, Ar20, -, S20, M20, H20, -⟩ := id V_av
          have hin20 : ¬ ((4 : Int32) < 0 ∨ cl20.slots.size ≤ (4 : Int32).toNatClampNeg) := inb_of S20 ⟨by decide, by decide⟩
          refine Go.by (fun _ gk => X0.baloadBytes hx (j := (4 : Int32)) (v := (.int xe4)) (by rw [e0]; exact Ar20.1) (State.isArrayOf_alike hZ.alike Ar20.2.1) Ar20.2.2 hin20 (Has.at H20 hin20 rfl) (g := (mkF m 17 #[rv av, rv bv, iv 4] [(.int 4), (.ref av)])) rfl rfl (hb hby d7_17) _ gk) ?_
          show Go _ _ _ _ s₁ (mkF m 18 #[rv av, rv bv, iv 4] [(.int xe4)])
          refine Go.aload1 19 X0 hx (hb hby d7_18) rfl rfl rfl ?_
          refine Go.iload1 20 X0 hx (hb hby d7_19) rfl rfl ?_
          obtain ⟨cl21, Ar21, -, S21, M21, H21, -⟩ := id V_bv
          have hin21 : ¬ ((4 : Int32) < 0 ∨ cl21.slots.size ≤ (4 : Int32).toNatClampNeg) := inb_of S21 ⟨by decide, by decide⟩
          refine Go.by (fun _ gk => X0.baloadBytes hx (j := (4 : Int32)) (v := (.int ye4)) (by rw [e0]; exact Ar21.1) (State.isArrayOf_alike hZ.alike Ar21.2.1) Ar21.2.2 hin21 (Has.at H21 hin21 rfl) (g := (mkF m 20 #[rv av, rv bv, iv 4] [(.int 4), (.ref bv), (.int xe4)])) rfl rfl (hb hby d7_20) _ gk) ?_
          show Go _ _ _ _ s₁ (mkF m 21 #[rv av, rv bv, iv 4] [(.int ye4), (.int xe4)])
          by_cases hb22 : xe4 = ye4
          · refine Go.icmpY 26 X0 hx (hb hby d7_21) (XT.ii_eq_t hb22) (by decide) (by decide) ?_
            refine Go.iinc 29 X0 hx (1 : Int32) (L' := #[rv av, rv bv, iv 5]) (hb hby d7_26) (by decide) rfl rfl rfl ?_
            refine Go.goto 9 X0 hx (hb hby d7_29) (by decide) (by decide) ?_
            refine Go.iload1 10 X0 hx (hb hby d7_9) rfl rfl ?_
            refine Go.aload1 11 X0 hx (hb hby d7_10) rfl rfl rfl ?_
            obtain ⟨cl23, Ar23, -, S23, M23, -, -⟩ := id V_av
            refine Go.by (fun _ gk => X0.arraylength hx (by rw [e0]; exact Ar23.1) (State.isArrayOf_alike hZ.alike Ar23.2.1) (g := (mkF m 11 #[rv av, rv bv, iv 5] [(.ref av), (.int 5)])) rfl rfl (hb hby d7_11) _ gk) ?_
            rw [len_of S23 M23]
            show Go _ _ _ _ s₁ (mkF m 12 #[rv av, rv bv, iv 5] [(.int 5), (.int 5)])
            refine Go.icmpY 32 X0 hx (hb hby d7_12) (XT.ii_ge_t (by decide)) (by decide) (by decide) ?_
            refine Go.iconst 33 X0 hx (1 : Int32) (hb hby d7_32) (by decide) rfl ?_
            exact Go.retI X0 hx Bd.notSynchronized Bd.returns rfl (by simp) (hb hby d7_33) (by rw [e0]; exact ⟨(1 : Int32), rfl, N0, rfl, Or.inl ⟨rfl, hb6, hb10, hb14, hb18, hb22⟩⟩) (by decide) (by decide)
          · refine Go.icmpN 24 X0 hx (hb hby d7_21) (XT.ii_eq_f hb22) rfl ?_
            refine Go.iconst 25 X0 hx (0 : Int32) (hb hby d7_24) (by decide) rfl ?_
            exact Go.retI X0 hx Bd.notSynchronized Bd.returns rfl (by simp) (hb hby d7_25) (by rw [e0]; exact ⟨(0 : Int32), rfl, N0, rfl, Or.inr ⟨rfl, fun q => hb22 q.2.2.2.2⟩⟩) (by decide) (by decide)
        · refine Go.icmpN 24 X0 hx (hb hby d7_21) (XT.ii_eq_f hb18) rfl ?_
          refine Go.iconst 25 X0 hx (0 : Int32) (hb hby d7_24) (by decide) rfl ?_
          exact Go.retI X0 hx Bd.notSynchronized Bd.returns rfl (by simp) (hb hby d7_25) (by rw [e0]; exact ⟨(0 : Int32), rfl, N0, rfl, Or.inr ⟨rfl, fun q => hb18 q.2.2.2.1⟩⟩) (by decide) (by decide)
      · refine Go.icmpN 24 X0 hx (hb hby d7_21) (XT.ii_eq_f hb14) rfl ?_
        refine Go.iconst 25 X0 hx (0 : Int32) (hb hby d7_24) (by decide) rfl ?_
        exact Go.retI X0 hx Bd.notSynchronized Bd.returns rfl (by simp) (hb hby d7_25) (by rw [e0]; exact ⟨(0 : Int32), rfl, N0, rfl, Or.inr ⟨rfl, fun q => hb14 q.2.2.1⟩⟩) (by decide) (by decide)
    · refine Go.icmpN 24 X0 hx (hb hby d7_21) (XT.ii_eq_f hb10) rfl ?_
      refine Go.iconst 25 X0 hx (0 : Int32) (hb hby d7_24) (by decide) rfl ?_
      exact Go.retI X0 hx Bd.notSynchronized Bd.returns rfl (by simp) (hb hby d7_25) (by rw [e0]; exact ⟨(0 : Int32), rfl, N0, rfl, Or.inr ⟨rfl, fun q => hb10 q.2.1⟩⟩) (by decide) (by decide)
  · refine Go.icmpN 24 X0 hx (hb hby d7_21) (XT.ii_eq_f hb6) rfl ?_
    refine Go.iconst 25 X0 hx (0 : Int32) (hb hby d7_24) (by decide) rfl ?_
    exact Go.retI X0 hx Bd.notSynchronized Bd.returns rfl (by simp) (hb hby d7_25) (by rw [e0]; exact ⟨(0 : Int32), rfl, N0, rfl, Or.inr ⟨rfl, fun q => hb6 q.1⟩⟩) (by decide) (by decide)
def Q_rmSeq5 (Z : State) (a : Addr) (b : Addr) (av : Addr) (bv : Addr) (ka : ClassId) (kb : ClassId) (xe0 : Int32) (xe1 : Int32) (xe2 : Int32) (xe3 : Int32) (xe4 : Int32) (ye0 : Int32) (ye1 : Int32) (ye2 : Int32) (ye3 : Int32) (ye4 : Int32) (cs : Int32) (h0 : Heap) (n0 : Nat) (v : Option Value) (h : Heap) (L : List Loc) : Prop := ∃ r : Int32, v = some (.int r) ∧ Fr n0 L ∧ h = h0 ∧ ((r = 1 ∧ (xe0 = ye0 ∧ xe1 = ye1 ∧ xe2 = ye2 ∧ xe3 = ye3 ∧ xe4 = ye4)) ∨ (r = 0 ∧ ¬ (xe0 = ye0 ∧ xe1 = ye1 ∧ xe2 = ye2 ∧ xe3 = ye3 ∧ xe4 = ye4)))
set_option maxRecDepth 65536 in
set_option maxHeartbeats 40000000 in
theorem rmSeq5 (l : Launch) (Z : State) (a0 : Array Value) (hw : ∀ d ∈ tables_1, d.before a0 Z = true) (ws : List Jvm.Cond) (a : Addr) (b : Addr) (av : Addr) (bv : Addr) (ka : ClassId) (kb : ClassId) (xe0 : Int32) (xe1 : Int32) (xe2 : Int32) (xe3 : Int32) (xe4 : Int32) (ye0 : Int32) (ye1 : Int32) (ye2 : Int32) (ye3 : Int32) (ye4 : Int32) (cs : Int32) (h0 : Heap) (n0 : Nat) (Z0 : n0 ≤ h0.size) (O0 : Old Z n0 h0) (F_a_coder : Fld Z h0 a "java/lang/String" "coder" "B" (.int 0)) (F_a_value : Fld Z h0 a "java/lang/String" "value" "[B" (.ref av)) (V_av : Arv Z h0 av ka .byte (5 : Int32) ([(.int xe0), (.int xe1), (.int xe2), (.int xe3), (.int xe4)]) (.int 0)) (E_b : Exa Z h0 b "java/lang/String") (F_b_coder : Fld Z h0 b "java/lang/String" "coder" "B" (.int 0)) (F_b_value : Fld Z h0 b "java/lang/String" "value" "[B" (.ref bv)) (V_bv : Arv Z h0 bv kb .byte (5 : Int32) ([(.int ye0), (.int ye1), (.int ye2), (.int ye3), (.int ye4)]) (.int 0)) (S_cs : Sta Z Z.heap "java/lang/String" "COMPACT_STRINGS" "Z" (.int cs)) (n_cs : ¬ cs = 0) :
    MetFree l (⟨"java/lang/String", "equals", "(Ljava/lang/Object;)Z"⟩ : MethodName) (head1 (Jvm.Cond.code (⟨"java/lang/String", "equals", "(Ljava/lang/Object;)Z"⟩ : MethodName) jdk_42_method_66_code 3 (some .boolean) :: ws) ({ frames := 1, cells := 0, slots := 0, locals := 14 } : Room)) (fun as' U => as' = #[(.ref a), (.ref b)] ∧ Z.Warmed39 U.vm ∧ U.heap = h0) (fun _ _ _ _ _ => True) (fun _ U o U' => ∃ v L, o = .returned v ∧ Q_rmSeq5 Z a b av bv ka kb xe0 xe1 xe2 xe3 xe4 ye0 ye1 ye2 ye3 ye4 cs h0 n0 v U'.heap L ∧ FrameEnd U o U' L ({ frames := 1, cells := 0, slots := 0, locals := 14 } : Room).cells ({ frames := 1, cells := 0, slots := 0, locals := 14 } : Room).slots) := by
  refine MetFree.of_bodySF (plainFor_of_name pn_1) hisR ?_
  intro p e s m args below meth c s₁ Bd hml0 hP hK
  obtain ⟨rfl, hZ, hh⟩ := hP
  have hx := Bd.exec
  have hby := Bd.bytes
  have hml : c.maxLocals = 3 := hml0
  have hown : s.vm.findClass "java/lang/String" = some m.cls := findClass_of_methodNamed Bd.named
  have hnm := (name_of_methodNamed Bd.named Bd.method).1
  have X0 : Stand p l e ({ frames := 1, cells := 0, slots := 0, locals := 14 } : Room) s m #[(.ref a), (.ref b)] below meth c s₁ [] 0 0 := Stand.of_body Bd
  have e0 : s₁.heap = h0 := by rw [← hh, Bd.state]; rfl
  have N0 := Fr.nil n0
  refine Go.enter (F := EndN s (Q_rmSeq5 Z a b av bv ka kb xe0 xe1 xe2 xe3 xe4 ye0 ye1 ye2 ye3 ye4 cs h0 n0) ({ frames := 1, cells := 0, slots := 0, locals := 14 } : Room).cells ({ frames := 1, cells := 0, slots := 0, locals := 14 } : Room).slots) (ef_283 m a b) ?_
  show Go _ _ _ _ s₁ (mkF m 0 #[rv a, rv b, un] [])
  refine Go.aload1 1 X0 hx (hb hby d6_0) rfl rfl rfl ?_
  refine Go.aload1 2 X0 hx (hb hby d6_1) rfl rfl rfl ?_
  rcases Classical.em (a = b) with rfl | hab
  · show Go _ _ _ _ s₁ (mkF m 2 #[rv a, rv a, un] [(.ref a), (.ref a)])
    refine Go.by (fun _ gk => XT.acmpNo X0.here hx rfl (hb hby d6_2) rfl rfl rfl (XT.aa_ne_f rfl) gk) ?_
    show Go _ _ _ _ s₁ (mkF m 5 #[rv a, rv a, un] [])
    refine Go.iconst 6 X0 hx (1 : Int32) (hb hby d6_5) (by decide) rfl ?_
    obtain rfl : av = bv := Value.ref.inj (own_fld_same F_a_value F_b_value)
    exact Go.retI X0 hx Bd.notSynchronized Bd.returns rfl (by simp) (hb hby d6_6) (by rw [e0]; exact ⟨(1 : Int32), rfl, N0, rfl, Or.inl ⟨rfl, Value.int.inj (own_arv_same V_av V_bv 0 (by decide)), Value.int.inj (own_arv_same V_av V_bv 1 (by decide)), Value.int.inj (own_arv_same V_av V_bv 2 (by decide)), Value.int.inj (own_arv_same V_av V_bv 3 (by decide)), Value.int.inj (own_arv_same V_av V_bv 4 (by decide))⟩⟩) (by decide) (by decide)
  · refine Go.by (fun _ gk => XT.acmpYes X0.here hx rfl (pc0 := 2) (pc' := 7) rfl (hb hby d6_2) rfl rfl rfl (XT.aa_ne_t (fun q => hab (Value.ref.inj q))) (by decide) (by decide) gk) ?_
    show Go _ _ _ _ s₁ (mkF m 7 #[rv a, rv b, un] [])
    refine Go.aload1 8 X0 hx (hb hby d6_7) rfl rfl rfl ?_
    obtain ⟨T1, X1, e1, st1⟩ := instY X0 hx hZ hown (ow hw 36 rfl) e0 (Ins.self E_b) (g := (mkF m 8 #[rv a, rv b, un] [(.ref b)])) rfl rfl (hb hby d6_8)
    refine Go.by st1 ?_
    show Go _ _ _ _ T1 (mkF m 11 #[rv a, rv b, un] [(.int 1)])
    refine Go.ifN 14 X1 hx (hb hby d6_11) (XT.i0_eq_f (by decide)) rfl ?_
    refine Go.aload1 15 X1 hx (hb hby d6_14) rfl rfl rfl ?_
    obtain ⟨T2, X2, e2, st2⟩ := castY X1 hx hZ hown (ow hw 36 rfl) e1 (Ins.self E_b) (g := (mkF m 15 #[rv a, rv b, un] [(.ref b)])) rfl rfl (hb hby d6_15)
    refine Go.by st2 ?_
    show Go _ _ _ _ T2 (mkF m 18 #[rv a, rv b, un] [(.ref b)])
    refine Go.astore1 19 X2 hx (L' := #[rv a, rv b, rv b]) (hb hby d6_18) rfl rfl rfl ?_
    have F3 : Sta Z h0 "java/lang/String" "COMPACT_STRINGS" "Z" (.int cs) := S_cs.ext O0.2
    obtain ⟨T4, X4, e4, st4⟩ := getS2 X2 hx hZ hown (host := "") (Or.inl (ow hw 37 rfl)) Via.refl e2 F3 (g := (mkF m 19 #[rv a, rv b, rv b] [])) rfl (hb hby d6_19)
    refine Go.by st4 ?_
    show Go _ _ _ _ T4 (mkF m 22 #[rv a, rv b, rv b] [(.int cs)])
    refine Go.ifN 25 X4 hx (hb hby d6_22) (XT.i0_eq_f n_cs) rfl ?_
    refine Go.aload1 26 X4 hx (hb hby d6_25) rfl rfl rfl ?_
    obtain ⟨T5, X5, e5, st5⟩ := getF X4 hx hZ hown (host := "") (Or.inl (ow hw 25 rfl)) Via.refl e4 F_a_coder (g := (mkF m 26 #[rv a, rv b, rv b] [(.ref a)])) rfl rfl (hb hby d6_26)
    refine Go.by st5 ?_
    show Go _ _ _ _ T5 (mkF m 29 #[rv a, rv b, rv b] [(.int 0)])
    refine Go.aload1 30 X5 hx (hb hby d6_29) rfl rfl rfl ?_
    obtain ⟨T6, X6, e6, st6⟩ := getF X5 hx hZ hown (host := "") (Or.inl (ow hw 25 rfl)) Via.refl e5 F_b_coder (g := (mkF m 30 #[rv a, rv b, rv b] [(.ref b), (.int 0)])) rfl rfl (hb hby d6_30)
    refine Go.by st6 ?_
    show Go _ _ _ _ T6 (mkF m 33 #[rv a, rv b, rv b] [(.int 0), (.int 0)])
    refine Go.icmpN 36 X6 hx (hb hby d6_33) (XT.ii_ne_f rfl) rfl ?_
    refine Go.aload1 37 X6 hx (hb hby d6_36) rfl rfl rfl ?_
    obtain ⟨T7, X7, e7, st7⟩ := getF X6 hx hZ hown (host := "") (Or.inl (ow hw 24 rfl)) Via.refl e6 F_a_value (g := (mkF m 37 #[rv a, rv b, rv b] [(.ref a)])) rfl rfl (hb hby d6_37)
    refine Go.by st7 ?_
    show Go _ _ _ _ T7 (mkF m 40 #[rv a, rv b, rv b] [(.ref av)])
    refine Go.aload1 41 X7 hx (hb hby d6_40) rfl rfl rfl ?_
    obtain ⟨T8, X8, e8, st8⟩ := getF X7 hx hZ hown (host := "") (Or.inl (ow hw 24 rfl)) Via.refl e7 F_b_value (g := (mkF m 41 #[rv a, rv b, rv b] [(.ref b), (.ref av)])) rfl rfl (hb hby d6_41)
    refine Go.by st8 ?_
    show Go _ _ _ _ T8 (mkF m 44 #[rv a, rv b, rv b] [(.ref bv), (.ref av)])
    obtain ⟨_, _, ⟨T9, L9, k9, n9⟩, -, X9, ⟨Lc9, hQ9, l9, y9, z9⟩, st9⟩ := Jvm.LawKit.callS X8 hx (y := (⟨"java/lang/StringLatin1", "equals", "([B[B)Z"⟩ : MethodName)) hown (mvT hZ (ow hw 38 rfl)) (mvT hZ (ow hw 39 rfl)) (mvT hZ (ow hw 40 rfl)) (mvT hZ (ow hw 41 rfl)) (by decide) (backOf (W := 0) (rmLeq5 l Z a0 hw [] av bv ka kb xe0 xe1 xe2 xe3 xe4 ye0 ye1 ye2 ye3 ye4 h0 n0 Z0 V_av V_bv) hZ (ow hw 41 rfl) (ow hw 40 rfl) (by decide) (by decide)) (g := (mkF m 44 #[rv a, rv b, rv b] [(.ref bv), (.ref av)])) rfl (by rw [hml]; rfl) (argsL := [(.ref av), (.ref bv)]) (rest := []) (lenOf pd_311 rfl) rfl (by show 2 * 0 + _ ≤ _; exact Nat.le_of_eq rfl) (hb hby d6_44) (fun _ _ => ⟨rfl, e8, (by decide : 0 + 0 ≤ _), (by decide : 0 + 0 ≤ _)⟩)
    dsimp only [Pt.U, Pt.locs, Pt.cells, Pt.slots] at X9 l9 y9 z9 st9 hQ9
    subst l9 y9 z9
    obtain ⟨r, rfl, N9q, e9, Q9_0⟩ := hQ9
    have N9 := Fr.app N0 N9q
    refine Go.by st9 ?_
    show Go _ _ _ _ T9 (mkF m 47 #[rv a, rv b, rv b] [(.int r)])
    rcases Q9_0 with ⟨rfl, hE⟩ | ⟨rfl, hE⟩
    · show Go _ _ _ _ T9 (mkF m 47 #[rv a, rv b, rv b] [(.int 1)])
      refine Go.ifN 50 X9 hx (hb hby d6_47) (XT.i0_eq_f (by decide)) rfl ?_
      refine Go.iconst 51 X9 hx (1 : Int32) (hb hby d6_50) (by decide) rfl ?_
      refine Go.goto 55 X9 hx (hb hby d6_51) (by decide) (by decide) ?_
      exact Go.retI X9 hx Bd.notSynchronized Bd.returns rfl (by simp) (hb hby d6_55) (by rw [e9]; exact ⟨(1 : Int32), rfl, N9, rfl, Or.inl ⟨rfl, hE⟩⟩) (by decide) (by decide)
    · show Go _ _ _ _ T9 (mkF m 47 #[rv a, rv b, rv b] [(.int 0)])
      refine Go.ifY 54 X9 hx (hb hby d6_47) (XT.i0_eq_t rfl) (by decide) (by decide) ?_
      refine Go.iconst 55 X9 hx (0 : Int32) (hb hby d6_54) (by decide) rfl ?_
      exact Go.retI X9 hx Bd.notSynchronized Bd.returns rfl (by simp) (hb hby d6_55) (by rw [e9]; exact ⟨(0 : Int32), rfl, N9, rfl, Or.inr ⟨rfl, hE⟩⟩) (by decide) (by decide)
def Q_rmRead5 (Z : State) (a : Addr) (av : Addr) (ka : ClassId) (b0x : Int32) (b1x : Int32) (b2x : Int32) (b3x : Int32) (b4x : Int32) (cs : Int32) (bT : Addr) (bF : Addr) (h0 : Heap) (n0 : Nat) (v : Option Value) (h : Heap) (L : List Loc) : Prop := ∃ rz : Value, v = some rz ∧ Fr n0 L ∧ Keep h0 h [] ∧ (((b0x = 102 ∧ b1x = 97 ∧ b2x = 108 ∧ b3x = 115 ∧ b4x = 101) ∧ rz = .ref bF) ∨ ((¬ (b0x = 102 ∧ b1x = 97 ∧ b2x = 108 ∧ b3x = 115 ∧ b4x = 101)) ∧ rz = .null))
set_option maxRecDepth 65536 in
set_option maxHeartbeats 40000000 in
theorem rmRead5 (l : Launch) (Z : State) (a0 : Array Value) (hw : ∀ d ∈ tables_1, d.before a0 Z = true) (ws : List Jvm.Cond) (a : Addr) (av : Addr) (ka : ClassId) (b0x : Int32) (b1x : Int32) (b2x : Int32) (b3x : Int32) (b4x : Int32) (cs : Int32) (bT : Addr) (bF : Addr) (h0 : Heap) (n0 : Nat) (Z0 : n0 ≤ h0.size) (O0 : Old Z n0 h0) (E_a : Exa Z h0 a "java/lang/String") (F_a_coder : Fld Z h0 a "java/lang/String" "coder" "B" (.int 0)) (F_a_value : Fld Z h0 a "java/lang/String" "value" "[B" (.ref av)) (V_av : Arv Z h0 av ka .byte (5 : Int32) ([(.int b0x), (.int b1x), (.int b2x), (.int b3x), (.int b4x)]) (.int 0)) (S_cs : Sta Z Z.heap "java/lang/String" "COMPACT_STRINGS" "Z" (.int cs)) (n_cs : ¬ cs = 0) (B0 : Sta Z Z.heap "java/lang/Boolean" "TRUE" "Ljava/lang/Boolean;" (.ref bT)) (B1 : Exa Z Z.heap bT "java/lang/Boolean") (B2 : Fld Z Z.heap bT "java/lang/Boolean" "value" "Z" (.int 1)) (B3 : Sta Z Z.heap "java/lang/Boolean" "FALSE" "Ljava/lang/Boolean;" (.ref bF)) (B4 : Exa Z Z.heap bF "java/lang/Boolean") (B5 : Fld Z Z.heap bF "java/lang/Boolean" "value" "Z" (.int 0)) :
    MetFree l (⟨"com/example/entries_to_nodes/entriestonodes/xml/XsBoolean", "read", "(Ljava/lang/String;)Ljava/lang/Boolean;"⟩ : MethodName) (head1 (Jvm.Cond.code (⟨"com/example/entries_to_nodes/entriestonodes/xml/XsBoolean", "read", "(Ljava/lang/String;)Ljava/lang/Boolean;"⟩ : MethodName) prog_27_method_2_code 2 (some (.object "java/lang/Boolean")) :: ws) ({ frames := 2, cells := 8, slots := 60, locals := 28 } : Room)) (fun as' U => as' = #[(.ref a)] ∧ Z.Warmed39 U.vm ∧ U.heap = h0 ∧ CHv Z own_EL U.vm h0) (fun _ _ _ _ _ => True) (fun _ U o U' => ∃ v L, o = .returned v ∧ Q_rmRead5 Z a av ka b0x b1x b2x b3x b4x cs bT bF h0 n0 v U'.heap L ∧ CHr Z own_EL U.vm U.heap U'.vm U'.heap ∧ ReturnedEndW U o U' L ({ frames := 2, cells := 8, slots := 60, locals := 28 } : Room).cells ({ frames := 2, cells := 8, slots := 60, locals := 28 } : Room).slots) := by
  refine MetFree.of_bodySF (plainFor_of_name pn_316) hisR ?_
  intro p e s m args below meth c s₁ Bd hml0 hP hK
  obtain ⟨rfl, hZ, hh, hH⟩ := hP
  have hx := Bd.exec
  have hby := Bd.bytes
  have hml : c.maxLocals = 2 := hml0
  have hown : s.vm.findClass "com/example/entries_to_nodes/entriestonodes/xml/XsBoolean" = some m.cls := findClass_of_methodNamed Bd.named
  have hnm := (name_of_methodNamed Bd.named Bd.method).1
  have X0 : Stand p l e ({ frames := 2, cells := 8, slots := 60, locals := 28 } : Room) (s.setVm s.vm) m #[(.ref a)] below meth c s₁ [] 0 0 := Stand.of_body Bd
  have e0 : s₁.heap = h0 := by rw [← hh, Bd.state]; rfl
  have N0 := Fr.nil n0
  have hS0 : s.Since s.vm s.heap.size := (State.WarmedH.refl s).since _
  have hk0 : s.heap.size ≤ h0.size := Nat.le_of_eq (by rw [hh])
  have C0 : CHr Z own_EL s.vm h0 s.vm h0 := CHr.refl hH
  have hEL := own_EW hw
  have hSA := own_SA hw
  refine Go.enter (F := EndW Z own_EL s (Q_rmRead5 Z a av ka b0x b1x b2x b3x b4x cs bT bF h0 n0) ({ frames := 2, cells := 8, slots := 60, locals := 28 } : Room).cells ({ frames := 2, cells := 8, slots := 60, locals := 28 } : Room).slots) (ef_317 m a) ?_
  show Go _ _ _ _ s₁ (mkF m 0 #[rv a, un] [])
  refine Go.aconst_null 1 X0 hx (hb hby d5_0) rfl ?_
  refine Go.astore1 2 X0 hx (L' := #[rv a, .val .null]) (hb hby d5_1) rfl rfl rfl ?_
  refine Go.aload1 3 X0 hx (hb hby d5_2) rfl rfl rfl ?_
  obtain ⟨ql0, T1, h1, kq1, qb0, k1, X1, e1, E1, hS1, hk1, hZ1, hown1, Ea1, Fc1, Fv1, Va1, -, -, CH1, -, sf1, st1⟩ := ldcCH X0 hx hZ hown (ow hw 30 rfl) hSA e0 hS0 hk0 hEL (List.mem_of_getElem? (i := 0) rfl) C0.1 (vs := [(.int 116), (.int 114), (.int 117), (.int 101)]) (z := (4 : Int32)) ⟨by decide, by decide⟩ (by decide) rfl (g := (mkF m 3 #[rv a, .val .null] [(.ref a)])) rfl (hb hby d5_3) (n := 16) (by decide) (by decide) (by decide) (by decide)
  have C2 : CHr Z own_EL s.vm h0 T1.vm h1 := C0.trans CH1
  refine Go.by st1 ?_
  show Go _ _ _ _ T1 (mkF m 5 #[rv a, .val .null] [(.ref ql0), (.ref a)])
  have F3 : Old Z n0 h1 := O0.ext E1
  have F4 : Fld Z h1 a "java/lang/String" "coder" "B" (.int 0) := F_a_coder.ext E1
  have F5 : Fld Z h1 a "java/lang/String" "value" "[B" (.ref av) := F_a_value.ext E1
  have F6 : Arv Z h1 av ka .byte (5 : Int32) [(.int b0x), (.int b1x), (.int b2x), (.int b3x), (.int b4x)] (.int 0) := V_av.ext E1
  have F7 : n0 ≤ h1.size := Nat.le_trans Z0 E1.1
  have F9 : Exa Z h1 a "java/lang/String" := E_a.ext E1
  obtain ⟨cq8, kq8, q8a, q8b, q8c⟩ := isOf hZ1 e1 F9
  obtain ⟨_, _, ⟨T8, L8, k8, n8⟩, -, X8, ⟨Lc8, hQ8, l8, y8, z8⟩, st8⟩ := X1.virtualBack hx (y := (⟨"java/lang/String", "equals", "(Ljava/lang/Object;)Z"⟩ : MethodName)) (z := (⟨"java/lang/String", "equals", "(Ljava/lang/Object;)Z"⟩ : MethodName)) hown1 (mvT hZ1 (ow hw 31 rfl)) (mvT hZ1 (ow hw 32 rfl)) (notFace_of_selects (args := #[]) (mvT hZ1 (ow hw 34 rfl))) (mvT hZ1 (ow hw 34 rfl)) (mvT hZ1 (ow hw 33 rfl)) (by decide) (backOf (W := 0) (rmSeqNe l Z a0 hw [] a ql0 av qb0 ka k1 (5 : Int32) (4 : Int32) ([(.int b0x), (.int b1x), (.int b2x), (.int b3x), (.int b4x)]) ([(.int 116), (.int 114), (.int 117), (.int 101)]) cs h1 n0 F7 F3 F4 F5 F6 Ea1 Fc1 Fv1 Va1 (by decide) (by decide) S_cs n_cs) hZ1 (ow hw 35 rfl) (ow hw 7 rfl) (by decide) (by decide)) q8a q8c (g := (mkF m 5 #[rv a, .val .null] [(.ref ql0), (.ref a)])) rfl (by rw [hml]; rfl) (Steps.refl _) (argsL := [(.ref ql0)]) (rest := []) (lenOf pd_322 rfl) rfl (by show 2 * 0 + _ ≤ _; exact Nat.le_of_eq rfl) (hb hby d5_5) (fun _ _ => ⟨rfl, e1, (by decide : 2 + 0 ≤ _), (by decide : 20 + 0 ≤ _)⟩)
  dsimp only [Pt.U, Pt.locs, Pt.cells, Pt.slots] at X8 l8 y8 z8 st8 hQ8
  subst l8 y8 z8
  obtain ⟨rfl, N8q, e8⟩ := hQ8
  have N8 := Fr.app N0 N8q
  refine Go.to st8 ?_
  show Go _ _ _ _ T8 (mkF m 8 #[rv a, .val .null] [(.int 0)])
  refine Go.ifN 11 X8 hx (hb hby d5_8) (XT.i0_ne_f rfl) rfl ?_
  refine Go.aload1 12 X8 hx (hb hby d5_11) rfl rfl rfl ?_
  obtain ⟨ql1, T10, h10, kq10, qb1, k10, X10, e10, E10, hS10, hk10, hZ10, hown10, Ea10, Fc10, Fv10, Va10, -, -, CH10, -, sf10, st10⟩ := ldcCH X8 hx hZ1 hown1 (ow hw 42 rfl) hSA e8 hS1 hk1 hEL (List.mem_of_getElem? (i := 1) rfl) C2.1 (vs := [(.int 49)]) (z := (1 : Int32)) ⟨by decide, by decide⟩ (by decide) rfl (g := (mkF m 12 #[rv a, .val .null] [(.ref a)])) rfl (hb hby d5_12) (n := 4) (by decide) (by decide) (by decide) (by decide)
  have C11 : CHr Z own_EL s.vm h0 T10.vm h10 := C2.trans CH10
  refine Go.by st10 ?_
  show Go _ _ _ _ T10 (mkF m 14 #[rv a, .val .null] [(.ref ql1), (.ref a)])
  have F12 : Old Z n0 h10 := F3.ext E10
  have F13 : Fld Z h10 a "java/lang/String" "coder" "B" (.int 0) := F4.ext E10
  have F14 : Fld Z h10 a "java/lang/String" "value" "[B" (.ref av) := F5.ext E10
  have F15 : Arv Z h10 av ka .byte (5 : Int32) [(.int b0x), (.int b1x), (.int b2x), (.int b3x), (.int b4x)] (.int 0) := F6.ext E10
  have F16 : n0 ≤ h10.size := Nat.le_trans F7 E10.1
  have F18 : Exa Z h10 a "java/lang/String" := F9.ext E10
  obtain ⟨cq17, kq17, q17a, q17b, q17c⟩ := isOf hZ10 e10 F18
  obtain ⟨_, _, ⟨T17, L17, k17, n17⟩, -, X17, ⟨Lc17, hQ17, l17, y17, z17⟩, st17⟩ := X10.virtualBack hx (y := (⟨"java/lang/String", "equals", "(Ljava/lang/Object;)Z"⟩ : MethodName)) (z := (⟨"java/lang/String", "equals", "(Ljava/lang/Object;)Z"⟩ : MethodName)) hown10 (mvT hZ10 (ow hw 31 rfl)) (mvT hZ10 (ow hw 32 rfl)) (notFace_of_selects (args := #[]) (mvT hZ10 (ow hw 34 rfl))) (mvT hZ10 (ow hw 34 rfl)) (mvT hZ10 (ow hw 33 rfl)) (by decide) (backOf (W := 0) (rmSeqNe l Z a0 hw [] a ql1 av qb1 ka k10 (5 : Int32) (1 : Int32) ([(.int b0x), (.int b1x), (.int b2x), (.int b3x), (.int b4x)]) ([(.int 49)]) cs h10 n0 F16 F12 F13 F14 F15 Ea10 Fc10 Fv10 Va10 (by decide) (by decide) S_cs n_cs) hZ10 (ow hw 35 rfl) (ow hw 7 rfl) (by decide) (by decide)) q17a q17c (g := (mkF m 14 #[rv a, .val .null] [(.ref ql1), (.ref a)])) rfl (by rw [hml]; rfl) (Steps.refl _) (argsL := [(.ref ql1)]) (rest := []) (lenOf pd_322 rfl) rfl (by show 2 * 0 + _ ≤ _; exact Nat.le_of_eq rfl) (hb hby d5_14) (fun _ _ => ⟨rfl, e10, (by decide : 4 + 0 ≤ _), (by decide : 28 + 0 ≤ _)⟩)
  dsimp only [Pt.U, Pt.locs, Pt.cells, Pt.slots] at X17 l17 y17 z17 st17 hQ17
  subst l17 y17 z17
  obtain ⟨rfl, N17q, e17⟩ := hQ17
  have N17 := Fr.app N8 N17q
  refine Go.to st17 ?_
  show Go _ _ _ _ T17 (mkF m 17 #[rv a, .val .null] [(.int 0)])
  refine Go.ifY 27 X17 hx (hb hby d5_17) (XT.i0_eq_t rfl) (by decide) (by decide) ?_
  refine Go.aload1 28 X17 hx (hb hby d5_27) rfl rfl rfl ?_
  obtain ⟨ql2, T19, h19, kq19, qb2, k19, X19, e19, E19, hS19, hk19, hZ19, hown19, Ea19, Fc19, Fv19, Va19, -, -, CH19, -, sf19, st19⟩ := ldcCH X17 hx hZ10 hown10 (ow hw 43 rfl) hSA e17 hS10 hk10 hEL (List.mem_of_getElem? (i := 2) rfl) C11.1 (vs := [(.int 102), (.int 97), (.int 108), (.int 115), (.int 101)]) (z := (5 : Int32)) ⟨by decide, by decide⟩ (by decide) rfl (g := (mkF m 28 #[rv a, .val .null] [(.ref a)])) rfl (hb hby d5_28) (n := 20) (by decide) (by decide) (by decide) (by decide)
  have C20 : CHr Z own_EL s.vm h0 T19.vm h19 := C11.trans CH19
  refine Go.by st19 ?_
  show Go _ _ _ _ T19 (mkF m 30 #[rv a, .val .null] [(.ref ql2), (.ref a)])
  have F21 : Old Z n0 h19 := F12.ext E19
  have F22 : Fld Z h19 a "java/lang/String" "coder" "B" (.int 0) := F13.ext E19
  have F23 : Fld Z h19 a "java/lang/String" "value" "[B" (.ref av) := F14.ext E19
  have F24 : Arv Z h19 av ka .byte (5 : Int32) [(.int b0x), (.int b1x), (.int b2x), (.int b3x), (.int b4x)] (.int 0) := F15.ext E19
  have F25 : n0 ≤ h19.size := Nat.le_trans F16 E19.1
  have F27 : Exa Z h19 a "java/lang/String" := F18.ext E19
  obtain ⟨cq26, kq26, q26a, q26b, q26c⟩ := isOf hZ19 e19 F27
  obtain ⟨_, _, ⟨T26, L26, k26, n26⟩, -, X26, ⟨Lc26, hQ26, l26, y26, z26⟩, st26⟩ := X19.virtualBack hx (y := (⟨"java/lang/String", "equals", "(Ljava/lang/Object;)Z"⟩ : MethodName)) (z := (⟨"java/lang/String", "equals", "(Ljava/lang/Object;)Z"⟩ : MethodName)) hown19 (mvT hZ19 (ow hw 31 rfl)) (mvT hZ19 (ow hw 32 rfl)) (notFace_of_selects (args := #[]) (mvT hZ19 (ow hw 34 rfl))) (mvT hZ19 (ow hw 34 rfl)) (mvT hZ19 (ow hw 33 rfl)) (by decide) (backOf (W := 0) (rmSeq5 l Z a0 hw [] a ql2 av qb2 ka k19 b0x b1x b2x b3x b4x (102 : Int32) (97 : Int32) (108 : Int32) (115 : Int32) (101 : Int32) cs h19 n0 F25 F21 F22 F23 F24 Ea19 Fc19 Fv19 Va19 S_cs n_cs) hZ19 (ow hw 35 rfl) (ow hw 7 rfl) (by decide) (by decide)) q26a q26c (g := (mkF m 30 #[rv a, .val .null] [(.ref ql2), (.ref a)])) rfl (by rw [hml]; rfl) (Steps.refl _) (argsL := [(.ref ql2)]) (rest := []) (lenOf pd_322 rfl) rfl (by show 2 * 0 + _ ≤ _; exact Nat.le_of_eq rfl) (hb hby d5_30) (fun _ _ => ⟨rfl, e19, (by decide : 6 + 0 ≤ _), (by decide : 52 + 0 ≤ _)⟩)
  dsimp only [Pt.U, Pt.locs, Pt.cells, Pt.slots] at X26 l26 y26 z26 st26 hQ26
  subst l26 y26 z26
  obtain ⟨r2q, rfl, N26q, e26, Q26_0⟩ := hQ26
  have N26 := Fr.app N17 N26q
  refine Go.to st26 ?_
  show Go _ _ _ _ T26 (mkF m 33 #[rv a, .val .null] [(.int r2q)])
  rcases Q26_0 with ⟨rfl, hE2⟩ | ⟨rfl, hE2⟩
  · show Go _ _ _ _ T26 (mkF m 33 #[rv a, .val .null] [(.int 1)])
    refine Go.ifY 45 X26 hx (hb hby d5_33) (XT.i0_ne_t (by decide)) (by decide) (by decide) ?_
    have F28 : Sta Z h19 "java/lang/Boolean" "FALSE" "Ljava/lang/Boolean;" (.ref bF) := B3.ext F21.2
    obtain ⟨T29, X29, e29, st29⟩ := getS2 X26 hx hZ19 hown19 (host := "") (Or.inl (ow hw 64 rfl)) Via.refl e26 F28 (g := (mkF m 45 #[rv a, .val .null] [])) rfl (hb hby d5_45)
    refine Go.by st29 ?_
    show Go _ _ _ _ T29 (mkF m 48 #[rv a, .val .null] [(.ref bF)])
    refine Go.astore1 49 X29 hx (L' := #[rv a, rv bF]) (hb hby d5_48) rfl rfl rfl ?_
    refine Go.aload1 50 X29 hx (hb hby d5_49) rfl rfl rfl ?_
    have F30 : Keep h0 h1 [] := (Keep.refl h0 []).ext E1
    have F31 : Keep h0 h10 [] := F30.ext E10
    have F32 : Keep h0 h19 [] := F31.ext E19
    exact Go.retAW X29 hx Bd.notSynchronized hS19 (by rw [e29]; exact hk19) hZ19 hEL (by rw [hh, e29]; exact C20) Bd.returns rfl rfl (hb hby d5_50) (by rw [e29]; exact ⟨(.ref bF), rfl, N26, F32, Or.inl ⟨hE2, rfl⟩⟩) (by decide) (by decide)
  · show Go _ _ _ _ T26 (mkF m 33 #[rv a, .val .null] [(.int 0)])
    refine Go.ifN 36 X26 hx (hb hby d5_33) (XT.i0_ne_f rfl) rfl ?_
    refine Go.aload1 37 X26 hx (hb hby d5_36) rfl rfl rfl ?_
    obtain ⟨ql3, T33, h33, kq33, qb3, k33, X33, e33, E33, hS33, hk33, hZ33, hown33, Ea33, Fc33, Fv33, Va33, -, -, CH33, -, sf33, st33⟩ := ldcCH X26 hx hZ19 hown19 (ow hw 44 rfl) hSA e26 hS19 hk19 hEL (List.mem_of_getElem? (i := 3) rfl) C20.1 (vs := [(.int 48)]) (z := (1 : Int32)) ⟨by decide, by decide⟩ (by decide) rfl (g := (mkF m 37 #[rv a, .val .null] [(.ref a)])) rfl (hb hby d5_37) (n := 4) (by decide) (by decide) (by decide) (by decide)
    have C34 : CHr Z own_EL s.vm h0 T33.vm h33 := C20.trans CH33
    refine Go.by st33 ?_
    show Go _ _ _ _ T33 (mkF m 39 #[rv a, .val .null] [(.ref ql3), (.ref a)])
    have F35 : Old Z n0 h33 := F21.ext E33
    have F36 : Fld Z h33 a "java/lang/String" "coder" "B" (.int 0) := F22.ext E33
    have F37 : Fld Z h33 a "java/lang/String" "value" "[B" (.ref av) := F23.ext E33
    have F38 : Arv Z h33 av ka .byte (5 : Int32) [(.int b0x), (.int b1x), (.int b2x), (.int b3x), (.int b4x)] (.int 0) := F24.ext E33
    have F39 : n0 ≤ h33.size := Nat.le_trans F25 E33.1
    have F41 : Exa Z h33 a "java/lang/String" := F27.ext E33
    obtain ⟨cq40, kq40, q40a, q40b, q40c⟩ := isOf hZ33 e33 F41
    obtain ⟨_, _, ⟨T40, L40, k40, n40⟩, -, X40, ⟨Lc40, hQ40, l40, y40, z40⟩, st40⟩ := X33.virtualBack hx (y := (⟨"java/lang/String", "equals", "(Ljava/lang/Object;)Z"⟩ : MethodName)) (z := (⟨"java/lang/String", "equals", "(Ljava/lang/Object;)Z"⟩ : MethodName)) hown33 (mvT hZ33 (ow hw 31 rfl)) (mvT hZ33 (ow hw 32 rfl)) (notFace_of_selects (args := #[]) (mvT hZ33 (ow hw 34 rfl))) (mvT hZ33 (ow hw 34 rfl)) (mvT hZ33 (ow hw 33 rfl)) (by decide) (backOf (W := 0) (rmSeqNe l Z a0 hw [] a ql3 av qb3 ka k33 (5 : Int32) (1 : Int32) ([(.int b0x), (.int b1x), (.int b2x), (.int b3x), (.int b4x)]) ([(.int 48)]) cs h33 n0 F39 F35 F36 F37 F38 Ea33 Fc33 Fv33 Va33 (by decide) (by decide) S_cs n_cs) hZ33 (ow hw 35 rfl) (ow hw 7 rfl) (by decide) (by decide)) q40a q40c (g := (mkF m 39 #[rv a, .val .null] [(.ref ql3), (.ref a)])) rfl (by rw [hml]; rfl) (Steps.refl _) (argsL := [(.ref ql3)]) (rest := []) (lenOf pd_322 rfl) rfl (by show 2 * 0 + _ ≤ _; exact Nat.le_of_eq rfl) (hb hby d5_39) (fun _ _ => ⟨rfl, e33, (by decide : 8 + 0 ≤ _), (by decide : 60 + 0 ≤ _)⟩)
    dsimp only [Pt.U, Pt.locs, Pt.cells, Pt.slots] at X40 l40 y40 z40 st40 hQ40
    subst l40 y40 z40
    obtain ⟨rfl, N40q, e40⟩ := hQ40
    have N40 := Fr.app N26 N40q
    refine Go.to st40 ?_
    show Go _ _ _ _ T40 (mkF m 42 #[rv a, .val .null] [(.int 0)])
    refine Go.ifY 49 X40 hx (hb hby d5_42) (XT.i0_eq_t rfl) (by decide) (by decide) ?_
    refine Go.aload1 50 X40 hx (hb hby d5_49) rfl rfl rfl ?_
    have F42 : Keep h0 h1 [] := (Keep.refl h0 []).ext E1
    have F43 : Keep h0 h10 [] := F42.ext E10
    have F44 : Keep h0 h19 [] := F43.ext E19
    have F45 : Keep h0 h33 [] := F44.ext E33
    exact Go.retAW X40 hx Bd.notSynchronized hS33 (by rw [e40]; exact hk33) hZ33 hEL (by rw [hh, e40]; exact C34) Bd.returns rfl rfl (hb hby d5_50) (by rw [e40]; exact ⟨.null, rfl, N40, F45, Or.inr (⟨hE2, rfl⟩)⟩) (by decide) (by decide)
def Q_rmRead6 (Z : State) (a : Addr) (av : Addr) (ka : ClassId) (b0x : Int32) (b1x : Int32) (b2x : Int32) (b3x : Int32) (b4x : Int32) (b5x : Int32) (cs : Int32) (bT : Addr) (bF : Addr) (h0 : Heap) (n0 : Nat) (v : Option Value) (h : Heap) (L : List Loc) : Prop := ∃ rz : Value, v = some rz ∧ Fr n0 L ∧ Keep h0 h [] ∧ (((True) ∧ rz = .null))
set_option maxRecDepth 65536 in
set_option maxHeartbeats 40000000 in
theorem rmRead6 (l : Launch) (Z : State) (a0 : Array Value) (hw : ∀ d ∈ tables_1, d.before a0 Z = true) (ws : List Jvm.Cond) (a : Addr) (av : Addr) (ka : ClassId) (b0x : Int32) (b1x : Int32) (b2x : Int32) (b3x : Int32) (b4x : Int32) (b5x : Int32) (cs : Int32) (bT : Addr) (bF : Addr) (h0 : Heap) (n0 : Nat) (Z0 : n0 ≤ h0.size) (O0 : Old Z n0 h0) (E_a : Exa Z h0 a "java/lang/String") (F_a_coder : Fld Z h0 a "java/lang/String" "coder" "B" (.int 0)) (F_a_value : Fld Z h0 a "java/lang/String" "value" "[B" (.ref av)) (V_av : Arv Z h0 av ka .byte (6 : Int32) ([(.int b0x), (.int b1x), (.int b2x), (.int b3x), (.int b4x), (.int b5x)]) (.int 0)) (S_cs : Sta Z Z.heap "java/lang/String" "COMPACT_STRINGS" "Z" (.int cs)) (n_cs : ¬ cs = 0) (B0 : Sta Z Z.heap "java/lang/Boolean" "TRUE" "Ljava/lang/Boolean;" (.ref bT)) (B1 : Exa Z Z.heap bT "java/lang/Boolean") (B2 : Fld Z Z.heap bT "java/lang/Boolean" "value" "Z" (.int 1)) (B3 : Sta Z Z.heap "java/lang/Boolean" "FALSE" "Ljava/lang/Boolean;" (.ref bF)) (B4 : Exa Z Z.heap bF "java/lang/Boolean") (B5 : Fld Z Z.heap bF "java/lang/Boolean" "value" "Z" (.int 0)) :
    MetFree l (⟨"com/example/entries_to_nodes/entriestonodes/xml/XsBoolean", "read", "(Ljava/lang/String;)Ljava/lang/Boolean;"⟩ : MethodName) (head1 (Jvm.Cond.code (⟨"com/example/entries_to_nodes/entriestonodes/xml/XsBoolean", "read", "(Ljava/lang/String;)Ljava/lang/Boolean;"⟩ : MethodName) prog_27_method_2_code 2 (some (.object "java/lang/Boolean")) :: ws) ({ frames := 2, cells := 8, slots := 60, locals := 28 } : Room)) (fun as' U => as' = #[(.ref a)] ∧ Z.Warmed39 U.vm ∧ U.heap = h0 ∧ CHv Z own_EL U.vm h0) (fun _ _ _ _ _ => True) (fun _ U o U' => ∃ v L, o = .returned v ∧ Q_rmRead6 Z a av ka b0x b1x b2x b3x b4x b5x cs bT bF h0 n0 v U'.heap L ∧ CHr Z own_EL U.vm U.heap U'.vm U'.heap ∧ ReturnedEndW U o U' L ({ frames := 2, cells := 8, slots := 60, locals := 28 } : Room).cells ({ frames := 2, cells := 8, slots := 60, locals := 28 } : Room).slots) := by
  refine MetFree.of_bodySF (plainFor_of_name pn_316) hisR ?_
  intro p e s m args below meth c s₁ Bd hml0 hP hK
  obtain ⟨rfl, hZ, hh, hH⟩ := hP
  have hx := Bd.exec
  have hby := Bd.bytes
  have hml : c.maxLocals = 2 := hml0
  have hown : s.vm.findClass "com/example/entries_to_nodes/entriestonodes/xml/XsBoolean" = some m.cls := findClass_of_methodNamed Bd.named
  have hnm := (name_of_methodNamed Bd.named Bd.method).1
  have X0 : Stand p l e ({ frames := 2, cells := 8, slots := 60, locals := 28 } : Room) (s.setVm s.vm) m #[(.ref a)] below meth c s₁ [] 0 0 := Stand.of_body Bd
  have e0 : s₁.heap = h0 := by rw [← hh, Bd.state]; rfl
  have N0 := Fr.nil n0
  have hS0 : s.Since s.vm s.heap.size := (State.WarmedH.refl s).since _
  have hk0 : s.heap.size ≤ h0.size := Nat.le_of_eq (by rw [hh])
  have C0 : CHr Z own_EL s.vm h0 s.vm h0 := CHr.refl hH
  have hEL := own_EW hw
  have hSA := own_SA hw
  refine Go.enter (F := EndW Z own_EL s (Q_rmRead6 Z a av ka b0x b1x b2x b3x b4x b5x cs bT bF h0 n0) ({ frames := 2, cells := 8, slots := 60, locals := 28 } : Room).cells ({ frames := 2, cells := 8, slots := 60, locals := 28 } : Room).slots) (ef_317 m a) ?_
  show Go _ _ _ _ s₁ (mkF m 0 #[rv a, un] [])
  refine Go.aconst_null 1 X0 hx (hb hby d5_0) rfl ?_
  refine Go.astore1 2 X0 hx (L' := #[rv a, .val .null]) (hb hby d5_1) rfl rfl rfl ?_
  refine Go.aload1 3 X0 hx (hb hby d5_2) rfl rfl rfl ?_
  obtain ⟨ql0, T1, h1, kq1, qb0, k1, X1, e1, E1, hS1, hk1, hZ1, hown1, Ea1, Fc1, Fv1, Va1, -, -, CH1, -, sf1, st1⟩ := ldcCH X0 hx hZ hown (ow hw 30 rfl) hSA e0 hS0 hk0 hEL (List.mem_of_getElem? (i := 0) rfl) C0.1 (vs := [(.int 116), (.int 114), (.int 117), (.int 101)]) (z := (4 : Int32)) ⟨by decide, by decide⟩ (by decide) rfl (g := (mkF m 3 #[rv a, .val .null] [(.ref a)])) rfl (hb hby d5_3) (n := 16) (by decide) (by decide) (by decide) (by decide)
  have C2 : CHr Z own_EL s.vm h0 T1.vm h1 := C0.trans CH1
  refine Go.by st1 ?_
  show Go _ _ _ _ T1 (mkF m 5 #[rv a, .val .null] [(.ref ql0), (.ref a)])
  have F3 : Old Z n0 h1 := O0.ext E1
  have F4 : Fld Z h1 a "java/lang/String" "coder" "B" (.int 0) := F_a_coder.ext E1
  have F5 : Fld Z h1 a "java/lang/String" "value" "[B" (.ref av) := F_a_value.ext E1
  have F6 : Arv Z h1 av ka .byte (6 : Int32) [(.int b0x), (.int b1x), (.int b2x), (.int b3x), (.int b4x), (.int b5x)] (.int 0) := V_av.ext E1
  have F7 : n0 ≤ h1.size := Nat.le_trans Z0 E1.1
  have F9 : Exa Z h1 a "java/lang/String" := E_a.ext E1
  obtain ⟨cq8, kq8, q8a, q8b, q8c⟩ := isOf hZ1 e1 F9
  obtain ⟨_, _, ⟨T8, L8, k8, n8⟩, -, X8, ⟨Lc8, hQ8, l8, y8, z8⟩, st8⟩ := X1.virtualBack hx (y := (⟨"java/lang/String", "equals", "(Ljava/lang/Object;)Z"⟩ : MethodName)) (z := (⟨"java/lang/String", "equals", "(Ljava/lang/Object;)Z"⟩ : MethodName)) hown1 (mvT hZ1 (ow hw 31 rfl)) (mvT hZ1 (ow hw 32 rfl)) (notFace_of_selects (args := #[]) (mvT hZ1 (ow hw 34 rfl))) (mvT hZ1 (ow hw 34 rfl)) (mvT hZ1 (ow hw 33 rfl)) (by decide) (backOf (W := 0) (rmSeqNe l Z a0 hw [] a ql0 av qb0 ka k1 (6 : Int32) (4 : Int32) ([(.int b0x), (.int b1x), (.int b2x), (.int b3x), (.int b4x), (.int b5x)]) ([(.int 116), (.int 114), (.int 117), (.int 101)]) cs h1 n0 F7 F3 F4 F5 F6 Ea1 Fc1 Fv1 Va1 (by decide) (by decide) S_cs n_cs) hZ1 (ow hw 35 rfl) (ow hw 7 rfl) (by decide) (by decide)) q8a q8c (g := (mkF m 5 #[rv a, .val .null] [(.ref ql0), (.ref a)])) rfl (by rw [hml]; rfl) (Steps.refl _) (argsL := [(.ref ql0)]) (rest := []) (lenOf pd_322 rfl) rfl (by show 2 * 0 + _ ≤ _; exact Nat.le_of_eq rfl) (hb hby d5_5) (fun _ _ => ⟨rfl, e1, (by decide : 2 + 0 ≤ _), (by decide : 20 + 0 ≤ _)⟩)
  dsimp only [Pt.U, Pt.locs, Pt.cells, Pt.slots] at X8 l8 y8 z8 st8 hQ8
  subst l8 y8 z8
  obtain ⟨rfl, N8q, e8⟩ := hQ8
  have N8 := Fr.app N0 N8q
  refine Go.to st8 ?_
  show Go _ _ _ _ T8 (mkF m 8 #[rv a, .val .null] [(.int 0)])
  refine Go.ifN 11 X8 hx (hb hby d5_8) (XT.i0_ne_f rfl) rfl ?_
  refine Go.aload1 12 X8 hx (hb hby d5_11) rfl rfl rfl ?_
  obtain ⟨ql1, T10, h10, kq10, qb1, k10, X10, e10, E10, hS10, hk10, hZ10, hown10, Ea10, Fc10, Fv10, Va10, -, -, CH10, -, sf10, st10⟩ := ldcCH X8 hx hZ1 hown1 (ow hw 42 rfl) hSA e8 hS1 hk1 hEL (List.mem_of_getElem? (i := 1) rfl) C2.1 (vs := [(.int 49)]) (z := (1 : Int32)) ⟨by decide, by decide⟩ (by decide) rfl (g := (mkF m 12 #[rv a, .val .null] [(.ref a)])) rfl (hb hby d5_12) (n := 4) (by decide) (by decide) (by decide) (by decide)
  have C11 : CHr Z own_EL s.vm h0 T10.vm h10 := C2.trans CH10
  refine Go.by st10 ?_
  show Go _ _ _ _ T10 (mkF m 14 #[rv a, .val .null] [(.ref ql1), (.ref a)])
  have F12 : Old Z n0 h10 := F3.ext E10
  have F13 : Fld Z h10 a "java/lang/String" "coder" "B" (.int 0) := F4.ext E10
  have F14 : Fld Z h10 a "java/lang/String" "value" "[B" (.ref av) := F5.ext E10
  have F15 : Arv Z h10 av ka .byte (6 : Int32) [(.int b0x), (.int b1x), (.int b2x), (.int b3x), (.int b4x), (.int b5x)] (.int 0) := F6.ext E10
  have F16 : n0 ≤ h10.size := Nat.le_trans F7 E10.1
  have F18 : Exa Z h10 a "java/lang/String" := F9.ext E10
  obtain ⟨cq17, kq17, q17a, q17b, q17c⟩ := isOf hZ10 e10 F18
  obtain ⟨_, _, ⟨T17, L17, k17, n17⟩, -, X17, ⟨Lc17, hQ17, l17, y17, z17⟩, st17⟩ := X10.virtualBack hx (y := (⟨"java/lang/String", "equals", "(Ljava/lang/Object;)Z"⟩ : MethodName)) (z := (⟨"java/lang/String", "equals", "(Ljava/lang/Object;)Z"⟩ : MethodName)) hown10 (mvT hZ10 (ow hw 31 rfl)) (mvT hZ10 (ow hw 32 rfl)) (notFace_of_selects (args := #[]) (mvT hZ10 (ow hw 34 rfl))) (mvT hZ10 (ow hw 34 rfl)) (mvT hZ10 (ow hw 33 rfl)) (by decide) (backOf (W := 0) (rmSeqNe l Z a0 hw [] a ql1 av qb1 ka k10 (6 : Int32) (1 : Int32) ([(.int b0x), (.int b1x), (.int b2x), (.int b3x), (.int b4x), (.int b5x)]) ([(.int 49)]) cs h10 n0 F16 F12 F13 F14 F15 Ea10 Fc10 Fv10 Va10 (by decide) (by decide) S_cs n_cs) hZ10 (ow hw 35 rfl) (ow hw 7 rfl) (by decide) (by decide)) q17a q17c (g := (mkF m 14 #[rv a, .val .null] [(.ref ql1), (.ref a)])) rfl (by rw [hml]; rfl) (Steps.refl _) (argsL := [(.ref ql1)]) (rest := []) (lenOf pd_322 rfl) rfl (by show 2 * 0 + _ ≤ _; exact Nat.le_of_eq rfl) (hb hby d5_14) (fun _ _ => ⟨rfl, e10, (by decide : 4 + 0 ≤ _), (by decide : 28 + 0 ≤ _)⟩)
  dsimp only [Pt.U, Pt.locs, Pt.cells, Pt.slots] at X17 l17 y17 z17 st17 hQ17
  subst l17 y17 z17
  obtain ⟨rfl, N17q, e17⟩ := hQ17
  have N17 := Fr.app N8 N17q
  refine Go.to st17 ?_
  show Go _ _ _ _ T17 (mkF m 17 #[rv a, .val .null] [(.int 0)])
  refine Go.ifY 27 X17 hx (hb hby d5_17) (XT.i0_eq_t rfl) (by decide) (by decide) ?_
  refine Go.aload1 28 X17 hx (hb hby d5_27) rfl rfl rfl ?_
  obtain ⟨ql2, T19, h19, kq19, qb2, k19, X19, e19, E19, hS19, hk19, hZ19, hown19, Ea19, Fc19, Fv19, Va19, -, -, CH19, -, sf19, st19⟩ := ldcCH X17 hx hZ10 hown10 (ow hw 43 rfl) hSA e17 hS10 hk10 hEL (List.mem_of_getElem? (i := 2) rfl) C11.1 (vs := [(.int 102), (.int 97), (.int 108), (.int 115), (.int 101)]) (z := (5 : Int32)) ⟨by decide, by decide⟩ (by decide) rfl (g := (mkF m 28 #[rv a, .val .null] [(.ref a)])) rfl (hb hby d5_28) (n := 20) (by decide) (by decide) (by decide) (by decide)
  have C20 : CHr Z own_EL s.vm h0 T19.vm h19 := C11.trans CH19
  refine Go.by st19 ?_
  show Go _ _ _ _ T19 (mkF m 30 #[rv a, .val .null] [(.ref ql2), (.ref a)])
  have F21 : Old Z n0 h19 := F12.ext E19
  have F22 : Fld Z h19 a "java/lang/String" "coder" "B" (.int 0) := F13.ext E19
  have F23 : Fld Z h19 a "java/lang/String" "value" "[B" (.ref av) := F14.ext E19
  have F24 : Arv Z h19 av ka .byte (6 : Int32) [(.int b0x), (.int b1x), (.int b2x), (.int b3x), (.int b4x), (.int b5x)] (.int 0) := F15.ext E19
  have F25 : n0 ≤ h19.size := Nat.le_trans F16 E19.1
  have F27 : Exa Z h19 a "java/lang/String" := F18.ext E19
  obtain ⟨cq26, kq26, q26a, q26b, q26c⟩ := isOf hZ19 e19 F27
  obtain ⟨_, _, ⟨T26, L26, k26, n26⟩, -, X26, ⟨Lc26, hQ26, l26, y26, z26⟩, st26⟩ := X19.virtualBack hx (y := (⟨"java/lang/String", "equals", "(Ljava/lang/Object;)Z"⟩ : MethodName)) (z := (⟨"java/lang/String", "equals", "(Ljava/lang/Object;)Z"⟩ : MethodName)) hown19 (mvT hZ19 (ow hw 31 rfl)) (mvT hZ19 (ow hw 32 rfl)) (notFace_of_selects (args := #[]) (mvT hZ19 (ow hw 34 rfl))) (mvT hZ19 (ow hw 34 rfl)) (mvT hZ19 (ow hw 33 rfl)) (by decide) (backOf (W := 0) (rmSeqNe l Z a0 hw [] a ql2 av qb2 ka k19 (6 : Int32) (5 : Int32) ([(.int b0x), (.int b1x), (.int b2x), (.int b3x), (.int b4x), (.int b5x)]) ([(.int 102), (.int 97), (.int 108), (.int 115), (.int 101)]) cs h19 n0 F25 F21 F22 F23 F24 Ea19 Fc19 Fv19 Va19 (by decide) (by decide) S_cs n_cs) hZ19 (ow hw 35 rfl) (ow hw 7 rfl) (by decide) (by decide)) q26a q26c (g := (mkF m 30 #[rv a, .val .null] [(.ref ql2), (.ref a)])) rfl (by rw [hml]; rfl) (Steps.refl _) (argsL := [(.ref ql2)]) (rest := []) (lenOf pd_322 rfl) rfl (by show 2 * 0 + _ ≤ _; exact Nat.le_of_eq rfl) (hb hby d5_30) (fun _ _ => ⟨rfl, e19, (by decide : 6 + 0 ≤ _), (by decide : 52 + 0 ≤ _)⟩)
  dsimp only [Pt.U, Pt.locs, Pt.cells, Pt.slots] at X26 l26 y26 z26 st26 hQ26
  subst l26 y26 z26
  obtain ⟨rfl, N26q, e26⟩ := hQ26
  have N26 := Fr.app N17 N26q
  refine Go.to st26 ?_
  show Go _ _ _ _ T26 (mkF m 33 #[rv a, .val .null] [(.int 0)])
  refine Go.ifN 36 X26 hx (hb hby d5_33) (XT.i0_ne_f rfl) rfl ?_
  refine Go.aload1 37 X26 hx (hb hby d5_36) rfl rfl rfl ?_
  obtain ⟨ql3, T28, h28, kq28, qb3, k28, X28, e28, E28, hS28, hk28, hZ28, hown28, Ea28, Fc28, Fv28, Va28, -, -, CH28, -, sf28, st28⟩ := ldcCH X26 hx hZ19 hown19 (ow hw 44 rfl) hSA e26 hS19 hk19 hEL (List.mem_of_getElem? (i := 3) rfl) C20.1 (vs := [(.int 48)]) (z := (1 : Int32)) ⟨by decide, by decide⟩ (by decide) rfl (g := (mkF m 37 #[rv a, .val .null] [(.ref a)])) rfl (hb hby d5_37) (n := 4) (by decide) (by decide) (by decide) (by decide)
  have C29 : CHr Z own_EL s.vm h0 T28.vm h28 := C20.trans CH28
  refine Go.by st28 ?_
  show Go _ _ _ _ T28 (mkF m 39 #[rv a, .val .null] [(.ref ql3), (.ref a)])
  have F30 : Old Z n0 h28 := F21.ext E28
  have F31 : Fld Z h28 a "java/lang/String" "coder" "B" (.int 0) := F22.ext E28
  have F32 : Fld Z h28 a "java/lang/String" "value" "[B" (.ref av) := F23.ext E28
  have F33 : Arv Z h28 av ka .byte (6 : Int32) [(.int b0x), (.int b1x), (.int b2x), (.int b3x), (.int b4x), (.int b5x)] (.int 0) := F24.ext E28
  have F34 : n0 ≤ h28.size := Nat.le_trans F25 E28.1
  have F36 : Exa Z h28 a "java/lang/String" := F27.ext E28
  obtain ⟨cq35, kq35, q35a, q35b, q35c⟩ := isOf hZ28 e28 F36
  obtain ⟨_, _, ⟨T35, L35, k35, n35⟩, -, X35, ⟨Lc35, hQ35, l35, y35, z35⟩, st35⟩ := X28.virtualBack hx (y := (⟨"java/lang/String", "equals", "(Ljava/lang/Object;)Z"⟩ : MethodName)) (z := (⟨"java/lang/String", "equals", "(Ljava/lang/Object;)Z"⟩ : MethodName)) hown28 (mvT hZ28 (ow hw 31 rfl)) (mvT hZ28 (ow hw 32 rfl)) (notFace_of_selects (args := #[]) (mvT hZ28 (ow hw 34 rfl))) (mvT hZ28 (ow hw 34 rfl)) (mvT hZ28 (ow hw 33 rfl)) (by decide) (backOf (W := 0) (rmSeqNe l Z a0 hw [] a ql3 av qb3 ka k28 (6 : Int32) (1 : Int32) ([(.int b0x), (.int b1x), (.int b2x), (.int b3x), (.int b4x), (.int b5x)]) ([(.int 48)]) cs h28 n0 F34 F30 F31 F32 F33 Ea28 Fc28 Fv28 Va28 (by decide) (by decide) S_cs n_cs) hZ28 (ow hw 35 rfl) (ow hw 7 rfl) (by decide) (by decide)) q35a q35c (g := (mkF m 39 #[rv a, .val .null] [(.ref ql3), (.ref a)])) rfl (by rw [hml]; rfl) (Steps.refl _) (argsL := [(.ref ql3)]) (rest := []) (lenOf pd_322 rfl) rfl (by show 2 * 0 + _ ≤ _; exact Nat.le_of_eq rfl) (hb hby d5_39) (fun _ _ => ⟨rfl, e28, (by decide : 8 + 0 ≤ _), (by decide : 60 + 0 ≤ _)⟩)
  dsimp only [Pt.U, Pt.locs, Pt.cells, Pt.slots] at X35 l35 y35 z35 st35 hQ35
  subst l35 y35 z35
  obtain ⟨rfl, N35q, e35⟩ := hQ35
  have N35 := Fr.app N26 N35q
  refine Go.to st35 ?_
  show Go _ _ _ _ T35 (mkF m 42 #[rv a, .val .null] [(.int 0)])
  refine Go.ifY 49 X35 hx (hb hby d5_42) (XT.i0_eq_t rfl) (by decide) (by decide) ?_
  refine Go.aload1 50 X35 hx (hb hby d5_49) rfl rfl rfl ?_
  have F37 : Keep h0 h1 [] := (Keep.refl h0 []).ext E1
  have F38 : Keep h0 h10 [] := F37.ext E10
  have F39 : Keep h0 h19 [] := F38.ext E19
  have F40 : Keep h0 h28 [] := F39.ext E28
  exact Go.retAW X35 hx Bd.notSynchronized hS28 (by rw [e35]; exact hk28) hZ28 hEL (by rw [hh, e35]; exact C29) Bd.returns rfl rfl (hb hby d5_50) (by rw [e35]; exact ⟨.null, rfl, N35, F40, ⟨trivial, rfl⟩⟩) (by decide) (by decide)
theorem pn_367 : plainName "java/lang/Boolean" = true := by first | (simp [plainName, overriddenIn]; done) | decide +kernel
theorem ef_368 (m : MethodId) (x0 : Addr) : entryFrame m #[(.ref x0)] 1 = mkF m 0 #[rv x0] [] := by (first | (simp [entryFrame, mkF, argsToLocals, Value.category]; done) | rfl)
theorem d11_0 : decode jdk_2055_method_4_code 0 = .ok (.aload_n 0, 1) := by decide +kernel
theorem d11_1 : decode jdk_2055_method_4_code 1 = .ok (.getfield 7, 3) := by decide +kernel
theorem d11_4 : decode jdk_2055_method_4_code 4 = .ok (.ireturn, 1) := by decide +kernel
def Q_rmBval (Z : State) (a : Addr) (r : Int32) (h0 : Heap) (n0 : Nat) (v : Option Value) (h : Heap) (L : List Loc) : Prop := v = some (.int r) ∧ Fr n0 L ∧ h = h0
set_option maxRecDepth 65536 in
set_option maxHeartbeats 40000000 in
theorem rmBval (l : Launch) (Z : State) (a0 : Array Value) (hw : ∀ d ∈ tables_1, d.before a0 Z = true) (ws : List Jvm.Cond) (a : Addr) (r : Int32) (h0 : Heap) (n0 : Nat) (Z0 : n0 ≤ h0.size) (O0 : Old Z n0 h0) (F_a_value : Fld Z h0 a "java/lang/Boolean" "value" "Z" (.int r)) (hnb : (narrow .boolean (.int r) = .int r)) :
    MetFree l (⟨"java/lang/Boolean", "booleanValue", "()Z"⟩ : MethodName) (head1 (Jvm.Cond.code (⟨"java/lang/Boolean", "booleanValue", "()Z"⟩ : MethodName) jdk_2055_method_4_code 1 (some .boolean) :: ws) ({ frames := 0, cells := 0, slots := 0, locals := 0 } : Room)) (fun as' U => as' = #[(.ref a)] ∧ Z.Warmed39 U.vm ∧ U.heap = h0) (fun _ _ _ _ _ => True) (fun _ U o U' => ∃ v L, o = .returned v ∧ Q_rmBval Z a r h0 n0 v U'.heap L ∧ FrameEnd U o U' L ({ frames := 0, cells := 0, slots := 0, locals := 0 } : Room).cells ({ frames := 0, cells := 0, slots := 0, locals := 0 } : Room).slots) := by
  refine MetFree.of_bodySF (plainFor_of_name pn_367) hisR ?_
  intro p e s m args below meth c s₁ Bd hml0 hP hK
  obtain ⟨rfl, hZ, hh⟩ := hP
  have hx := Bd.exec
  have hby := Bd.bytes
  have hml : c.maxLocals = 1 := hml0
  have hown : s.vm.findClass "java/lang/Boolean" = some m.cls := findClass_of_methodNamed Bd.named
  have hnm := (name_of_methodNamed Bd.named Bd.method).1
  have X0 : Stand p l e ({ frames := 0, cells := 0, slots := 0, locals := 0 } : Room) s m #[(.ref a)] below meth c s₁ [] 0 0 := Stand.of_body Bd
  have e0 : s₁.heap = h0 := by rw [← hh, Bd.state]; rfl
  have N0 := Fr.nil n0
  refine Go.enter (F := EndN s (Q_rmBval Z a r h0 n0) ({ frames := 0, cells := 0, slots := 0, locals := 0 } : Room).cells ({ frames := 0, cells := 0, slots := 0, locals := 0 } : Room).slots) (ef_368 m a) ?_
  show Go _ _ _ _ s₁ (mkF m 0 #[rv a] [])
  refine Go.aload1 1 X0 hx (hb hby d11_0) rfl rfl rfl ?_
  obtain ⟨T1, X1, e1, st1⟩ := getF X0 hx hZ hown (host := "") (Or.inl (ow hw 62 rfl)) Via.refl e0 F_a_value (g := (mkF m 1 #[rv a] [(.ref a)])) rfl rfl (hb hby d11_1)
  refine Go.by st1 ?_
  show Go _ _ _ _ T1 (mkF m 4 #[rv a] [(.int r)])
  exact Go.retI X1 hx Bd.notSynchronized Bd.returns hnb (by simp) (hb hby d11_4) (by rw [e1]; exact ⟨rfl, N0, rfl⟩) (by decide) (by decide)
theorem ef_372 (m : MethodId) (x0 : Int32) (x1 : Int32) (x2 : Int32) : entryFrame m #[(.int x0), (.int x1), (.int x2)] 15 = mkF m 0 #[iv x0, iv x1, iv x2, un, un, un, un, un, un, un, un, un, un, un, un] [] := by (first | (simp [entryFrame, mkF, argsToLocals, Value.category]; done) | rfl)
theorem pd_373 : parseMethodDescriptor "([CI)Ljava/lang/String;" = some ⟨[(.array .char), .int], some (.object "java/lang/String")⟩ := by decide +kernel
theorem pd_374 : parseMethodDescriptor "(Ljava/lang/String;)Ljava/lang/Boolean;" = some ⟨[(.object "java/lang/String")], some (.object "java/lang/Boolean")⟩ := by decide +kernel
theorem pd_375 : parseMethodDescriptor "()Z" = some ⟨[], some .boolean⟩ := by decide +kernel
def Q_rm0 (Z : State) (p0 : Int32) (p1 : Int32) (p2 : Int32) (cs : Int32) (bT : Addr) (bF : Addr) (h0 : Heap) (n0 : Nat) (v : Option Value) (h : Heap) (L : List Loc) : Prop := v = some (.int 1) ∧ Fr n0 L
set_option maxRecDepth 65536 in
set_option maxHeartbeats 40000000 in
theorem rm0 (l : Launch) (Z : State) (a0 : Array Value) (hw : ∀ d ∈ tables_1, d.before a0 Z = true) (ws : List Jvm.Cond) (p0 : Int32) (p1 : Int32) (p2 : Int32) (cs : Int32) (bT : Addr) (bF : Addr) (h0 : Heap) (n0 : Nat) (Z0 : n0 ≤ h0.size) (O0 : Old Z n0 h0) (S_cs : Sta Z Z.heap "java/lang/String" "COMPACT_STRINGS" "Z" (.int cs)) (n_cs : ¬ cs = 0) (B0 : Sta Z Z.heap "java/lang/Boolean" "TRUE" "Ljava/lang/Boolean;" (.ref bT)) (B1 : Exa Z Z.heap bT "java/lang/Boolean") (B2 : Fld Z Z.heap bT "java/lang/Boolean" "value" "Z" (.int 1)) (B3 : Sta Z Z.heap "java/lang/Boolean" "FALSE" "Ljava/lang/Boolean;" (.ref bF)) (B4 : Exa Z Z.heap bF "java/lang/Boolean") (B5 : Fld Z Z.heap bF "java/lang/Boolean" "value" "Z" (.int 0)) :
    MetFree l x (head1 (Jvm.Cond.code x code maxLocals ret :: ws) room_1) (fun as' U => as' = #[(.int p0), (.int p1), (.int p2)] ∧ Z.Warmed39 U.vm ∧ U.heap = h0 ∧ CHv Z own_EL U.vm h0) (fun _ _ _ _ _ => True) (fun _ U o U' => ∃ v L, o = .returned v ∧ Q_rm0 Z p0 p1 p2 cs bT bF h0 n0 v U'.heap L ∧ CHr Z own_EL U.vm U.heap U'.vm U'.heap ∧ ReturnedEndW U o U' L 15 82) := by
  refine MetFree.of_bodySF (plainFor_of_name pn_26) hisR ?_
  intro p e s m args below meth c s₁ Bd hml0 hP hK
  obtain ⟨rfl, hZ, hh, hH⟩ := hP
  have hx := Bd.exec
  have hby := Bd.bytes
  have hml : c.maxLocals = 15 := hml0
  have hown : s.vm.findClass "com/example/entries_to_nodes/entriestonodes/xml/XsBooleanReadPinLaw" = some m.cls := findClass_of_methodNamed Bd.named
  have hnm := (name_of_methodNamed Bd.named Bd.method).1
  have X0 : Stand p l e room_1 (s.setVm s.vm) m #[(.int p0), (.int p1), (.int p2)] below meth c s₁ [] 0 0 := Stand.of_body Bd
  have e0 : s₁.heap = h0 := by rw [← hh, Bd.state]; rfl
  have N0 := Fr.nil n0
  have hS0 : s.Since s.vm s.heap.size := (State.WarmedH.refl s).since _
  have hk0 : s.heap.size ≤ h0.size := Nat.le_of_eq (by rw [hh])
  have C0 : CHr Z own_EL s.vm h0 s.vm h0 := CHr.refl hH
  have hEL := own_EW hw
  have hSA := own_SA hw
  refine Go.enter (F := EndW Z own_EL s (Q_rm0 Z p0 p1 p2 cs bT bF h0 n0) 15 82) (ef_372 m p0 p1 p2) ?_
  show Go _ _ _ _ s₁ (mkF m 0 #[iv p0, iv p1, iv p2, un, un, un, un, un, un, un, un, un, un, un, un] [])
  refine Go.iload1 1 X0 hx (hb hby at_0) rfl rfl ?_
  refine Go.sipush 4 X0 hx (255 : Int32) (hb hby at_1) (by decide) rfl ?_
  refine Go.iand 5 X0 hx (hb hby at_4) rfl ?_
  refine Go.i2c 6 X0 hx (hb hby at_5) rfl ?_
  rw [i2c_mask]
  show Go _ _ _ _ s₁ (mkF m 6 #[iv p0, iv p1, iv p2, un, un, un, un, un, un, un, un, un, un, un, un] [(.int (p1 &&& (255 : Int32)))])
  refine Go.istore1 7 X0 hx (L' := #[iv p0, iv p1, iv p2, iv (p1 &&& (255 : Int32)), un, un, un, un, un, un, un, un, un, un, un]) (hb hby at_6) rfl rfl ?_
  obtain ⟨d0, h_d0⟩ : ∃ z, z = (p1 &&& (255 : Int32)) := ⟨_, rfl⟩
  rw [← h_d0]
  show Go _ _ _ _ s₁ (mkF m 7 #[iv p0, iv p1, iv p2, iv d0, un, un, un, un, un, un, un, un, un, un, un] [])
  have q_d0 := own_bd h_d0
  refine Go.iload1 8 X0 hx (hb hby at_7) rfl rfl ?_
  refine Go.bipush 10 X0 hx (8 : Int32) (hb hby at_8) (by decide) rfl ?_
  refine Go.iushr 11 X0 hx (hb hby at_10) rfl ?_
  refine Go.sipush 14 X0 hx (255 : Int32) (hb hby at_11) (by decide) rfl ?_
  refine Go.iand 15 X0 hx (hb hby at_14) rfl ?_
  refine Go.i2c 16 X0 hx (hb hby at_15) rfl ?_
  rw [i2c_mask]
  show Go _ _ _ _ s₁ (mkF m 16 #[iv p0, iv p1, iv p2, iv d0, un, un, un, un, un, un, un, un, un, un, un] [(.int ((XT.ushr p1 (8 : Int32)) &&& (255 : Int32)))])
  refine Go.istore2 18 X0 hx (L' := #[iv p0, iv p1, iv p2, iv d0, iv ((XT.ushr p1 (8 : Int32)) &&& (255 : Int32)), un, un, un, un, un, un, un, un, un, un]) (hb hby at_16) rfl rfl ?_
  obtain ⟨d1, h_d1⟩ : ∃ z, z = ((XT.ushr p1 (8 : Int32)) &&& (255 : Int32)) := ⟨_, rfl⟩
  rw [← h_d1]
  show Go _ _ _ _ s₁ (mkF m 18 #[iv p0, iv p1, iv p2, iv d0, iv d1, un, un, un, un, un, un, un, un, un, un] [])
  have q_d1 := own_bd h_d1
  refine Go.iload1 19 X0 hx (hb hby at_18) rfl rfl ?_
  refine Go.bipush 21 X0 hx (16 : Int32) (hb hby at_19) (by decide) rfl ?_
  refine Go.iushr 22 X0 hx (hb hby at_21) rfl ?_
  refine Go.sipush 25 X0 hx (255 : Int32) (hb hby at_22) (by decide) rfl ?_
  refine Go.iand 26 X0 hx (hb hby at_25) rfl ?_
  refine Go.i2c 27 X0 hx (hb hby at_26) rfl ?_
  rw [i2c_mask]
  show Go _ _ _ _ s₁ (mkF m 27 #[iv p0, iv p1, iv p2, iv d0, iv d1, un, un, un, un, un, un, un, un, un, un] [(.int ((XT.ushr p1 (16 : Int32)) &&& (255 : Int32)))])
  refine Go.istore2 29 X0 hx (L' := #[iv p0, iv p1, iv p2, iv d0, iv d1, iv ((XT.ushr p1 (16 : Int32)) &&& (255 : Int32)), un, un, un, un, un, un, un, un, un]) (hb hby at_27) rfl rfl ?_
  obtain ⟨d2, h_d2⟩ : ∃ z, z = ((XT.ushr p1 (16 : Int32)) &&& (255 : Int32)) := ⟨_, rfl⟩
  rw [← h_d2]
  show Go _ _ _ _ s₁ (mkF m 29 #[iv p0, iv p1, iv p2, iv d0, iv d1, iv d2, un, un, un, un, un, un, un, un, un] [])
  have q_d2 := own_bd h_d2
  refine Go.iload1 30 X0 hx (hb hby at_29) rfl rfl ?_
  refine Go.bipush 32 X0 hx (24 : Int32) (hb hby at_30) (by decide) rfl ?_
  refine Go.iushr 33 X0 hx (hb hby at_32) rfl ?_
  refine Go.sipush 36 X0 hx (255 : Int32) (hb hby at_33) (by decide) rfl ?_
  refine Go.iand 37 X0 hx (hb hby at_36) rfl ?_
  refine Go.i2c 38 X0 hx (hb hby at_37) rfl ?_
  rw [i2c_mask]
  show Go _ _ _ _ s₁ (mkF m 38 #[iv p0, iv p1, iv p2, iv d0, iv d1, iv d2, un, un, un, un, un, un, un, un, un] [(.int ((XT.ushr p1 (24 : Int32)) &&& (255 : Int32)))])
  refine Go.istore2 40 X0 hx (L' := #[iv p0, iv p1, iv p2, iv d0, iv d1, iv d2, iv ((XT.ushr p1 (24 : Int32)) &&& (255 : Int32)), un, un, un, un, un, un, un, un]) (hb hby at_38) rfl rfl ?_
  obtain ⟨d3, h_d3⟩ : ∃ z, z = ((XT.ushr p1 (24 : Int32)) &&& (255 : Int32)) := ⟨_, rfl⟩
  rw [← h_d3]
  show Go _ _ _ _ s₁ (mkF m 40 #[iv p0, iv p1, iv p2, iv d0, iv d1, iv d2, iv d3, un, un, un, un, un, un, un, un] [])
  have q_d3 := own_bd h_d3
  refine Go.iload1 41 X0 hx (hb hby at_40) rfl rfl ?_
  refine Go.sipush 44 X0 hx (255 : Int32) (hb hby at_41) (by decide) rfl ?_
  refine Go.iand 45 X0 hx (hb hby at_44) rfl ?_
  refine Go.i2c 46 X0 hx (hb hby at_45) rfl ?_
  rw [i2c_mask]
  show Go _ _ _ _ s₁ (mkF m 46 #[iv p0, iv p1, iv p2, iv d0, iv d1, iv d2, iv d3, un, un, un, un, un, un, un, un] [(.int (p2 &&& (255 : Int32)))])
  refine Go.istore2 48 X0 hx (L' := #[iv p0, iv p1, iv p2, iv d0, iv d1, iv d2, iv d3, iv (p2 &&& (255 : Int32)), un, un, un, un, un, un, un]) (hb hby at_46) rfl rfl ?_
  obtain ⟨d4, h_d4⟩ : ∃ z, z = (p2 &&& (255 : Int32)) := ⟨_, rfl⟩
  rw [← h_d4]
  show Go _ _ _ _ s₁ (mkF m 48 #[iv p0, iv p1, iv p2, iv d0, iv d1, iv d2, iv d3, iv d4, un, un, un, un, un, un, un] [])
  have q_d4 := own_bd h_d4
  refine Go.iload1 49 X0 hx (hb hby at_48) rfl rfl ?_
  refine Go.bipush 51 X0 hx (8 : Int32) (hb hby at_49) (by decide) rfl ?_
  refine Go.iushr 52 X0 hx (hb hby at_51) rfl ?_
  refine Go.sipush 55 X0 hx (255 : Int32) (hb hby at_52) (by decide) rfl ?_
  refine Go.iand 56 X0 hx (hb hby at_55) rfl ?_
  refine Go.i2c 57 X0 hx (hb hby at_56) rfl ?_
  rw [i2c_mask]
  show Go _ _ _ _ s₁ (mkF m 57 #[iv p0, iv p1, iv p2, iv d0, iv d1, iv d2, iv d3, iv d4, un, un, un, un, un, un, un] [(.int ((XT.ushr p2 (8 : Int32)) &&& (255 : Int32)))])
  refine Go.istore2 59 X0 hx (L' := #[iv p0, iv p1, iv p2, iv d0, iv d1, iv d2, iv d3, iv d4, iv ((XT.ushr p2 (8 : Int32)) &&& (255 : Int32)), un, un, un, un, un, un]) (hb hby at_57) rfl rfl ?_
  obtain ⟨d5, h_d5⟩ : ∃ z, z = ((XT.ushr p2 (8 : Int32)) &&& (255 : Int32)) := ⟨_, rfl⟩
  rw [← h_d5]
  show Go _ _ _ _ s₁ (mkF m 59 #[iv p0, iv p1, iv p2, iv d0, iv d1, iv d2, iv d3, iv d4, iv d5, un, un, un, un, un, un] [])
  have q_d5 := own_bd h_d5
  refine Go.bipush 61 X0 hx (6 : Int32) (hb hby at_59) (by decide) rfl ?_
  obtain ⟨ta, g1⟩ : ∃ z, z = h0.size := ⟨_, rfl⟩
  have ge_ta : n0 ≤ ta := Nat.le_trans Z0 (Nat.le_of_eq g1.symm)
  have sz_ta : h0.size ≤ ta := Nat.le_trans (Keep.refl h0 []).1 (Nat.le_of_eq g1.symm)
  obtain ⟨T1, h1, k1, X1, e1, E1, A1, Ea1, st1⟩ := newPE X0 hx hZ (ow hw 0 rfl) e0 (g := (mkF m 61 #[iv p0, iv p1, iv p2, iv d0, iv d1, iv d2, iv d3, iv d4, iv d5, un, un, un, un, un, un] [(.int 6)])) rfl (hb hby at_61) rfl (by decide) (cap := 6) (by decide) (by decide) (by decide) (by decide) (ad := "[C") rfl
  rw [← g1] at A1 Ea1 st1
  have C2 : CHr Z own_EL s.vm h0 s.vm h1 := C0.trans (CHr.ext E1 C0.1)
  have Sf3 : Safe Z own_EL s.vm h1 ta := Safe.ext E1 C0.1 (Safe.new (Nat.le_of_eq g1.symm))
  have V_ta : Arv Z h1 ta k1 .char (6 : Int32) [(.int 0), (.int 0), (.int 0), (.int 0), (.int 0), (.int 0)] (.int 0) := (Arv.new A1 (by decide)).pad (pad_rep [] (.int 0) 6)
  refine Go.by st1 ?_
  show Go _ _ _ _ T1 (mkF m 63 #[iv p0, iv p1, iv p2, iv d0, iv d1, iv d2, iv d3, iv d4, iv d5, un, un, un, un, un, un] [(.ref ta)])
  refine Go.dup 64 X1 hx (hb hby at_63) rfl rfl ?_
  refine Go.iconst 65 X1 hx (0 : Int32) (hb hby at_64) (by decide) rfl ?_
  refine Go.iload1 66 X1 hx (hb hby at_65) rfl rfl ?_
  obtain ⟨cl4, Ar4, q4, S4, M4, H4, G4⟩ := id V_ta
  have hin4 : ¬ ((0 : Int32) < 0 ∨ cl4.slots.size ≤ (0 : Int32).toNatClampNeg) := inb_of S4 ⟨by decide, by decide⟩
  obtain ⟨T4, h4, X4, e4, W4, st4⟩ := stC X1 hx hZ e1 Ar4 (j := (0 : Int32)) hin4 (g := (mkF m 66 #[iv p0, iv p1, iv p2, iv d0, iv d1, iv d2, iv d3, iv d4, iv d5, un, un, un, un, un, un] [(.int d0), (.int 0), (.ref ta), (.ref ta)])) rfl rfl (hb hby at_66)
  have C5 : CHr Z own_EL s.vm h0 s.vm h4 := C2.trans (CHr.wr W4 Sf3 C2.1)
  have Sf6 : Safe Z own_EL s.vm h4 ta := Safe.wr W4 Sf3 C2.1 Sf3
  have N4 := Fr.snoc X4 N0 ge_ta
  have V4 : Arv Z h4 ta k1 .char (6 : Int32) [(.int (nar .char d0)), (.int 0), (.int 0), (.int 0), (.int 0), (.int 0)] (.int 0) := Arv.set Ar4 q4 S4 M4 H4 G4 (fits_nar_char _) W4 0 rfl (Nat.le_of_ble_eq_true rfl)
  refine Go.by st4 ?_
  show Go _ _ _ _ T4 (mkF m 67 #[iv p0, iv p1, iv p2, iv d0, iv d1, iv d2, iv d3, iv d4, iv d5, un, un, un, un, un, un] [(.ref ta)])
  rw [own_ncb (t := d0) q_d0.1 q_d0.2] at V4
  refine Go.dup 68 X4 hx (hb hby at_67) rfl rfl ?_
  refine Go.iconst 69 X4 hx (1 : Int32) (hb hby at_68) (by decide) rfl ?_
  refine Go.iload2 71 X4 hx (hb hby at_69) rfl rfl ?_
  obtain ⟨cl7, Ar7, q7, S7, M7, H7, G7⟩ := id V4
  have hin7 : ¬ ((1 : Int32) < 0 ∨ cl7.slots.size ≤ (1 : Int32).toNatClampNeg) := inb_of S7 ⟨by decide, by decide⟩
  obtain ⟨T7, h7, X7, e7, W7, st7⟩ := stC X4 hx hZ e4 Ar7 (j := (1 : Int32)) hin7 (g := (mkF m 71 #[iv p0, iv p1, iv p2, iv d0, iv d1, iv d2, iv d3, iv d4, iv d5, un, un, un, un, un, un] [(.int d1), (.int 1), (.ref ta), (.ref ta)])) rfl rfl (hb hby at_71)
  have C8 : CHr Z own_EL s.vm h0 s.vm h7 := C5.trans (CHr.wr W7 Sf6 C5.1)
  have Sf9 : Safe Z own_EL s.vm h7 ta := Safe.wr W7 Sf6 C5.1 Sf6
  have N7 := Fr.snoc X7 N4 ge_ta
  have V7 : Arv Z h7 ta k1 .char (6 : Int32) [(.int d0), (.int (nar .char d1)), (.int 0), (.int 0), (.int 0), (.int 0)] (.int 0) := Arv.set Ar7 q7 S7 M7 H7 G7 (fits_nar_char _) W7 1 rfl (Nat.le_of_ble_eq_true rfl)
  refine Go.by st7 ?_
  show Go _ _ _ _ T7 (mkF m 72 #[iv p0, iv p1, iv p2, iv d0, iv d1, iv d2, iv d3, iv d4, iv d5, un, un, un, un, un, un] [(.ref ta)])
  rw [own_ncb (t := d1) q_d1.1 q_d1.2] at V7
  refine Go.dup 73 X7 hx (hb hby at_72) rfl rfl ?_
  refine Go.iconst 74 X7 hx (2 : Int32) (hb hby at_73) (by decide) rfl ?_
  refine Go.iload2 76 X7 hx (hb hby at_74) rfl rfl ?_
  obtain ⟨cl10, Ar10, q10, S10, M10, H10, G10⟩ := id V7
  have hin10 : ¬ ((2 : Int32) < 0 ∨ cl10.slots.size ≤ (2 : Int32).toNatClampNeg) := inb_of S10 ⟨by decide, by decide⟩
  obtain ⟨T10, h10, X10, e10, W10, st10⟩ := stC X7 hx hZ e7 Ar10 (j := (2 : Int32)) hin10 (g := (mkF m 76 #[iv p0, iv p1, iv p2, iv d0, iv d1, iv d2, iv d3, iv d4, iv d5, un, un, un, un, un, un] [(.int d2), (.int 2), (.ref ta), (.ref ta)])) rfl rfl (hb hby at_76)
  have C11 : CHr Z own_EL s.vm h0 s.vm h10 := C8.trans (CHr.wr W10 Sf9 C8.1)
  have Sf12 : Safe Z own_EL s.vm h10 ta := Safe.wr W10 Sf9 C8.1 Sf9
  have N10 := Fr.snoc X10 N7 ge_ta
  have V10 : Arv Z h10 ta k1 .char (6 : Int32) [(.int d0), (.int d1), (.int (nar .char d2)), (.int 0), (.int 0), (.int 0)] (.int 0) := Arv.set Ar10 q10 S10 M10 H10 G10 (fits_nar_char _) W10 2 rfl (Nat.le_of_ble_eq_true rfl)
  refine Go.by st10 ?_
  show Go _ _ _ _ T10 (mkF m 77 #[iv p0, iv p1, iv p2, iv d0, iv d1, iv d2, iv d3, iv d4, iv d5, un, un, un, un, un, un] [(.ref ta)])
  rw [own_ncb (t := d2) q_d2.1 q_d2.2] at V10
  refine Go.dup 78 X10 hx (hb hby at_77) rfl rfl ?_
  refine Go.iconst 79 X10 hx (3 : Int32) (hb hby at_78) (by decide) rfl ?_
  refine Go.iload2 81 X10 hx (hb hby at_79) rfl rfl ?_
  obtain ⟨cl13, Ar13, q13, S13, M13, H13, G13⟩ := id V10
  have hin13 : ¬ ((3 : Int32) < 0 ∨ cl13.slots.size ≤ (3 : Int32).toNatClampNeg) := inb_of S13 ⟨by decide, by decide⟩
  obtain ⟨T13, h13, X13, e13, W13, st13⟩ := stC X10 hx hZ e10 Ar13 (j := (3 : Int32)) hin13 (g := (mkF m 81 #[iv p0, iv p1, iv p2, iv d0, iv d1, iv d2, iv d3, iv d4, iv d5, un, un, un, un, un, un] [(.int d3), (.int 3), (.ref ta), (.ref ta)])) rfl rfl (hb hby at_81)
  have C14 : CHr Z own_EL s.vm h0 s.vm h13 := C11.trans (CHr.wr W13 Sf12 C11.1)
  have Sf15 : Safe Z own_EL s.vm h13 ta := Safe.wr W13 Sf12 C11.1 Sf12
  have N13 := Fr.snoc X13 N10 ge_ta
  have V13 : Arv Z h13 ta k1 .char (6 : Int32) [(.int d0), (.int d1), (.int d2), (.int (nar .char d3)), (.int 0), (.int 0)] (.int 0) := Arv.set Ar13 q13 S13 M13 H13 G13 (fits_nar_char _) W13 3 rfl (Nat.le_of_ble_eq_true rfl)
  refine Go.by st13 ?_
  show Go _ _ _ _ T13 (mkF m 82 #[iv p0, iv p1, iv p2, iv d0, iv d1, iv d2, iv d3, iv d4, iv d5, un, un, un, un, un, un] [(.ref ta)])
  rw [own_ncb (t := d3) q_d3.1 q_d3.2] at V13
  refine Go.dup 83 X13 hx (hb hby at_82) rfl rfl ?_
  refine Go.iconst 84 X13 hx (4 : Int32) (hb hby at_83) (by decide) rfl ?_
  refine Go.iload2 86 X13 hx (hb hby at_84) rfl rfl ?_
  obtain ⟨cl16, Ar16, q16, S16, M16, H16, G16⟩ := id V13
  have hin16 : ¬ ((4 : Int32) < 0 ∨ cl16.slots.size ≤ (4 : Int32).toNatClampNeg) := inb_of S16 ⟨by decide, by decide⟩
  obtain ⟨T16, h16, X16, e16, W16, st16⟩ := stC X13 hx hZ e13 Ar16 (j := (4 : Int32)) hin16 (g := (mkF m 86 #[iv p0, iv p1, iv p2, iv d0, iv d1, iv d2, iv d3, iv d4, iv d5, un, un, un, un, un, un] [(.int d4), (.int 4), (.ref ta), (.ref ta)])) rfl rfl (hb hby at_86)
  have C17 : CHr Z own_EL s.vm h0 s.vm h16 := C14.trans (CHr.wr W16 Sf15 C14.1)
  have Sf18 : Safe Z own_EL s.vm h16 ta := Safe.wr W16 Sf15 C14.1 Sf15
  have N16 := Fr.snoc X16 N13 ge_ta
  have V16 : Arv Z h16 ta k1 .char (6 : Int32) [(.int d0), (.int d1), (.int d2), (.int d3), (.int (nar .char d4)), (.int 0)] (.int 0) := Arv.set Ar16 q16 S16 M16 H16 G16 (fits_nar_char _) W16 4 rfl (Nat.le_of_ble_eq_true rfl)
  refine Go.by st16 ?_
  show Go _ _ _ _ T16 (mkF m 87 #[iv p0, iv p1, iv p2, iv d0, iv d1, iv d2, iv d3, iv d4, iv d5, un, un, un, un, un, un] [(.ref ta)])
  rw [own_ncb (t := d4) q_d4.1 q_d4.2] at V16
  refine Go.dup 88 X16 hx (hb hby at_87) rfl rfl ?_
  refine Go.iconst 89 X16 hx (5 : Int32) (hb hby at_88) (by decide) rfl ?_
  refine Go.iload2 91 X16 hx (hb hby at_89) rfl rfl ?_
  obtain ⟨cl19, Ar19, q19, S19, M19, H19, G19⟩ := id V16
  have hin19 : ¬ ((5 : Int32) < 0 ∨ cl19.slots.size ≤ (5 : Int32).toNatClampNeg) := inb_of S19 ⟨by decide, by decide⟩
  obtain ⟨T19, h19, X19, e19, W19, st19⟩ := stC X16 hx hZ e16 Ar19 (j := (5 : Int32)) hin19 (g := (mkF m 91 #[iv p0, iv p1, iv p2, iv d0, iv d1, iv d2, iv d3, iv d4, iv d5, un, un, un, un, un, un] [(.int d5), (.int 5), (.ref ta), (.ref ta)])) rfl rfl (hb hby at_91)
  have C20 : CHr Z own_EL s.vm h0 s.vm h19 := C17.trans (CHr.wr W19 Sf18 C17.1)
  have Sf21 : Safe Z own_EL s.vm h19 ta := Safe.wr W19 Sf18 C17.1 Sf18
  have N19 := Fr.snoc X19 N16 ge_ta
  have V19 : Arv Z h19 ta k1 .char (6 : Int32) [(.int d0), (.int d1), (.int d2), (.int d3), (.int d4), (.int (nar .char d5))] (.int 0) := Arv.set Ar19 q19 S19 M19 H19 G19 (fits_nar_char _) W19 5 rfl (Nat.le_of_ble_eq_true rfl)
  refine Go.by st19 ?_
  show Go _ _ _ _ T19 (mkF m 92 #[iv p0, iv p1, iv p2, iv d0, iv d1, iv d2, iv d3, iv d4, iv d5, un, un, un, un, un, un] [(.ref ta)])
  rw [own_ncb (t := d5) q_d5.1 q_d5.2] at V19
  refine Go.astore2 94 X19 hx (L' := #[iv p0, iv p1, iv p2, iv d0, iv d1, iv d2, iv d3, iv d4, iv d5, rv ta, un, un, un, un, un]) (hb hby at_92) rfl rfl rfl ?_
  refine Go.iload1 95 X19 hx (hb hby at_94) rfl rfl ?_
  refine Go.iconst 96 X19 hx (3 : Int32) (hb hby at_95) (by decide) rfl ?_
  refine Go.iand 97 X19 hx (hb hby at_96) rfl ?_
  have J22 : ∀ (T22 : State) (lc22 : List Loc) (H22 : Heap) (t0 : Int32) (t1 : Int32) (t2 : Int32) (t3 : Int32) (t4 : Int32) (t5 : Int32) (ln : Int32) (s11 : Slot) (s12 : Slot) (s13 : Slot), (Stand p l e room_1 (s.setVm s.vm) m #[(.int p0), (.int p1), (.int p2)] below meth c T22 lc22 1 6) → (T22.heap = H22) → (Fr n0 lc22) → (n0 ≤ H22.size) → (Old Z n0 H22) → (CHr Z own_EL s.vm h0 s.vm H22) → (s.heap.size ≤ H22.size) → (Arv Z H22 ta k1 .char (6 : Int32) ([(.int t0), (.int t1), (.int t2), (.int t3), (.int t4), (.int t5)]) (.int 0)) → (¬ t0 < 0 ∧ ¬ (255 : Int32) < t0) → (¬ t1 < 0 ∧ ¬ (255 : Int32) < t1) → (¬ t2 < 0 ∧ ¬ (255 : Int32) < t2) → (¬ t3 < 0 ∧ ¬ (255 : Int32) < t3) → (¬ t4 < 0 ∧ ¬ (255 : Int32) < t4) → (¬ t5 < 0 ∧ ¬ (255 : Int32) < t5) → (ln = 0 ∨ ln = 1 ∨ ln = 2 ∨ ln = 3 ∨ ln = 4 ∨ ln = 5 ∨ ln = 6) → (s11 = .unset ∨ ∃ w, s11 = .val w ∧ w.category = 1) → (s12 = .unset ∨ ∃ w, s12 = .val w ∧ w.category = 1) → (s13 = .unset ∨ ∃ w, s13 = .val w ∧ w.category = 1) → Go p e below (EndW Z own_EL s (Q_rm0 Z p0 p1 p2 cs bT bF h0 n0) 15 82) T22 (mkF m 340 #[iv p0, iv p1, iv p2, iv d0, iv d1, iv d2, iv d3, iv d4, iv d5, rv ta, iv ln, s11, s12, s13, un] []) := by
    intro T22 lc22 H22 t0 t1 t2 t3 t4 t5 ln s11 s12 s13 X22 e22 N22 Zj22 Oj22 C22 hkj22 Fj22_0 hb0 hb1 hb2 hb3 hb4 hb5 hln hs11 hs12 hs13
    show Go _ _ _ _ T22 (mkF m 340 #[iv p0, iv p1, iv p2, iv d0, iv d1, iv d2, iv d3, iv d4, iv d5, rv ta, iv ln, s11, s12, s13, un] [])
    rcases hln with rfl | rfl | rfl | rfl | rfl | rfl | rfl
    · show Go _ _ _ _ T22 (mkF m 340 #[iv p0, iv p1, iv p2, iv d0, iv d1, iv d2, iv d3, iv d4, iv d5, rv ta, iv 0, s11, s12, s13, un] [])
      refine Go.aload2 342 X22 hx (hb hby at_340) rfl rfl rfl ?_
      refine Go.iload2 344 X22 hx (hb hby at_342) rfl rfl ?_
      obtain ⟨_, _, ⟨T23, L23, k23, n23⟩, -, Xq23, hSq23, hgr23, ⟨Lc23, hQ23, l23, y23, z23, CH23⟩, st23⟩ := callSS X22 hx (y := (⟨"com/example/entries_to_nodes/entriestonodes/xml/XsBooleanReadPinLaw", "str", "([CI)Ljava/lang/String;"⟩ : MethodName)) hown (mvT hZ (ow hw 1 rfl)) (mvT hZ (ow hw 2 rfl)) (mvT hZ (ow hw 3 rfl)) (mvT hZ (ow hw 4 rfl)) (by decide) (backOfSH (W := 0) (rmStr0 l Z a0 hw [] ta k1 t0 t1 t2 t3 t4 t5 cs H22 n0 Zj22 Oj22 Fj22_0 S_cs n_cs) hZ (ow hw 4 rfl) (ow hw 3 rfl) (by decide) (by decide) hEL C22.1) (g := (mkF m 344 #[iv p0, iv p1, iv p2, iv d0, iv d1, iv d2, iv d3, iv d4, iv d5, rv ta, iv 0, s11, s12, s13, un] [(.int 0), (.ref ta)])) rfl (by rw [hml]; rfl) (argsL := [(.ref ta), (.int 0)]) (rest := []) (lenOf pd_373 rfl) rfl (by show 2 * 0 + _ ≤ _; exact Nat.le_of_eq rfl) (hb hby at_344) (fun _ _ => ⟨rfl, e22, (by decide : 1 + 6 ≤ _), (by decide : 6 + 12 ≤ _)⟩)
      dsimp only [Pt.U, Pt.locs, Pt.cells, Pt.slots] at Xq23 hSq23 hgr23 l23 y23 z23 st23 hQ23 CH23
      subst l23 y23 z23
      obtain ⟨st, sb, kb, rfl, N23q, K23, Q23_0, Q23_1, Q23_2, Q23_3, Q23_4⟩ := hQ23
      have N23 := Fr.app N22 N23q
      obtain ⟨X23, hS23, hZ23, hown23⟩ := rebS hS0 (by rw [e22]; exact hkj22) Xq23 hSq23 hgr23 hZ hown
      have C24 : CHr Z own_EL s.vm h0 T23.vm T23.heap := C22.trans CH23
      refine Go.to st23 ?_
      show Go _ _ _ _ T23 (mkF m 347 #[iv p0, iv p1, iv p2, iv d0, iv d1, iv d2, iv d3, iv d4, iv d5, rv ta, iv 0, s11, s12, s13, un] [(.ref st)])
      have ge_st : n0 ≤ st := Nat.le_trans Zj22 Q23_4
      have ne_ta_st : ta ≠ st := Nat.ne_of_lt (Nat.lt_of_lt_of_le Fj22_0.lt Q23_4)
      refine Go.astore2 349 X23 hx (L' := #[iv p0, iv p1, iv p2, iv d0, iv d1, iv d2, iv d3, iv d4, iv d5, rv ta, iv 0, rv st, s12, s13, un]) (hb hby at_347) rfl (XS.store1 rfl hs11 rfl) rfl ?_
      refine Go.aload2 351 X23 hx (hb hby at_349) rfl rfl rfl ?_
      have F25 : Old Z n0 T23.heap := Oj22.keep K23 all0
      have F26 : n0 ≤ T23.heap.size := Nat.le_trans Zj22 K23.1
      obtain ⟨_, _, ⟨T27, L27, k27, n27⟩, -, Xq27, hSq27, hgr27, ⟨Lc27, hQ27, l27, y27, z27, CH27⟩, st27⟩ := callSS X23 hx (y := (⟨"com/example/entries_to_nodes/entriestonodes/xml/XsBoolean", "read", "(Ljava/lang/String;)Ljava/lang/Boolean;"⟩ : MethodName)) hown23 (mvT hZ23 (ow hw 26 rfl)) (mvT hZ23 (ow hw 27 rfl)) (mvT hZ23 (ow hw 28 rfl)) (mvT hZ23 (ow hw 29 rfl)) (by decide) (backOfSH (W := 0) (rmRead0 l Z a0 hw [] st sb kb cs bT bF T23.heap n0 F26 F25 Q23_0 Q23_1 Q23_2 Q23_3 S_cs n_cs B0 B1 B2 B3 B4 B5) hZ23 (ow hw 29 rfl) (ow hw 28 rfl) (by decide) (by decide) hEL C24.1) (g := (mkF m 351 #[iv p0, iv p1, iv p2, iv d0, iv d1, iv d2, iv d3, iv d4, iv d5, rv ta, iv 0, rv st, s12, s13, un] [(.ref st)])) rfl (by rw [hml]; rfl) (argsL := [(.ref st)]) (rest := []) (lenOf pd_374 rfl) rfl (by show 2 * 0 + _ ≤ _; exact Nat.le_of_eq rfl) (hb hby at_351) (fun _ _ => ⟨rfl, rfl, (by decide : 7 + 8 ≤ _), (by decide : 18 + 60 ≤ _)⟩)
      dsimp only [Pt.U, Pt.locs, Pt.cells, Pt.slots] at Xq27 hSq27 hgr27 l27 y27 z27 st27 hQ27 CH27
      subst l27 y27 z27
      obtain ⟨rz, rfl, N27q, K27, Q27_0⟩ := hQ27
      have N27 := Fr.app N23 N27q
      obtain ⟨X27, hS27, hZ27, hown27⟩ := rebS hS23 (by exact (Nat.le_refl T23.heap.size)) Xq27 hSq27 hgr27 hZ23 hown23
      have C28 : CHr Z own_EL s.vm h0 T27.vm T27.heap := C24.trans CH27
      refine Go.to st27 ?_
      show Go _ _ _ _ T27 (mkF m 354 #[iv p0, iv p1, iv p2, iv d0, iv d1, iv d2, iv d3, iv d4, iv d5, rv ta, iv 0, rv st, s12, s13, un] [rz])
      obtain ⟨-, rfl⟩ := Q27_0
      show Go _ _ _ _ T27 (mkF m 354 #[iv p0, iv p1, iv p2, iv d0, iv d1, iv d2, iv d3, iv d4, iv d5, rv ta, iv 0, rv st, s12, s13, un] [.null])
      refine Go.astore2 356 X27 hx (L' := #[iv p0, iv p1, iv p2, iv d0, iv d1, iv d2, iv d3, iv d4, iv d5, rv ta, iv 0, rv st, .val .null, s13, un]) (hb hby at_354) rfl (XS.store1 rfl hs12 rfl) rfl ?_
      refine Go.iload2 358 X27 hx (hb hby at_356) rfl rfl ?_
      refine Go.iconst 359 X27 hx (4 : Int32) (hb hby at_358) (by decide) rfl ?_
      refine Go.icmpY 398 X27 hx (hb hby at_359) (XT.ii_ne_t (by decide)) (by decide) (by decide) ?_
      refine Go.iload2 400 X27 hx (hb hby at_398) rfl rfl ?_
      refine Go.iconst 401 X27 hx (1 : Int32) (hb hby at_400) (by decide) rfl ?_
      refine Go.icmpY 417 X27 hx (hb hby at_401) (XT.ii_ne_t (by decide)) (by decide) (by decide) ?_
      refine Go.iconst 418 X27 hx (0 : Int32) (hb hby at_417) (by decide) rfl ?_
      refine Go.istore2 420 X27 hx (L' := #[iv p0, iv p1, iv p2, iv d0, iv d1, iv d2, iv d3, iv d4, iv d5, rv ta, iv 0, rv st, .val .null, iv 0, un]) (hb hby at_418) (XS.store1 rfl hs13 rfl) rfl ?_
      refine Go.iload2 422 X27 hx (hb hby at_420) rfl rfl ?_
      refine Go.iconst 423 X27 hx (5 : Int32) (hb hby at_422) (by decide) rfl ?_
      refine Go.icmpY 471 X27 hx (hb hby at_423) (XT.ii_ne_t (by decide)) (by decide) (by decide) ?_
      refine Go.iload2 473 X27 hx (hb hby at_471) rfl rfl ?_
      refine Go.iconst 474 X27 hx (1 : Int32) (hb hby at_473) (by decide) rfl ?_
      refine Go.icmpY 490 X27 hx (hb hby at_474) (XT.ii_ne_t (by decide)) (by decide) (by decide) ?_
      refine Go.iconst 491 X27 hx (0 : Int32) (hb hby at_490) (by decide) rfl ?_
      refine Go.istore2 493 X27 hx (L' := #[iv p0, iv p1, iv p2, iv d0, iv d1, iv d2, iv d3, iv d4, iv d5, rv ta, iv 0, rv st, .val .null, iv 0, iv 0]) (hb hby at_491) rfl rfl ?_
      refine Go.iload2 495 X27 hx (hb hby at_493) rfl rfl ?_
      refine Go.ifY 517 X27 hx (hb hby at_495) (XT.i0_eq_t rfl) (by decide) (by decide) ?_
      refine Go.iload2 519 X27 hx (hb hby at_517) rfl rfl ?_
      refine Go.ifY 541 X27 hx (hb hby at_519) (XT.i0_eq_t rfl) (by decide) (by decide) ?_
      refine Go.aload2 543 X27 hx (hb hby at_541) rfl rfl rfl ?_
      refine Go.by (fun _ gk => XT.nonnullNo X27.here hx rfl (hb hby at_543) rfl rfl gk) ?_
      show Go _ _ _ _ T27 (mkF m 546 #[iv p0, iv p1, iv p2, iv d0, iv d1, iv d2, iv d3, iv d4, iv d5, rv ta, iv 0, rv st, .val .null, iv 0, iv 0] [])
      refine Go.iconst 547 X27 hx (1 : Int32) (hb hby at_546) (by decide) rfl ?_
      refine Go.goto 551 X27 hx (hb hby at_547) (by decide) (by decide) ?_
      exact Go.retIW X27 hx Bd.notSynchronized hS27 (by exact (Nat.le_refl T27.heap.size)) hZ27 hEL (by rw [hh]; exact C28) Bd.returns rfl (by simp) (hb hby at_551) ⟨rfl, N27⟩ (by decide) (by decide)
    · show Go _ _ _ _ T22 (mkF m 340 #[iv p0, iv p1, iv p2, iv d0, iv d1, iv d2, iv d3, iv d4, iv d5, rv ta, iv 1, s11, s12, s13, un] [])
      refine Go.aload2 342 X22 hx (hb hby at_340) rfl rfl rfl ?_
      refine Go.iload2 344 X22 hx (hb hby at_342) rfl rfl ?_
      obtain ⟨_, _, ⟨T29, L29, k29, n29⟩, -, X29, ⟨Lc29, hQ29, l29, y29, z29⟩, st29⟩ := Jvm.LawKit.callS X22 hx (y := (⟨"com/example/entries_to_nodes/entriestonodes/xml/XsBooleanReadPinLaw", "str", "([CI)Ljava/lang/String;"⟩ : MethodName)) hown (mvT hZ (ow hw 1 rfl)) (mvT hZ (ow hw 2 rfl)) (mvT hZ (ow hw 3 rfl)) (mvT hZ (ow hw 4 rfl)) (by decide) (backOf (W := 0) (rmStr1 l Z a0 hw [] ta k1 t0 t1 t2 t3 t4 t5 cs H22 n0 Zj22 Oj22 Fj22_0 hb0 S_cs n_cs) hZ (ow hw 4 rfl) (ow hw 3 rfl) (by decide) (by decide)) (g := (mkF m 344 #[iv p0, iv p1, iv p2, iv d0, iv d1, iv d2, iv d3, iv d4, iv d5, rv ta, iv 1, s11, s12, s13, un] [(.int 1), (.ref ta)])) rfl (by rw [hml]; rfl) (argsL := [(.ref ta), (.int 1)]) (rest := []) (lenOf pd_373 rfl) rfl (by show 2 * 0 + _ ≤ _; exact Nat.le_of_eq rfl) (hb hby at_344) (fun _ _ => ⟨rfl, e22, (by decide : 1 + 3 ≤ _), (by decide : 6 + 6 ≤ _)⟩)
      dsimp only [Pt.U, Pt.locs, Pt.cells, Pt.slots] at X29 l29 y29 z29 st29 hQ29
      subst l29 y29 z29
      obtain ⟨st, sb, kb, rfl, N29q, K29, Q29_0, Q29_1, Q29_2, Q29_3, Q29_4⟩ := hQ29
      have N29 := Fr.app N22 N29q
      have C30 : CHr Z own_EL s.vm h0 s.vm T29.heap := C22.trans (CHr.keep K29 sf0 C22.1)
      refine Go.by st29 ?_
      show Go _ _ _ _ T29 (mkF m 347 #[iv p0, iv p1, iv p2, iv d0, iv d1, iv d2, iv d3, iv d4, iv d5, rv ta, iv 1, s11, s12, s13, un] [(.ref st)])
      have ge_st : n0 ≤ st := Nat.le_trans Zj22 Q29_4
      have ne_ta_st : ta ≠ st := Nat.ne_of_lt (Nat.lt_of_lt_of_le Fj22_0.lt Q29_4)
      refine Go.astore2 349 X29 hx (L' := #[iv p0, iv p1, iv p2, iv d0, iv d1, iv d2, iv d3, iv d4, iv d5, rv ta, iv 1, rv st, s12, s13, un]) (hb hby at_347) rfl (XS.store1 rfl hs11 rfl) rfl ?_
      refine Go.aload2 351 X29 hx (hb hby at_349) rfl rfl rfl ?_
      have F31 : Old Z n0 T29.heap := Oj22.keep K29 all0
      have F32 : n0 ≤ T29.heap.size := Nat.le_trans Zj22 K29.1
      have F34 : s.heap.size ≤ T29.heap.size := Nat.le_trans hkj22 K29.1
      obtain ⟨_, _, ⟨T33, L33, k33, n33⟩, -, Xq33, hSq33, hgr33, ⟨Lc33, hQ33, l33, y33, z33, CH33⟩, st33⟩ := callSS X29 hx (y := (⟨"com/example/entries_to_nodes/entriestonodes/xml/XsBoolean", "read", "(Ljava/lang/String;)Ljava/lang/Boolean;"⟩ : MethodName)) hown (mvT hZ (ow hw 26 rfl)) (mvT hZ (ow hw 27 rfl)) (mvT hZ (ow hw 28 rfl)) (mvT hZ (ow hw 29 rfl)) (by decide) (backOfSH (W := 0) (rmRead1 l Z a0 hw [] st sb kb (own_b t0) cs bT bF T29.heap n0 F32 F31 Q29_0 Q29_1 Q29_2 Q29_3 S_cs n_cs B0 B1 B2 B3 B4 B5) hZ (ow hw 29 rfl) (ow hw 28 rfl) (by decide) (by decide) hEL C30.1) (g := (mkF m 351 #[iv p0, iv p1, iv p2, iv d0, iv d1, iv d2, iv d3, iv d4, iv d5, rv ta, iv 1, rv st, s12, s13, un] [(.ref st)])) rfl (by rw [hml]; rfl) (argsL := [(.ref st)]) (rest := []) (lenOf pd_374 rfl) rfl (by show 2 * 0 + _ ≤ _; exact Nat.le_of_eq rfl) (hb hby at_351) (fun _ _ => ⟨rfl, rfl, (by decide : 4 + 8 ≤ _), (by decide : 12 + 60 ≤ _)⟩)
      dsimp only [Pt.U, Pt.locs, Pt.cells, Pt.slots] at Xq33 hSq33 hgr33 l33 y33 z33 st33 hQ33 CH33
      subst l33 y33 z33
      obtain ⟨rz, rfl, N33q, K33, Q33_0⟩ := hQ33
      have N33 := Fr.app N29 N33q
      obtain ⟨X33, hS33, hZ33, hown33⟩ := rebS hS0 (by exact F34) Xq33 hSq33 hgr33 hZ hown
      have C35 : CHr Z own_EL s.vm h0 T33.vm T33.heap := C30.trans CH33
      refine Go.to st33 ?_
      show Go _ _ _ _ T33 (mkF m 354 #[iv p0, iv p1, iv p2, iv d0, iv d1, iv d2, iv d3, iv d4, iv d5, rv ta, iv 1, rv st, s12, s13, un] [rz])
      rcases Q33_0 with ⟨hP, rfl⟩ | ⟨hP, rfl⟩ | ⟨hP, rfl⟩
      · show Go _ _ _ _ T33 (mkF m 354 #[iv p0, iv p1, iv p2, iv d0, iv d1, iv d2, iv d3, iv d4, iv d5, rv ta, iv 1, rv st, s12, s13, un] [(.ref bT)])
        have hz0 := hP
        obtain rfl : t0 = 49 := (own_lit hb0 49 (by decide)).mp hz0
        refine Go.astore2 356 X33 hx (L' := #[iv p0, iv p1, iv p2, iv d0, iv d1, iv d2, iv d3, iv d4, iv d5, rv ta, iv 1, rv st, rv bT, s13, un]) (hb hby at_354) rfl (XS.store1 rfl hs12 rfl) rfl ?_
        refine Go.iload2 358 X33 hx (hb hby at_356) rfl rfl ?_
        refine Go.iconst 359 X33 hx (4 : Int32) (hb hby at_358) (by decide) rfl ?_
        refine Go.icmpY 398 X33 hx (hb hby at_359) (XT.ii_ne_t (by decide)) (by decide) (by decide) ?_
        refine Go.iload2 400 X33 hx (hb hby at_398) rfl rfl ?_
        refine Go.iconst 401 X33 hx (1 : Int32) (hb hby at_400) (by decide) rfl ?_
        refine Go.icmpN 404 X33 hx (hb hby at_401) (XT.ii_ne_f rfl) rfl ?_
        refine Go.aload2 406 X33 hx (hb hby at_404) rfl rfl rfl ?_
        refine Go.iconst 407 X33 hx (0 : Int32) (hb hby at_406) (by decide) rfl ?_
        have F36 : Arv Z T29.heap ta k1 .char (6 : Int32) [(.int 49), (.int t1), (.int t2), (.int t3), (.int t4), (.int t5)] (.int 0) := Fj22_0.keep K29 nin0
        have F37 : Arv Z T33.heap ta k1 .char (6 : Int32) [(.int 49), (.int t1), (.int t2), (.int t3), (.int t4), (.int t5)] (.int 0) := F36.keep K33 nin0
        obtain ⟨cl38, Ar38, -, S38, M38, H38, -⟩ := id F37
        have hin38 : ¬ ((0 : Int32) < 0 ∨ cl38.slots.size ≤ (0 : Int32).toNatClampNeg) := inb_of S38 ⟨by decide, by decide⟩
        refine Go.by (fun _ gk => X33.caload hx (j := (0 : Int32)) (v := (.int 49)) (by exact Ar38.1) (State.isArrayOf_alike hZ33.alike Ar38.2.1) Ar38.2.2 hin38 (Has.at H38 hin38 rfl) (g := (mkF m 407 #[iv p0, iv p1, iv p2, iv d0, iv d1, iv d2, iv d3, iv d4, iv d5, rv ta, iv 1, rv st, rv bT, s13, un] [(.int 0), (.ref ta)])) rfl rfl (hb hby at_407) _ gk) ?_
        show Go _ _ _ _ T33 (mkF m 408 #[iv p0, iv p1, iv p2, iv d0, iv d1, iv d2, iv d3, iv d4, iv d5, rv ta, iv 1, rv st, rv bT, s13, un] [(.int 49)])
        refine Go.bipush 410 X33 hx (49 : Int32) (hb hby at_408) (by decide) rfl ?_
        refine Go.icmpN 413 X33 hx (hb hby at_410) (XT.ii_ne_f rfl) rfl ?_
        refine Go.iconst 414 X33 hx (1 : Int32) (hb hby at_413) (by decide) rfl ?_
        refine Go.goto 418 X33 hx (hb hby at_414) (by decide) (by decide) ?_
        refine Go.istore2 420 X33 hx (L' := #[iv p0, iv p1, iv p2, iv d0, iv d1, iv d2, iv d3, iv d4, iv d5, rv ta, iv 1, rv st, rv bT, iv 1, un]) (hb hby at_418) (XS.store1 rfl hs13 rfl) rfl ?_
        refine Go.iload2 422 X33 hx (hb hby at_420) rfl rfl ?_
        refine Go.iconst 423 X33 hx (5 : Int32) (hb hby at_422) (by decide) rfl ?_
        refine Go.icmpY 471 X33 hx (hb hby at_423) (XT.ii_ne_t (by decide)) (by decide) (by decide) ?_
        refine Go.iload2 473 X33 hx (hb hby at_471) rfl rfl ?_
        refine Go.iconst 474 X33 hx (1 : Int32) (hb hby at_473) (by decide) rfl ?_
        refine Go.icmpN 477 X33 hx (hb hby at_474) (XT.ii_ne_f rfl) rfl ?_
        refine Go.aload2 479 X33 hx (hb hby at_477) rfl rfl rfl ?_
        refine Go.iconst 480 X33 hx (0 : Int32) (hb hby at_479) (by decide) rfl ?_
        obtain ⟨cl39, Ar39, -, S39, M39, H39, -⟩ := id F37
        have hin39 : ¬ ((0 : Int32) < 0 ∨ cl39.slots.size ≤ (0 : Int32).toNatClampNeg) := inb_of S39 ⟨by decide, by decide⟩
        refine Go.by (fun _ gk => X33.caload hx (j := (0 : Int32)) (v := (.int 49)) (by exact Ar39.1) (State.isArrayOf_alike hZ33.alike Ar39.2.1) Ar39.2.2 hin39 (Has.at H39 hin39 rfl) (g := (mkF m 480 #[iv p0, iv p1, iv p2, iv d0, iv d1, iv d2, iv d3, iv d4, iv d5, rv ta, iv 1, rv st, rv bT, iv 1, un] [(.int 0), (.ref ta)])) rfl rfl (hb hby at_480) _ gk) ?_
        show Go _ _ _ _ T33 (mkF m 481 #[iv p0, iv p1, iv p2, iv d0, iv d1, iv d2, iv d3, iv d4, iv d5, rv ta, iv 1, rv st, rv bT, iv 1, un] [(.int 49)])
        refine Go.bipush 483 X33 hx (48 : Int32) (hb hby at_481) (by decide) rfl ?_
        refine Go.icmpY 490 X33 hx (hb hby at_483) (XT.ii_ne_t (by decide)) (by decide) (by decide) ?_
        refine Go.iconst 491 X33 hx (0 : Int32) (hb hby at_490) (by decide) rfl ?_
        refine Go.istore2 493 X33 hx (L' := #[iv p0, iv p1, iv p2, iv d0, iv d1, iv d2, iv d3, iv d4, iv d5, rv ta, iv 1, rv st, rv bT, iv 1, iv 0]) (hb hby at_491) rfl rfl ?_
        refine Go.iload2 495 X33 hx (hb hby at_493) rfl rfl ?_
        refine Go.ifN 498 X33 hx (hb hby at_495) (XT.i0_eq_f (by decide)) rfl ?_
        refine Go.aload2 500 X33 hx (hb hby at_498) rfl rfl rfl ?_
        refine Go.by (fun _ gk => XT.nullNo X33.here hx rfl (hb hby at_500) rfl rfl nofun gk) ?_
        show Go _ _ _ _ T33 (mkF m 503 #[iv p0, iv p1, iv p2, iv d0, iv d1, iv d2, iv d3, iv d4, iv d5, rv ta, iv 1, rv st, rv bT, iv 1, iv 0] [])
        refine Go.aload2 505 X33 hx (hb hby at_503) rfl rfl rfl ?_
        have F40 : Old Z n0 T33.heap := F31.keep K33 all0
        have F41 : Fld Z T33.heap bT "java/lang/Boolean" "value" "Z" (.int 1) := B2.ext F40.2
        have F42 : n0 ≤ T33.heap.size := Nat.le_trans F32 K33.1
        have F44 : Exa Z T33.heap bT "java/lang/Boolean" := B1.ext F40.2
        obtain ⟨cq43, kq43, q43a, q43b, q43c⟩ := isOf hZ33 rfl F44
        obtain ⟨_, _, ⟨T43, L43, k43, n43⟩, -, X43, ⟨Lc43, hQ43, l43, y43, z43⟩, st43⟩ := X33.virtualBack hx (y := (⟨"java/lang/Boolean", "booleanValue", "()Z"⟩ : MethodName)) (z := (⟨"java/lang/Boolean", "booleanValue", "()Z"⟩ : MethodName)) hown33 (mvT hZ33 (ow hw 57 rfl)) (mvT hZ33 (ow hw 58 rfl)) (notFace_of_selects (args := #[]) (mvT hZ33 (ow hw 60 rfl))) (mvT hZ33 (ow hw 60 rfl)) (mvT hZ33 (ow hw 59 rfl)) (by decide) (backOf (W := 0) (rmBval l Z a0 hw [] bT (1 : Int32) T33.heap n0 F42 F40 F41 rfl) hZ33 (ow hw 61 rfl) (ow hw 56 rfl) (by decide) (by decide)) q43a q43c (g := (mkF m 505 #[iv p0, iv p1, iv p2, iv d0, iv d1, iv d2, iv d3, iv d4, iv d5, rv ta, iv 1, rv st, rv bT, iv 1, iv 0] [(.ref bT)])) rfl (by rw [hml]; rfl) (Steps.refl _) (argsL := []) (rest := []) (lenOf pd_375 rfl) rfl (by show 2 * 0 + _ ≤ _; exact Nat.le_of_eq rfl) (hb hby at_505) (fun _ _ => ⟨rfl, rfl, (by decide : 12 + 0 ≤ _), (by decide : 72 + 0 ≤ _)⟩)
        dsimp only [Pt.U, Pt.locs, Pt.cells, Pt.slots] at X43 l43 y43 z43 st43 hQ43
        subst l43 y43 z43
        obtain ⟨rfl, N43q, e43⟩ := hQ43
        have N43 := Fr.app N33 N43q
        refine Go.to st43 ?_
        show Go _ _ _ _ T43 (mkF m 508 #[iv p0, iv p1, iv p2, iv d0, iv d1, iv d2, iv d3, iv d4, iv d5, rv ta, iv 1, rv st, rv bT, iv 1, iv 0] [(.int 1)])
        refine Go.ifN 511 X43 hx (hb hby at_508) (XT.i0_eq_f (by decide)) rfl ?_
        refine Go.iconst 512 X43 hx (1 : Int32) (hb hby at_511) (by decide) rfl ?_
        refine Go.goto 516 X43 hx (hb hby at_512) (by decide) (by decide) ?_
        exact Go.retIW X43 hx Bd.notSynchronized hS33 (by rw [e43]; exact (Nat.le_refl T33.heap.size)) hZ33 hEL (by rw [hh, e43]; exact C35) Bd.returns rfl (by simp) (hb hby at_516) (by rw [e43]; exact ⟨rfl, N43⟩) (by decide) (by decide)
      · show Go _ _ _ _ T33 (mkF m 354 #[iv p0, iv p1, iv p2, iv d0, iv d1, iv d2, iv d3, iv d4, iv d5, rv ta, iv 1, rv st, s12, s13, un] [(.ref bF)])
        have hz0 := hP
        obtain rfl : t0 = 48 := (own_lit hb0 48 (by decide)).mp hz0
        refine Go.astore2 356 X33 hx (L' := #[iv p0, iv p1, iv p2, iv d0, iv d1, iv d2, iv d3, iv d4, iv d5, rv ta, iv 1, rv st, rv bF, s13, un]) (hb hby at_354) rfl (XS.store1 rfl hs12 rfl) rfl ?_
        refine Go.iload2 358 X33 hx (hb hby at_356) rfl rfl ?_
        refine Go.iconst 359 X33 hx (4 : Int32) (hb hby at_358) (by decide) rfl ?_
        refine Go.icmpY 398 X33 hx (hb hby at_359) (XT.ii_ne_t (by decide)) (by decide) (by decide) ?_
        refine Go.iload2 400 X33 hx (hb hby at_398) rfl rfl ?_
        refine Go.iconst 401 X33 hx (1 : Int32) (hb hby at_400) (by decide) rfl ?_
        refine Go.icmpN 404 X33 hx (hb hby at_401) (XT.ii_ne_f rfl) rfl ?_
        refine Go.aload2 406 X33 hx (hb hby at_404) rfl rfl rfl ?_
        refine Go.iconst 407 X33 hx (0 : Int32) (hb hby at_406) (by decide) rfl ?_
        have F45 : Arv Z T29.heap ta k1 .char (6 : Int32) [(.int 48), (.int t1), (.int t2), (.int t3), (.int t4), (.int t5)] (.int 0) := Fj22_0.keep K29 nin0
        have F46 : Arv Z T33.heap ta k1 .char (6 : Int32) [(.int 48), (.int t1), (.int t2), (.int t3), (.int t4), (.int t5)] (.int 0) := F45.keep K33 nin0
        obtain ⟨cl47, Ar47, -, S47, M47, H47, -⟩ := id F46
        have hin47 : ¬ ((0 : Int32) < 0 ∨ cl47.slots.size ≤ (0 : Int32).toNatClampNeg) := inb_of S47 ⟨by decide, by decide⟩
        refine Go.by (fun _ gk => X33.caload hx (j := (0 : Int32)) (v := (.int 48)) (by exact Ar47.1) (State.isArrayOf_alike hZ33.alike Ar47.2.1) Ar47.2.2 hin47 (Has.at H47 hin47 rfl) (g := (mkF m 407 #[iv p0, iv p1, iv p2, iv d0, iv d1, iv d2, iv d3, iv d4, iv d5, rv ta, iv 1, rv st, rv bF, s13, un] [(.int 0), (.ref ta)])) rfl rfl (hb hby at_407) _ gk) ?_
        show Go _ _ _ _ T33 (mkF m 408 #[iv p0, iv p1, iv p2, iv d0, iv d1, iv d2, iv d3, iv d4, iv d5, rv ta, iv 1, rv st, rv bF, s13, un] [(.int 48)])
        refine Go.bipush 410 X33 hx (49 : Int32) (hb hby at_408) (by decide) rfl ?_
        refine Go.icmpY 417 X33 hx (hb hby at_410) (XT.ii_ne_t (by decide)) (by decide) (by decide) ?_
        refine Go.iconst 418 X33 hx (0 : Int32) (hb hby at_417) (by decide) rfl ?_
        refine Go.istore2 420 X33 hx (L' := #[iv p0, iv p1, iv p2, iv d0, iv d1, iv d2, iv d3, iv d4, iv d5, rv ta, iv 1, rv st, rv bF, iv 0, un]) (hb hby at_418) (XS.store1 rfl hs13 rfl) rfl ?_
        refine Go.iload2 422 X33 hx (hb hby at_420) rfl rfl ?_
        refine Go.iconst 423 X33 hx (5 : Int32) (hb hby at_422) (by decide) rfl ?_
        refine Go.icmpY 471 X33 hx (hb hby at_423) (XT.ii_ne_t (by decide)) (by decide) (by decide) ?_
        refine Go.iload2 473 X33 hx (hb hby at_471) rfl rfl ?_
        refine Go.iconst 474 X33 hx (1 : Int32) (hb hby at_473) (by decide) rfl ?_
        refine Go.icmpN 477 X33 hx (hb hby at_474) (XT.ii_ne_f rfl) rfl ?_
        refine Go.aload2 479 X33 hx (hb hby at_477) rfl rfl rfl ?_
        refine Go.iconst 480 X33 hx (0 : Int32) (hb hby at_479) (by decide) rfl ?_
        obtain ⟨cl48, Ar48, -, S48, M48, H48, -⟩ := id F46
        have hin48 : ¬ ((0 : Int32) < 0 ∨ cl48.slots.size ≤ (0 : Int32).toNatClampNeg) := inb_of S48 ⟨by decide, by decide⟩
        refine Go.by (fun _ gk => X33.caload hx (j := (0 : Int32)) (v := (.int 48)) (by exact Ar48.1) (State.isArrayOf_alike hZ33.alike Ar48.2.1) Ar48.2.2 hin48 (Has.at H48 hin48 rfl) (g := (mkF m 480 #[iv p0, iv p1, iv p2, iv d0, iv d1, iv d2, iv d3, iv d4, iv d5, rv ta, iv 1, rv st, rv bF, iv 0, un] [(.int 0), (.ref ta)])) rfl rfl (hb hby at_480) _ gk) ?_
        show Go _ _ _ _ T33 (mkF m 481 #[iv p0, iv p1, iv p2, iv d0, iv d1, iv d2, iv d3, iv d4, iv d5, rv ta, iv 1, rv st, rv bF, iv 0, un] [(.int 48)])
        refine Go.bipush 483 X33 hx (48 : Int32) (hb hby at_481) (by decide) rfl ?_
        refine Go.icmpN 486 X33 hx (hb hby at_483) (XT.ii_ne_f rfl) rfl ?_
        refine Go.iconst 487 X33 hx (1 : Int32) (hb hby at_486) (by decide) rfl ?_
        refine Go.goto 491 X33 hx (hb hby at_487) (by decide) (by decide) ?_
        refine Go.istore2 493 X33 hx (L' := #[iv p0, iv p1, iv p2, iv d0, iv d1, iv d2, iv d3, iv d4, iv d5, rv ta, iv 1, rv st, rv bF, iv 0, iv 1]) (hb hby at_491) rfl rfl ?_
        refine Go.iload2 495 X33 hx (hb hby at_493) rfl rfl ?_
        refine Go.ifY 517 X33 hx (hb hby at_495) (XT.i0_eq_t rfl) (by decide) (by decide) ?_
        refine Go.iload2 519 X33 hx (hb hby at_517) rfl rfl ?_
        refine Go.ifN 522 X33 hx (hb hby at_519) (XT.i0_eq_f (by decide)) rfl ?_
        refine Go.aload2 524 X33 hx (hb hby at_522) rfl rfl rfl ?_
        refine Go.by (fun _ gk => XT.nullNo X33.here hx rfl (hb hby at_524) rfl rfl nofun gk) ?_
        show Go _ _ _ _ T33 (mkF m 527 #[iv p0, iv p1, iv p2, iv d0, iv d1, iv d2, iv d3, iv d4, iv d5, rv ta, iv 1, rv st, rv bF, iv 0, iv 1] [])
        refine Go.aload2 529 X33 hx (hb hby at_527) rfl rfl rfl ?_
        have F49 : Old Z n0 T33.heap := F31.keep K33 all0
        have F50 : Fld Z T33.heap bF "java/lang/Boolean" "value" "Z" (.int 0) := B5.ext F49.2
        have F51 : n0 ≤ T33.heap.size := Nat.le_trans F32 K33.1
        have F53 : Exa Z T33.heap bF "java/lang/Boolean" := B4.ext F49.2
        obtain ⟨cq52, kq52, q52a, q52b, q52c⟩ := isOf hZ33 rfl F53
        obtain ⟨_, _, ⟨T52, L52, k52, n52⟩, -, X52, ⟨Lc52, hQ52, l52, y52, z52⟩, st52⟩ := X33.virtualBack hx (y := (⟨"java/lang/Boolean", "booleanValue", "()Z"⟩ : MethodName)) (z := (⟨"java/lang/Boolean", "booleanValue", "()Z"⟩ : MethodName)) hown33 (mvT hZ33 (ow hw 57 rfl)) (mvT hZ33 (ow hw 58 rfl)) (notFace_of_selects (args := #[]) (mvT hZ33 (ow hw 60 rfl))) (mvT hZ33 (ow hw 60 rfl)) (mvT hZ33 (ow hw 59 rfl)) (by decide) (backOf (W := 0) (rmBval l Z a0 hw [] bF (0 : Int32) T33.heap n0 F51 F49 F50 rfl) hZ33 (ow hw 61 rfl) (ow hw 56 rfl) (by decide) (by decide)) q52a q52c (g := (mkF m 529 #[iv p0, iv p1, iv p2, iv d0, iv d1, iv d2, iv d3, iv d4, iv d5, rv ta, iv 1, rv st, rv bF, iv 0, iv 1] [(.ref bF)])) rfl (by rw [hml]; rfl) (Steps.refl _) (argsL := []) (rest := []) (lenOf pd_375 rfl) rfl (by show 2 * 0 + _ ≤ _; exact Nat.le_of_eq rfl) (hb hby at_529) (fun _ _ => ⟨rfl, rfl, (by decide : 12 + 0 ≤ _), (by decide : 72 + 0 ≤ _)⟩)
        dsimp only [Pt.U, Pt.locs, Pt.cells, Pt.slots] at X52 l52 y52 z52 st52 hQ52
        subst l52 y52 z52
        obtain ⟨rfl, N52q, e52⟩ := hQ52
        have N52 := Fr.app N33 N52q
        refine Go.to st52 ?_
        show Go _ _ _ _ T52 (mkF m 532 #[iv p0, iv p1, iv p2, iv d0, iv d1, iv d2, iv d3, iv d4, iv d5, rv ta, iv 1, rv st, rv bF, iv 0, iv 1] [(.int 0)])
        refine Go.ifN 535 X52 hx (hb hby at_532) (XT.i0_ne_f rfl) rfl ?_
        refine Go.iconst 536 X52 hx (1 : Int32) (hb hby at_535) (by decide) rfl ?_
        refine Go.goto 540 X52 hx (hb hby at_536) (by decide) (by decide) ?_
        exact Go.retIW X52 hx Bd.notSynchronized hS33 (by rw [e52]; exact (Nat.le_refl T33.heap.size)) hZ33 hEL (by rw [hh, e52]; exact C35) Bd.returns rfl (by simp) (hb hby at_540) (by rw [e52]; exact ⟨rfl, N52⟩) (by decide) (by decide)
      · show Go _ _ _ _ T33 (mkF m 354 #[iv p0, iv p1, iv p2, iv d0, iv d1, iv d2, iv d3, iv d4, iv d5, rv ta, iv 1, rv st, s12, s13, un] [.null])
        refine Go.astore2 356 X33 hx (L' := #[iv p0, iv p1, iv p2, iv d0, iv d1, iv d2, iv d3, iv d4, iv d5, rv ta, iv 1, rv st, .val .null, s13, un]) (hb hby at_354) rfl (XS.store1 rfl hs12 rfl) rfl ?_
        refine Go.iload2 358 X33 hx (hb hby at_356) rfl rfl ?_
        refine Go.iconst 359 X33 hx (4 : Int32) (hb hby at_358) (by decide) rfl ?_
        refine Go.icmpY 398 X33 hx (hb hby at_359) (XT.ii_ne_t (by decide)) (by decide) (by decide) ?_
        refine Go.iload2 400 X33 hx (hb hby at_398) rfl rfl ?_
        refine Go.iconst 401 X33 hx (1 : Int32) (hb hby at_400) (by decide) rfl ?_
        refine Go.icmpN 404 X33 hx (hb hby at_401) (XT.ii_ne_f rfl) rfl ?_
        refine Go.aload2 406 X33 hx (hb hby at_404) rfl rfl rfl ?_
        refine Go.iconst 407 X33 hx (0 : Int32) (hb hby at_406) (by decide) rfl ?_
        have F54 : Arv Z T29.heap ta k1 .char (6 : Int32) [(.int t0), (.int t1), (.int t2), (.int t3), (.int t4), (.int t5)] (.int 0) := Fj22_0.keep K29 nin0
        have F55 : Arv Z T33.heap ta k1 .char (6 : Int32) [(.int t0), (.int t1), (.int t2), (.int t3), (.int t4), (.int t5)] (.int 0) := F54.keep K33 nin0
        obtain ⟨cl56, Ar56, -, S56, M56, H56, -⟩ := id F55
        have hin56 : ¬ ((0 : Int32) < 0 ∨ cl56.slots.size ≤ (0 : Int32).toNatClampNeg) := inb_of S56 ⟨by decide, by decide⟩
        refine Go.by (fun _ gk => X33.caload hx (j := (0 : Int32)) (v := (.int t0)) (by exact Ar56.1) (State.isArrayOf_alike hZ33.alike Ar56.2.1) Ar56.2.2 hin56 (Has.at H56 hin56 rfl) (g := (mkF m 407 #[iv p0, iv p1, iv p2, iv d0, iv d1, iv d2, iv d3, iv d4, iv d5, rv ta, iv 1, rv st, .val .null, s13, un] [(.int 0), (.ref ta)])) rfl rfl (hb hby at_407) _ gk) ?_
        show Go _ _ _ _ T33 (mkF m 408 #[iv p0, iv p1, iv p2, iv d0, iv d1, iv d2, iv d3, iv d4, iv d5, rv ta, iv 1, rv st, .val .null, s13, un] [(.int t0)])
        refine Go.bipush 410 X33 hx (49 : Int32) (hb hby at_408) (by decide) rfl ?_
        by_cases hb57 : t0 = (49 : Int32)
        · refine Go.icmpN 413 X33 hx (hb hby at_410) (XT.ii_ne_f hb57) rfl ?_
          exact absurd ((own_lit hb0 49 (by decide)).mpr hb57) hP.1
        · refine Go.icmpY 417 X33 hx (hb hby at_410) (XT.ii_ne_t hb57) (by decide) (by decide) ?_
          refine Go.iconst 418 X33 hx (0 : Int32) (hb hby at_417) (by decide) rfl ?_
          refine Go.istore2 420 X33 hx (L' := #[iv p0, iv p1, iv p2, iv d0, iv d1, iv d2, iv d3, iv d4, iv d5, rv ta, iv 1, rv st, .val .null, iv 0, un]) (hb hby at_418) (XS.store1 rfl hs13 rfl) rfl ?_
          refine Go.iload2 422 X33 hx (hb hby at_420) rfl rfl ?_
          refine Go.iconst 423 X33 hx (5 : Int32) (hb hby at_422) (by decide) rfl ?_
          refine Go.icmpY 471 X33 hx (hb hby at_423) (XT.ii_ne_t (by decide)) (by decide) (by decide) ?_
          refine Go.iload2 473 X33 hx (hb hby at_471) rfl rfl ?_
          refine Go.iconst 474 X33 hx (1 : Int32) (hb hby at_473) (by decide) rfl ?_
          refine Go.icmpN 477 X33 hx (hb hby at_474) (XT.ii_ne_f rfl) rfl ?_
          refine Go.aload2 479 X33 hx (hb hby at_477) rfl rfl rfl ?_
          refine Go.iconst 480 X33 hx (0 : Int32) (hb hby at_479) (by decide) rfl ?_
          obtain ⟨cl58, Ar58, -, S58, M58, H58, -⟩ := id F55
          have hin58 : ¬ ((0 : Int32) < 0 ∨ cl58.slots.size ≤ (0 : Int32).toNatClampNeg) := inb_of S58 ⟨by decide, by decide⟩
          refine Go.by (fun _ gk => X33.caload hx (j := (0 : Int32)) (v := (.int t0)) (by exact Ar58.1) (State.isArrayOf_alike hZ33.alike Ar58.2.1) Ar58.2.2 hin58 (Has.at H58 hin58 rfl) (g := (mkF m 480 #[iv p0, iv p1, iv p2, iv d0, iv d1, iv d2, iv d3, iv d4, iv d5, rv ta, iv 1, rv st, .val .null, iv 0, un] [(.int 0), (.ref ta)])) rfl rfl (hb hby at_480) _ gk) ?_
          show Go _ _ _ _ T33 (mkF m 481 #[iv p0, iv p1, iv p2, iv d0, iv d1, iv d2, iv d3, iv d4, iv d5, rv ta, iv 1, rv st, .val .null, iv 0, un] [(.int t0)])
          refine Go.bipush 483 X33 hx (48 : Int32) (hb hby at_481) (by decide) rfl ?_
          by_cases hb59 : t0 = (48 : Int32)
          · refine Go.icmpN 486 X33 hx (hb hby at_483) (XT.ii_ne_f hb59) rfl ?_
            exact absurd ((own_lit hb0 48 (by decide)).mpr hb59) hP.2
          · refine Go.icmpY 490 X33 hx (hb hby at_483) (XT.ii_ne_t hb59) (by decide) (by decide) ?_
            refine Go.iconst 491 X33 hx (0 : Int32) (hb hby at_490) (by decide) rfl ?_
            refine Go.istore2 493 X33 hx (L' := #[iv p0, iv p1, iv p2, iv d0, iv d1, iv d2, iv d3, iv d4, iv d5, rv ta, iv 1, rv st, .val .null, iv 0, iv 0]) (hb hby at_491) rfl rfl ?_
            refine Go.iload2 495 X33 hx (hb hby at_493) rfl rfl ?_
            refine Go.ifY 517 X33 hx (hb hby at_495) (XT.i0_eq_t rfl) (by decide) (by decide) ?_
            refine Go.iload2 519 X33 hx (hb hby at_517) rfl rfl ?_
            refine Go.ifY 541 X33 hx (hb hby at_519) (XT.i0_eq_t rfl) (by decide) (by decide) ?_
            refine Go.aload2 543 X33 hx (hb hby at_541) rfl rfl rfl ?_
            refine Go.by (fun _ gk => XT.nonnullNo X33.here hx rfl (hb hby at_543) rfl rfl gk) ?_
            show Go _ _ _ _ T33 (mkF m 546 #[iv p0, iv p1, iv p2, iv d0, iv d1, iv d2, iv d3, iv d4, iv d5, rv ta, iv 1, rv st, .val .null, iv 0, iv 0] [])
            refine Go.iconst 547 X33 hx (1 : Int32) (hb hby at_546) (by decide) rfl ?_
            refine Go.goto 551 X33 hx (hb hby at_547) (by decide) (by decide) ?_
            exact Go.retIW X33 hx Bd.notSynchronized hS33 (by exact (Nat.le_refl T33.heap.size)) hZ33 hEL (by rw [hh]; exact C35) Bd.returns rfl (by simp) (hb hby at_551) ⟨rfl, N33⟩ (by decide) (by decide)
    · show Go _ _ _ _ T22 (mkF m 340 #[iv p0, iv p1, iv p2, iv d0, iv d1, iv d2, iv d3, iv d4, iv d5, rv ta, iv 2, s11, s12, s13, un] [])
      refine Go.aload2 342 X22 hx (hb hby at_340) rfl rfl rfl ?_
      refine Go.iload2 344 X22 hx (hb hby at_342) rfl rfl ?_
      obtain ⟨_, _, ⟨T60, L60, k60, n60⟩, -, X60, ⟨Lc60, hQ60, l60, y60, z60⟩, st60⟩ := Jvm.LawKit.callS X22 hx (y := (⟨"com/example/entries_to_nodes/entriestonodes/xml/XsBooleanReadPinLaw", "str", "([CI)Ljava/lang/String;"⟩ : MethodName)) hown (mvT hZ (ow hw 1 rfl)) (mvT hZ (ow hw 2 rfl)) (mvT hZ (ow hw 3 rfl)) (mvT hZ (ow hw 4 rfl)) (by decide) (backOf (W := 0) (rmStr2 l Z a0 hw [] ta k1 t0 t1 t2 t3 t4 t5 cs H22 n0 Zj22 Oj22 Fj22_0 hb0 hb1 S_cs n_cs) hZ (ow hw 4 rfl) (ow hw 3 rfl) (by decide) (by decide)) (g := (mkF m 344 #[iv p0, iv p1, iv p2, iv d0, iv d1, iv d2, iv d3, iv d4, iv d5, rv ta, iv 2, s11, s12, s13, un] [(.int 2), (.ref ta)])) rfl (by rw [hml]; rfl) (argsL := [(.ref ta), (.int 2)]) (rest := []) (lenOf pd_373 rfl) rfl (by show 2 * 0 + _ ≤ _; exact Nat.le_of_eq rfl) (hb hby at_344) (fun _ _ => ⟨rfl, e22, (by decide : 1 + 3 ≤ _), (by decide : 6 + 8 ≤ _)⟩)
      dsimp only [Pt.U, Pt.locs, Pt.cells, Pt.slots] at X60 l60 y60 z60 st60 hQ60
      subst l60 y60 z60
      obtain ⟨st, sb, kb, rfl, N60q, K60, Q60_0, Q60_1, Q60_2, Q60_3, Q60_4⟩ := hQ60
      have N60 := Fr.app N22 N60q
      have C61 : CHr Z own_EL s.vm h0 s.vm T60.heap := C22.trans (CHr.keep K60 sf0 C22.1)
      refine Go.by st60 ?_
      show Go _ _ _ _ T60 (mkF m 347 #[iv p0, iv p1, iv p2, iv d0, iv d1, iv d2, iv d3, iv d4, iv d5, rv ta, iv 2, s11, s12, s13, un] [(.ref st)])
      have ge_st : n0 ≤ st := Nat.le_trans Zj22 Q60_4
      have ne_ta_st : ta ≠ st := Nat.ne_of_lt (Nat.lt_of_lt_of_le Fj22_0.lt Q60_4)
      refine Go.astore2 349 X60 hx (L' := #[iv p0, iv p1, iv p2, iv d0, iv d1, iv d2, iv d3, iv d4, iv d5, rv ta, iv 2, rv st, s12, s13, un]) (hb hby at_347) rfl (XS.store1 rfl hs11 rfl) rfl ?_
      refine Go.aload2 351 X60 hx (hb hby at_349) rfl rfl rfl ?_
      have F62 : Old Z n0 T60.heap := Oj22.keep K60 all0
      have F63 : n0 ≤ T60.heap.size := Nat.le_trans Zj22 K60.1
      have F65 : s.heap.size ≤ T60.heap.size := Nat.le_trans hkj22 K60.1
      obtain ⟨_, _, ⟨T64, L64, k64, n64⟩, -, Xq64, hSq64, hgr64, ⟨Lc64, hQ64, l64, y64, z64, CH64⟩, st64⟩ := callSS X60 hx (y := (⟨"com/example/entries_to_nodes/entriestonodes/xml/XsBoolean", "read", "(Ljava/lang/String;)Ljava/lang/Boolean;"⟩ : MethodName)) hown (mvT hZ (ow hw 26 rfl)) (mvT hZ (ow hw 27 rfl)) (mvT hZ (ow hw 28 rfl)) (mvT hZ (ow hw 29 rfl)) (by decide) (backOfSH (W := 0) (rmRead2 l Z a0 hw [] st sb kb (own_b t0) (own_b t1) cs bT bF T60.heap n0 F63 F62 Q60_0 Q60_1 Q60_2 Q60_3 S_cs n_cs B0 B1 B2 B3 B4 B5) hZ (ow hw 29 rfl) (ow hw 28 rfl) (by decide) (by decide) hEL C61.1) (g := (mkF m 351 #[iv p0, iv p1, iv p2, iv d0, iv d1, iv d2, iv d3, iv d4, iv d5, rv ta, iv 2, rv st, s12, s13, un] [(.ref st)])) rfl (by rw [hml]; rfl) (argsL := [(.ref st)]) (rest := []) (lenOf pd_374 rfl) rfl (by show 2 * 0 + _ ≤ _; exact Nat.le_of_eq rfl) (hb hby at_351) (fun _ _ => ⟨rfl, rfl, (by decide : 4 + 8 ≤ _), (by decide : 14 + 60 ≤ _)⟩)
      dsimp only [Pt.U, Pt.locs, Pt.cells, Pt.slots] at Xq64 hSq64 hgr64 l64 y64 z64 st64 hQ64 CH64
      subst l64 y64 z64
      obtain ⟨rz, rfl, N64q, K64, Q64_0⟩ := hQ64
      have N64 := Fr.app N60 N64q
      obtain ⟨X64, hS64, hZ64, hown64⟩ := rebS hS0 (by exact F65) Xq64 hSq64 hgr64 hZ hown
      have C66 : CHr Z own_EL s.vm h0 T64.vm T64.heap := C61.trans CH64
      refine Go.to st64 ?_
      show Go _ _ _ _ T64 (mkF m 354 #[iv p0, iv p1, iv p2, iv d0, iv d1, iv d2, iv d3, iv d4, iv d5, rv ta, iv 2, rv st, s12, s13, un] [rz])
      obtain ⟨-, rfl⟩ := Q64_0
      show Go _ _ _ _ T64 (mkF m 354 #[iv p0, iv p1, iv p2, iv d0, iv d1, iv d2, iv d3, iv d4, iv d5, rv ta, iv 2, rv st, s12, s13, un] [.null])
      refine Go.astore2 356 X64 hx (L' := #[iv p0, iv p1, iv p2, iv d0, iv d1, iv d2, iv d3, iv d4, iv d5, rv ta, iv 2, rv st, .val .null, s13, un]) (hb hby at_354) rfl (XS.store1 rfl hs12 rfl) rfl ?_
      refine Go.iload2 358 X64 hx (hb hby at_356) rfl rfl ?_
      refine Go.iconst 359 X64 hx (4 : Int32) (hb hby at_358) (by decide) rfl ?_
      refine Go.icmpY 398 X64 hx (hb hby at_359) (XT.ii_ne_t (by decide)) (by decide) (by decide) ?_
      refine Go.iload2 400 X64 hx (hb hby at_398) rfl rfl ?_
      refine Go.iconst 401 X64 hx (1 : Int32) (hb hby at_400) (by decide) rfl ?_
      refine Go.icmpY 417 X64 hx (hb hby at_401) (XT.ii_ne_t (by decide)) (by decide) (by decide) ?_
      refine Go.iconst 418 X64 hx (0 : Int32) (hb hby at_417) (by decide) rfl ?_
      refine Go.istore2 420 X64 hx (L' := #[iv p0, iv p1, iv p2, iv d0, iv d1, iv d2, iv d3, iv d4, iv d5, rv ta, iv 2, rv st, .val .null, iv 0, un]) (hb hby at_418) (XS.store1 rfl hs13 rfl) rfl ?_
      refine Go.iload2 422 X64 hx (hb hby at_420) rfl rfl ?_
      refine Go.iconst 423 X64 hx (5 : Int32) (hb hby at_422) (by decide) rfl ?_
      refine Go.icmpY 471 X64 hx (hb hby at_423) (XT.ii_ne_t (by decide)) (by decide) (by decide) ?_
      refine Go.iload2 473 X64 hx (hb hby at_471) rfl rfl ?_
      refine Go.iconst 474 X64 hx (1 : Int32) (hb hby at_473) (by decide) rfl ?_
      refine Go.icmpY 490 X64 hx (hb hby at_474) (XT.ii_ne_t (by decide)) (by decide) (by decide) ?_
      refine Go.iconst 491 X64 hx (0 : Int32) (hb hby at_490) (by decide) rfl ?_
      refine Go.istore2 493 X64 hx (L' := #[iv p0, iv p1, iv p2, iv d0, iv d1, iv d2, iv d3, iv d4, iv d5, rv ta, iv 2, rv st, .val .null, iv 0, iv 0]) (hb hby at_491) rfl rfl ?_
      refine Go.iload2 495 X64 hx (hb hby at_493) rfl rfl ?_
      refine Go.ifY 517 X64 hx (hb hby at_495) (XT.i0_eq_t rfl) (by decide) (by decide) ?_
      refine Go.iload2 519 X64 hx (hb hby at_517) rfl rfl ?_
      refine Go.ifY 541 X64 hx (hb hby at_519) (XT.i0_eq_t rfl) (by decide) (by decide) ?_
      refine Go.aload2 543 X64 hx (hb hby at_541) rfl rfl rfl ?_
      refine Go.by (fun _ gk => XT.nonnullNo X64.here hx rfl (hb hby at_543) rfl rfl gk) ?_
      show Go _ _ _ _ T64 (mkF m 546 #[iv p0, iv p1, iv p2, iv d0, iv d1, iv d2, iv d3, iv d4, iv d5, rv ta, iv 2, rv st, .val .null, iv 0, iv 0] [])
      refine Go.iconst 547 X64 hx (1 : Int32) (hb hby at_546) (by decide) rfl ?_
      refine Go.goto 551 X64 hx (hb hby at_547) (by decide) (by decide) ?_
      exact Go.retIW X64 hx Bd.notSynchronized hS64 (by exact (Nat.le_refl T64.heap.size)) hZ64 hEL (by rw [hh]; exact C66) Bd.returns rfl (by simp) (hb hby at_551) ⟨rfl, N64⟩ (by decide) (by decide)
    · show Go _ _ _ _ T22 (mkF m 340 #[iv p0, iv p1, iv p2, iv d0, iv d1, iv d2, iv d3, iv d4, iv d5, rv ta, iv 3, s11, s12, s13, un] [])
      refine Go.aload2 342 X22 hx (hb hby at_340) rfl rfl rfl ?_
      refine Go.iload2 344 X22 hx (hb hby at_342) rfl rfl ?_
      obtain ⟨_, _, ⟨T67, L67, k67, n67⟩, -, X67, ⟨Lc67, hQ67, l67, y67, z67⟩, st67⟩ := Jvm.LawKit.callS X22 hx (y := (⟨"com/example/entries_to_nodes/entriestonodes/xml/XsBooleanReadPinLaw", "str", "([CI)Ljava/lang/String;"⟩ : MethodName)) hown (mvT hZ (ow hw 1 rfl)) (mvT hZ (ow hw 2 rfl)) (mvT hZ (ow hw 3 rfl)) (mvT hZ (ow hw 4 rfl)) (by decide) (backOf (W := 0) (rmStr3 l Z a0 hw [] ta k1 t0 t1 t2 t3 t4 t5 cs H22 n0 Zj22 Oj22 Fj22_0 hb0 hb1 hb2 S_cs n_cs) hZ (ow hw 4 rfl) (ow hw 3 rfl) (by decide) (by decide)) (g := (mkF m 344 #[iv p0, iv p1, iv p2, iv d0, iv d1, iv d2, iv d3, iv d4, iv d5, rv ta, iv 3, s11, s12, s13, un] [(.int 3), (.ref ta)])) rfl (by rw [hml]; rfl) (argsL := [(.ref ta), (.int 3)]) (rest := []) (lenOf pd_373 rfl) rfl (by show 2 * 0 + _ ≤ _; exact Nat.le_of_eq rfl) (hb hby at_344) (fun _ _ => ⟨rfl, e22, (by decide : 1 + 3 ≤ _), (by decide : 6 + 10 ≤ _)⟩)
      dsimp only [Pt.U, Pt.locs, Pt.cells, Pt.slots] at X67 l67 y67 z67 st67 hQ67
      subst l67 y67 z67
      obtain ⟨st, sb, kb, rfl, N67q, K67, Q67_0, Q67_1, Q67_2, Q67_3, Q67_4⟩ := hQ67
      have N67 := Fr.app N22 N67q
      have C68 : CHr Z own_EL s.vm h0 s.vm T67.heap := C22.trans (CHr.keep K67 sf0 C22.1)
      refine Go.by st67 ?_
      show Go _ _ _ _ T67 (mkF m 347 #[iv p0, iv p1, iv p2, iv d0, iv d1, iv d2, iv d3, iv d4, iv d5, rv ta, iv 3, s11, s12, s13, un] [(.ref st)])
      have ge_st : n0 ≤ st := Nat.le_trans Zj22 Q67_4
      have ne_ta_st : ta ≠ st := Nat.ne_of_lt (Nat.lt_of_lt_of_le Fj22_0.lt Q67_4)
      refine Go.astore2 349 X67 hx (L' := #[iv p0, iv p1, iv p2, iv d0, iv d1, iv d2, iv d3, iv d4, iv d5, rv ta, iv 3, rv st, s12, s13, un]) (hb hby at_347) rfl (XS.store1 rfl hs11 rfl) rfl ?_
      refine Go.aload2 351 X67 hx (hb hby at_349) rfl rfl rfl ?_
      have F69 : Old Z n0 T67.heap := Oj22.keep K67 all0
      have F70 : n0 ≤ T67.heap.size := Nat.le_trans Zj22 K67.1
      have F72 : s.heap.size ≤ T67.heap.size := Nat.le_trans hkj22 K67.1
      obtain ⟨_, _, ⟨T71, L71, k71, n71⟩, -, Xq71, hSq71, hgr71, ⟨Lc71, hQ71, l71, y71, z71, CH71⟩, st71⟩ := callSS X67 hx (y := (⟨"com/example/entries_to_nodes/entriestonodes/xml/XsBoolean", "read", "(Ljava/lang/String;)Ljava/lang/Boolean;"⟩ : MethodName)) hown (mvT hZ (ow hw 26 rfl)) (mvT hZ (ow hw 27 rfl)) (mvT hZ (ow hw 28 rfl)) (mvT hZ (ow hw 29 rfl)) (by decide) (backOfSH (W := 0) (rmRead3 l Z a0 hw [] st sb kb (own_b t0) (own_b t1) (own_b t2) cs bT bF T67.heap n0 F70 F69 Q67_0 Q67_1 Q67_2 Q67_3 S_cs n_cs B0 B1 B2 B3 B4 B5) hZ (ow hw 29 rfl) (ow hw 28 rfl) (by decide) (by decide) hEL C68.1) (g := (mkF m 351 #[iv p0, iv p1, iv p2, iv d0, iv d1, iv d2, iv d3, iv d4, iv d5, rv ta, iv 3, rv st, s12, s13, un] [(.ref st)])) rfl (by rw [hml]; rfl) (argsL := [(.ref st)]) (rest := []) (lenOf pd_374 rfl) rfl (by show 2 * 0 + _ ≤ _; exact Nat.le_of_eq rfl) (hb hby at_351) (fun _ _ => ⟨rfl, rfl, (by decide : 4 + 8 ≤ _), (by decide : 16 + 60 ≤ _)⟩)
      dsimp only [Pt.U, Pt.locs, Pt.cells, Pt.slots] at Xq71 hSq71 hgr71 l71 y71 z71 st71 hQ71 CH71
      subst l71 y71 z71
      obtain ⟨rz, rfl, N71q, K71, Q71_0⟩ := hQ71
      have N71 := Fr.app N67 N71q
      obtain ⟨X71, hS71, hZ71, hown71⟩ := rebS hS0 (by exact F72) Xq71 hSq71 hgr71 hZ hown
      have C73 : CHr Z own_EL s.vm h0 T71.vm T71.heap := C68.trans CH71
      refine Go.to st71 ?_
      show Go _ _ _ _ T71 (mkF m 354 #[iv p0, iv p1, iv p2, iv d0, iv d1, iv d2, iv d3, iv d4, iv d5, rv ta, iv 3, rv st, s12, s13, un] [rz])
      obtain ⟨-, rfl⟩ := Q71_0
      show Go _ _ _ _ T71 (mkF m 354 #[iv p0, iv p1, iv p2, iv d0, iv d1, iv d2, iv d3, iv d4, iv d5, rv ta, iv 3, rv st, s12, s13, un] [.null])
      refine Go.astore2 356 X71 hx (L' := #[iv p0, iv p1, iv p2, iv d0, iv d1, iv d2, iv d3, iv d4, iv d5, rv ta, iv 3, rv st, .val .null, s13, un]) (hb hby at_354) rfl (XS.store1 rfl hs12 rfl) rfl ?_
      refine Go.iload2 358 X71 hx (hb hby at_356) rfl rfl ?_
      refine Go.iconst 359 X71 hx (4 : Int32) (hb hby at_358) (by decide) rfl ?_
      refine Go.icmpY 398 X71 hx (hb hby at_359) (XT.ii_ne_t (by decide)) (by decide) (by decide) ?_
      refine Go.iload2 400 X71 hx (hb hby at_398) rfl rfl ?_
      refine Go.iconst 401 X71 hx (1 : Int32) (hb hby at_400) (by decide) rfl ?_
      refine Go.icmpY 417 X71 hx (hb hby at_401) (XT.ii_ne_t (by decide)) (by decide) (by decide) ?_
      refine Go.iconst 418 X71 hx (0 : Int32) (hb hby at_417) (by decide) rfl ?_
      refine Go.istore2 420 X71 hx (L' := #[iv p0, iv p1, iv p2, iv d0, iv d1, iv d2, iv d3, iv d4, iv d5, rv ta, iv 3, rv st, .val .null, iv 0, un]) (hb hby at_418) (XS.store1 rfl hs13 rfl) rfl ?_
      refine Go.iload2 422 X71 hx (hb hby at_420) rfl rfl ?_
      refine Go.iconst 423 X71 hx (5 : Int32) (hb hby at_422) (by decide) rfl ?_
      refine Go.icmpY 471 X71 hx (hb hby at_423) (XT.ii_ne_t (by decide)) (by decide) (by decide) ?_
      refine Go.iload2 473 X71 hx (hb hby at_471) rfl rfl ?_
      refine Go.iconst 474 X71 hx (1 : Int32) (hb hby at_473) (by decide) rfl ?_
      refine Go.icmpY 490 X71 hx (hb hby at_474) (XT.ii_ne_t (by decide)) (by decide) (by decide) ?_
      refine Go.iconst 491 X71 hx (0 : Int32) (hb hby at_490) (by decide) rfl ?_
      refine Go.istore2 493 X71 hx (L' := #[iv p0, iv p1, iv p2, iv d0, iv d1, iv d2, iv d3, iv d4, iv d5, rv ta, iv 3, rv st, .val .null, iv 0, iv 0]) (hb hby at_491) rfl rfl ?_
      refine Go.iload2 495 X71 hx (hb hby at_493) rfl rfl ?_
      refine Go.ifY 517 X71 hx (hb hby at_495) (XT.i0_eq_t rfl) (by decide) (by decide) ?_
      refine Go.iload2 519 X71 hx (hb hby at_517) rfl rfl ?_
      refine Go.ifY 541 X71 hx (hb hby at_519) (XT.i0_eq_t rfl) (by decide) (by decide) ?_
      refine Go.aload2 543 X71 hx (hb hby at_541) rfl rfl rfl ?_
      refine Go.by (fun _ gk => XT.nonnullNo X71.here hx rfl (hb hby at_543) rfl rfl gk) ?_
      show Go _ _ _ _ T71 (mkF m 546 #[iv p0, iv p1, iv p2, iv d0, iv d1, iv d2, iv d3, iv d4, iv d5, rv ta, iv 3, rv st, .val .null, iv 0, iv 0] [])
      refine Go.iconst 547 X71 hx (1 : Int32) (hb hby at_546) (by decide) rfl ?_
      refine Go.goto 551 X71 hx (hb hby at_547) (by decide) (by decide) ?_
      exact Go.retIW X71 hx Bd.notSynchronized hS71 (by exact (Nat.le_refl T71.heap.size)) hZ71 hEL (by rw [hh]; exact C73) Bd.returns rfl (by simp) (hb hby at_551) ⟨rfl, N71⟩ (by decide) (by decide)
    · show Go _ _ _ _ T22 (mkF m 340 #[iv p0, iv p1, iv p2, iv d0, iv d1, iv d2, iv d3, iv d4, iv d5, rv ta, iv 4, s11, s12, s13, un] [])
      refine Go.aload2 342 X22 hx (hb hby at_340) rfl rfl rfl ?_
      refine Go.iload2 344 X22 hx (hb hby at_342) rfl rfl ?_
      obtain ⟨_, _, ⟨T74, L74, k74, n74⟩, -, X74, ⟨Lc74, hQ74, l74, y74, z74⟩, st74⟩ := Jvm.LawKit.callS X22 hx (y := (⟨"com/example/entries_to_nodes/entriestonodes/xml/XsBooleanReadPinLaw", "str", "([CI)Ljava/lang/String;"⟩ : MethodName)) hown (mvT hZ (ow hw 1 rfl)) (mvT hZ (ow hw 2 rfl)) (mvT hZ (ow hw 3 rfl)) (mvT hZ (ow hw 4 rfl)) (by decide) (backOf (W := 0) (rmStr4 l Z a0 hw [] ta k1 t0 t1 t2 t3 t4 t5 cs H22 n0 Zj22 Oj22 Fj22_0 hb0 hb1 hb2 hb3 S_cs n_cs) hZ (ow hw 4 rfl) (ow hw 3 rfl) (by decide) (by decide)) (g := (mkF m 344 #[iv p0, iv p1, iv p2, iv d0, iv d1, iv d2, iv d3, iv d4, iv d5, rv ta, iv 4, s11, s12, s13, un] [(.int 4), (.ref ta)])) rfl (by rw [hml]; rfl) (argsL := [(.ref ta), (.int 4)]) (rest := []) (lenOf pd_373 rfl) rfl (by show 2 * 0 + _ ≤ _; exact Nat.le_of_eq rfl) (hb hby at_344) (fun _ _ => ⟨rfl, e22, (by decide : 1 + 3 ≤ _), (by decide : 6 + 12 ≤ _)⟩)
      dsimp only [Pt.U, Pt.locs, Pt.cells, Pt.slots] at X74 l74 y74 z74 st74 hQ74
      subst l74 y74 z74
      obtain ⟨st, sb, kb, rfl, N74q, K74, Q74_0, Q74_1, Q74_2, Q74_3, Q74_4⟩ := hQ74
      have N74 := Fr.app N22 N74q
      have C75 : CHr Z own_EL s.vm h0 s.vm T74.heap := C22.trans (CHr.keep K74 sf0 C22.1)
      refine Go.by st74 ?_
      show Go _ _ _ _ T74 (mkF m 347 #[iv p0, iv p1, iv p2, iv d0, iv d1, iv d2, iv d3, iv d4, iv d5, rv ta, iv 4, s11, s12, s13, un] [(.ref st)])
      have ge_st : n0 ≤ st := Nat.le_trans Zj22 Q74_4
      have ne_ta_st : ta ≠ st := Nat.ne_of_lt (Nat.lt_of_lt_of_le Fj22_0.lt Q74_4)
      refine Go.astore2 349 X74 hx (L' := #[iv p0, iv p1, iv p2, iv d0, iv d1, iv d2, iv d3, iv d4, iv d5, rv ta, iv 4, rv st, s12, s13, un]) (hb hby at_347) rfl (XS.store1 rfl hs11 rfl) rfl ?_
      refine Go.aload2 351 X74 hx (hb hby at_349) rfl rfl rfl ?_
      have F76 : Old Z n0 T74.heap := Oj22.keep K74 all0
      have F77 : n0 ≤ T74.heap.size := Nat.le_trans Zj22 K74.1
      have F79 : s.heap.size ≤ T74.heap.size := Nat.le_trans hkj22 K74.1
      obtain ⟨_, _, ⟨T78, L78, k78, n78⟩, -, Xq78, hSq78, hgr78, ⟨Lc78, hQ78, l78, y78, z78, CH78⟩, st78⟩ := callSS X74 hx (y := (⟨"com/example/entries_to_nodes/entriestonodes/xml/XsBoolean", "read", "(Ljava/lang/String;)Ljava/lang/Boolean;"⟩ : MethodName)) hown (mvT hZ (ow hw 26 rfl)) (mvT hZ (ow hw 27 rfl)) (mvT hZ (ow hw 28 rfl)) (mvT hZ (ow hw 29 rfl)) (by decide) (backOfSH (W := 0) (rmRead4 l Z a0 hw [] st sb kb (own_b t0) (own_b t1) (own_b t2) (own_b t3) cs bT bF T74.heap n0 F77 F76 Q74_0 Q74_1 Q74_2 Q74_3 S_cs n_cs B0 B1 B2 B3 B4 B5) hZ (ow hw 29 rfl) (ow hw 28 rfl) (by decide) (by decide) hEL C75.1) (g := (mkF m 351 #[iv p0, iv p1, iv p2, iv d0, iv d1, iv d2, iv d3, iv d4, iv d5, rv ta, iv 4, rv st, s12, s13, un] [(.ref st)])) rfl (by rw [hml]; rfl) (argsL := [(.ref st)]) (rest := []) (lenOf pd_374 rfl) rfl (by show 2 * 0 + _ ≤ _; exact Nat.le_of_eq rfl) (hb hby at_351) (fun _ _ => ⟨rfl, rfl, (by decide : 4 + 8 ≤ _), (by decide : 18 + 60 ≤ _)⟩)
      dsimp only [Pt.U, Pt.locs, Pt.cells, Pt.slots] at Xq78 hSq78 hgr78 l78 y78 z78 st78 hQ78 CH78
      subst l78 y78 z78
      obtain ⟨rz, rfl, N78q, K78, Q78_0⟩ := hQ78
      have N78 := Fr.app N74 N78q
      obtain ⟨X78, hS78, hZ78, hown78⟩ := rebS hS0 (by exact F79) Xq78 hSq78 hgr78 hZ hown
      have C80 : CHr Z own_EL s.vm h0 T78.vm T78.heap := C75.trans CH78
      refine Go.to st78 ?_
      show Go _ _ _ _ T78 (mkF m 354 #[iv p0, iv p1, iv p2, iv d0, iv d1, iv d2, iv d3, iv d4, iv d5, rv ta, iv 4, rv st, s12, s13, un] [rz])
      rcases Q78_0 with ⟨hP, rfl⟩ | ⟨hP, rfl⟩
      · show Go _ _ _ _ T78 (mkF m 354 #[iv p0, iv p1, iv p2, iv d0, iv d1, iv d2, iv d3, iv d4, iv d5, rv ta, iv 4, rv st, s12, s13, un] [(.ref bT)])
        obtain ⟨hz0, hz1, hz2, hz3⟩ := hP
        obtain rfl : t0 = 116 := (own_lit hb0 116 (by decide)).mp hz0
        obtain rfl : t1 = 114 := (own_lit hb1 114 (by decide)).mp hz1
        obtain rfl : t2 = 117 := (own_lit hb2 117 (by decide)).mp hz2
        obtain rfl : t3 = 101 := (own_lit hb3 101 (by decide)).mp hz3
        refine Go.astore2 356 X78 hx (L' := #[iv p0, iv p1, iv p2, iv d0, iv d1, iv d2, iv d3, iv d4, iv d5, rv ta, iv 4, rv st, rv bT, s13, un]) (hb hby at_354) rfl (XS.store1 rfl hs12 rfl) rfl ?_
        refine Go.iload2 358 X78 hx (hb hby at_356) rfl rfl ?_
        refine Go.iconst 359 X78 hx (4 : Int32) (hb hby at_358) (by decide) rfl ?_
        refine Go.icmpN 362 X78 hx (hb hby at_359) (XT.ii_ne_f rfl) rfl ?_
        refine Go.aload2 364 X78 hx (hb hby at_362) rfl rfl rfl ?_
        refine Go.iconst 365 X78 hx (0 : Int32) (hb hby at_364) (by decide) rfl ?_
        have F81 : Arv Z T74.heap ta k1 .char (6 : Int32) [(.int 116), (.int 114), (.int 117), (.int 101), (.int t4), (.int t5)] (.int 0) := Fj22_0.keep K74 nin0
        have F82 : Arv Z T78.heap ta k1 .char (6 : Int32) [(.int 116), (.int 114), (.int 117), (.int 101), (.int t4), (.int t5)] (.int 0) := F81.keep K78 nin0
        obtain ⟨cl83, Ar83, -, S83, M83, H83, -⟩ := id F82
        have hin83 : ¬ ((0 : Int32) < 0 ∨ cl83.slots.size ≤ (0 : Int32).toNatClampNeg) := inb_of S83 ⟨by decide, by decide⟩
        refine Go.by (fun _ gk => X78.caload hx (j := (0 : Int32)) (v := (.int 116)) (by exact Ar83.1) (State.isArrayOf_alike hZ78.alike Ar83.2.1) Ar83.2.2 hin83 (Has.at H83 hin83 rfl) (g := (mkF m 365 #[iv p0, iv p1, iv p2, iv d0, iv d1, iv d2, iv d3, iv d4, iv d5, rv ta, iv 4, rv st, rv bT, s13, un] [(.int 0), (.ref ta)])) rfl rfl (hb hby at_365) _ gk) ?_
        show Go _ _ _ _ T78 (mkF m 366 #[iv p0, iv p1, iv p2, iv d0, iv d1, iv d2, iv d3, iv d4, iv d5, rv ta, iv 4, rv st, rv bT, s13, un] [(.int 116)])
        refine Go.bipush 368 X78 hx (116 : Int32) (hb hby at_366) (by decide) rfl ?_
        refine Go.icmpN 371 X78 hx (hb hby at_368) (XT.ii_ne_f rfl) rfl ?_
        refine Go.aload2 373 X78 hx (hb hby at_371) rfl rfl rfl ?_
        refine Go.iconst 374 X78 hx (1 : Int32) (hb hby at_373) (by decide) rfl ?_
        obtain ⟨cl84, Ar84, -, S84, M84, H84, -⟩ := id F82
        have hin84 : ¬ ((1 : Int32) < 0 ∨ cl84.slots.size ≤ (1 : Int32).toNatClampNeg) := inb_of S84 ⟨by decide, by decide⟩
        refine Go.by (fun _ gk => X78.caload hx (j := (1 : Int32)) (v := (.int 114)) (by exact Ar84.1) (State.isArrayOf_alike hZ78.alike Ar84.2.1) Ar84.2.2 hin84 (Has.at H84 hin84 rfl) (g := (mkF m 374 #[iv p0, iv p1, iv p2, iv d0, iv d1, iv d2, iv d3, iv d4, iv d5, rv ta, iv 4, rv st, rv bT, s13, un] [(.int 1), (.ref ta)])) rfl rfl (hb hby at_374) _ gk) ?_
        show Go _ _ _ _ T78 (mkF m 375 #[iv p0, iv p1, iv p2, iv d0, iv d1, iv d2, iv d3, iv d4, iv d5, rv ta, iv 4, rv st, rv bT, s13, un] [(.int 114)])
        refine Go.bipush 377 X78 hx (114 : Int32) (hb hby at_375) (by decide) rfl ?_
        refine Go.icmpN 380 X78 hx (hb hby at_377) (XT.ii_ne_f rfl) rfl ?_
        refine Go.aload2 382 X78 hx (hb hby at_380) rfl rfl rfl ?_
        refine Go.iconst 383 X78 hx (2 : Int32) (hb hby at_382) (by decide) rfl ?_
        obtain ⟨cl85, Ar85, -, S85, M85, H85, -⟩ := id F82
        have hin85 : ¬ ((2 : Int32) < 0 ∨ cl85.slots.size ≤ (2 : Int32).toNatClampNeg) := inb_of S85 ⟨by decide, by decide⟩
        refine Go.by (fun _ gk => X78.caload hx (j := (2 : Int32)) (v := (.int 117)) (by exact Ar85.1) (State.isArrayOf_alike hZ78.alike Ar85.2.1) Ar85.2.2 hin85 (Has.at H85 hin85 rfl) (g := (mkF m 383 #[iv p0, iv p1, iv p2, iv d0, iv d1, iv d2, iv d3, iv d4, iv d5, rv ta, iv 4, rv st, rv bT, s13, un] [(.int 2), (.ref ta)])) rfl rfl (hb hby at_383) _ gk) ?_
        show Go _ _ _ _ T78 (mkF m 384 #[iv p0, iv p1, iv p2, iv d0, iv d1, iv d2, iv d3, iv d4, iv d5, rv ta, iv 4, rv st, rv bT, s13, un] [(.int 117)])
        refine Go.bipush 386 X78 hx (117 : Int32) (hb hby at_384) (by decide) rfl ?_
        refine Go.icmpN 389 X78 hx (hb hby at_386) (XT.ii_ne_f rfl) rfl ?_
        refine Go.aload2 391 X78 hx (hb hby at_389) rfl rfl rfl ?_
        refine Go.iconst 392 X78 hx (3 : Int32) (hb hby at_391) (by decide) rfl ?_
        obtain ⟨cl86, Ar86, -, S86, M86, H86, -⟩ := id F82
        have hin86 : ¬ ((3 : Int32) < 0 ∨ cl86.slots.size ≤ (3 : Int32).toNatClampNeg) := inb_of S86 ⟨by decide, by decide⟩
        refine Go.by (fun _ gk => X78.caload hx (j := (3 : Int32)) (v := (.int 101)) (by exact Ar86.1) (State.isArrayOf_alike hZ78.alike Ar86.2.1) Ar86.2.2 hin86 (Has.at H86 hin86 rfl) (g := (mkF m 392 #[iv p0, iv p1, iv p2, iv d0, iv d1, iv d2, iv d3, iv d4, iv d5, rv ta, iv 4, rv st, rv bT, s13, un] [(.int 3), (.ref ta)])) rfl rfl (hb hby at_392) _ gk) ?_
        show Go _ _ _ _ T78 (mkF m 393 #[iv p0, iv p1, iv p2, iv d0, iv d1, iv d2, iv d3, iv d4, iv d5, rv ta, iv 4, rv st, rv bT, s13, un] [(.int 101)])
        refine Go.bipush 395 X78 hx (101 : Int32) (hb hby at_393) (by decide) rfl ?_
        refine Go.icmpY 413 X78 hx (hb hby at_395) (XT.ii_eq_t rfl) (by decide) (by decide) ?_
        refine Go.iconst 414 X78 hx (1 : Int32) (hb hby at_413) (by decide) rfl ?_
        refine Go.goto 418 X78 hx (hb hby at_414) (by decide) (by decide) ?_
        refine Go.istore2 420 X78 hx (L' := #[iv p0, iv p1, iv p2, iv d0, iv d1, iv d2, iv d3, iv d4, iv d5, rv ta, iv 4, rv st, rv bT, iv 1, un]) (hb hby at_418) (XS.store1 rfl hs13 rfl) rfl ?_
        refine Go.iload2 422 X78 hx (hb hby at_420) rfl rfl ?_
        refine Go.iconst 423 X78 hx (5 : Int32) (hb hby at_422) (by decide) rfl ?_
        refine Go.icmpY 471 X78 hx (hb hby at_423) (XT.ii_ne_t (by decide)) (by decide) (by decide) ?_
        refine Go.iload2 473 X78 hx (hb hby at_471) rfl rfl ?_
        refine Go.iconst 474 X78 hx (1 : Int32) (hb hby at_473) (by decide) rfl ?_
        refine Go.icmpY 490 X78 hx (hb hby at_474) (XT.ii_ne_t (by decide)) (by decide) (by decide) ?_
        refine Go.iconst 491 X78 hx (0 : Int32) (hb hby at_490) (by decide) rfl ?_
        refine Go.istore2 493 X78 hx (L' := #[iv p0, iv p1, iv p2, iv d0, iv d1, iv d2, iv d3, iv d4, iv d5, rv ta, iv 4, rv st, rv bT, iv 1, iv 0]) (hb hby at_491) rfl rfl ?_
        refine Go.iload2 495 X78 hx (hb hby at_493) rfl rfl ?_
        refine Go.ifN 498 X78 hx (hb hby at_495) (XT.i0_eq_f (by decide)) rfl ?_
        refine Go.aload2 500 X78 hx (hb hby at_498) rfl rfl rfl ?_
        refine Go.by (fun _ gk => XT.nullNo X78.here hx rfl (hb hby at_500) rfl rfl nofun gk) ?_
        show Go _ _ _ _ T78 (mkF m 503 #[iv p0, iv p1, iv p2, iv d0, iv d1, iv d2, iv d3, iv d4, iv d5, rv ta, iv 4, rv st, rv bT, iv 1, iv 0] [])
        refine Go.aload2 505 X78 hx (hb hby at_503) rfl rfl rfl ?_
        have F87 : Old Z n0 T78.heap := F76.keep K78 all0
        have F88 : Fld Z T78.heap bT "java/lang/Boolean" "value" "Z" (.int 1) := B2.ext F87.2
        have F89 : n0 ≤ T78.heap.size := Nat.le_trans F77 K78.1
        have F91 : Exa Z T78.heap bT "java/lang/Boolean" := B1.ext F87.2
        obtain ⟨cq90, kq90, q90a, q90b, q90c⟩ := isOf hZ78 rfl F91
        obtain ⟨_, _, ⟨T90, L90, k90, n90⟩, -, X90, ⟨Lc90, hQ90, l90, y90, z90⟩, st90⟩ := X78.virtualBack hx (y := (⟨"java/lang/Boolean", "booleanValue", "()Z"⟩ : MethodName)) (z := (⟨"java/lang/Boolean", "booleanValue", "()Z"⟩ : MethodName)) hown78 (mvT hZ78 (ow hw 57 rfl)) (mvT hZ78 (ow hw 58 rfl)) (notFace_of_selects (args := #[]) (mvT hZ78 (ow hw 60 rfl))) (mvT hZ78 (ow hw 60 rfl)) (mvT hZ78 (ow hw 59 rfl)) (by decide) (backOf (W := 0) (rmBval l Z a0 hw [] bT (1 : Int32) T78.heap n0 F89 F87 F88 rfl) hZ78 (ow hw 61 rfl) (ow hw 56 rfl) (by decide) (by decide)) q90a q90c (g := (mkF m 505 #[iv p0, iv p1, iv p2, iv d0, iv d1, iv d2, iv d3, iv d4, iv d5, rv ta, iv 4, rv st, rv bT, iv 1, iv 0] [(.ref bT)])) rfl (by rw [hml]; rfl) (Steps.refl _) (argsL := []) (rest := []) (lenOf pd_375 rfl) rfl (by show 2 * 0 + _ ≤ _; exact Nat.le_of_eq rfl) (hb hby at_505) (fun _ _ => ⟨rfl, rfl, (by decide : 12 + 0 ≤ _), (by decide : 78 + 0 ≤ _)⟩)
        dsimp only [Pt.U, Pt.locs, Pt.cells, Pt.slots] at X90 l90 y90 z90 st90 hQ90
        subst l90 y90 z90
        obtain ⟨rfl, N90q, e90⟩ := hQ90
        have N90 := Fr.app N78 N90q
        refine Go.to st90 ?_
        show Go _ _ _ _ T90 (mkF m 508 #[iv p0, iv p1, iv p2, iv d0, iv d1, iv d2, iv d3, iv d4, iv d5, rv ta, iv 4, rv st, rv bT, iv 1, iv 0] [(.int 1)])
        refine Go.ifN 511 X90 hx (hb hby at_508) (XT.i0_eq_f (by decide)) rfl ?_
        refine Go.iconst 512 X90 hx (1 : Int32) (hb hby at_511) (by decide) rfl ?_
        refine Go.goto 516 X90 hx (hb hby at_512) (by decide) (by decide) ?_
        exact Go.retIW X90 hx Bd.notSynchronized hS78 (by rw [e90]; exact (Nat.le_refl T78.heap.size)) hZ78 hEL (by rw [hh, e90]; exact C80) Bd.returns rfl (by simp) (hb hby at_516) (by rw [e90]; exact ⟨rfl, N90⟩) (by decide) (by decide)
      · show Go _ _ _ _ T78 (mkF m 354 #[iv p0, iv p1, iv p2, iv d0, iv d1, iv d2, iv d3, iv d4, iv d5, rv ta, iv 4, rv st, s12, s13, un] [.null])
        refine Go.astore2 356 X78 hx (L' := #[iv p0, iv p1, iv p2, iv d0, iv d1, iv d2, iv d3, iv d4, iv d5, rv ta, iv 4, rv st, .val .null, s13, un]) (hb hby at_354) rfl (XS.store1 rfl hs12 rfl) rfl ?_
        refine Go.iload2 358 X78 hx (hb hby at_356) rfl rfl ?_
        refine Go.iconst 359 X78 hx (4 : Int32) (hb hby at_358) (by decide) rfl ?_
        refine Go.icmpN 362 X78 hx (hb hby at_359) (XT.ii_ne_f rfl) rfl ?_
        refine Go.aload2 364 X78 hx (hb hby at_362) rfl rfl rfl ?_
        refine Go.iconst 365 X78 hx (0 : Int32) (hb hby at_364) (by decide) rfl ?_
        have F92 : Arv Z T74.heap ta k1 .char (6 : Int32) [(.int t0), (.int t1), (.int t2), (.int t3), (.int t4), (.int t5)] (.int 0) := Fj22_0.keep K74 nin0
        have F93 : Arv Z T78.heap ta k1 .char (6 : Int32) [(.int t0), (.int t1), (.int t2), (.int t3), (.int t4), (.int t5)] (.int 0) := F92.keep K78 nin0
        obtain ⟨cl94, Ar94, -, S94, M94, H94, -⟩ := id F93
        have hin94 : ¬ ((0 : Int32) < 0 ∨ cl94.slots.size ≤ (0 : Int32).toNatClampNeg) := inb_of S94 ⟨by decide, by decide⟩
        refine Go.by (fun _ gk => X78.caload hx (j := (0 : Int32)) (v := (.int t0)) (by exact Ar94.1) (State.isArrayOf_alike hZ78.alike Ar94.2.1) Ar94.2.2 hin94 (Has.at H94 hin94 rfl) (g := (mkF m 365 #[iv p0, iv p1, iv p2, iv d0, iv d1, iv d2, iv d3, iv d4, iv d5, rv ta, iv 4, rv st, .val .null, s13, un] [(.int 0), (.ref ta)])) rfl rfl (hb hby at_365) _ gk) ?_
        show Go _ _ _ _ T78 (mkF m 366 #[iv p0, iv p1, iv p2, iv d0, iv d1, iv d2, iv d3, iv d4, iv d5, rv ta, iv 4, rv st, .val .null, s13, un] [(.int t0)])
        refine Go.bipush 368 X78 hx (116 : Int32) (hb hby at_366) (by decide) rfl ?_
        by_cases hb95 : t0 = (116 : Int32)
        · refine Go.icmpN 371 X78 hx (hb hby at_368) (XT.ii_ne_f hb95) rfl ?_
          refine Go.aload2 373 X78 hx (hb hby at_371) rfl rfl rfl ?_
          refine Go.iconst 374 X78 hx (1 : Int32) (hb hby at_373) (by decide) rfl ?_
          obtain ⟨cl96, Ar96, -, S96, M96, H96, -⟩ := id F93
          have hin96 : ¬ ((1 : Int32) < 0 ∨ cl96.slots.size ≤ (1 : Int32).toNatClampNeg) := inb_of S96 ⟨by decide, by decide⟩
          refine Go.by (fun _ gk => X78.caload hx (j := (1 : Int32)) (v := (.int t1)) (by exact Ar96.1) (State.isArrayOf_alike hZ78.alike Ar96.2.1) Ar96.2.2 hin96 (Has.at H96 hin96 rfl) (g := (mkF m 374 #[iv p0, iv p1, iv p2, iv d0, iv d1, iv d2, iv d3, iv d4, iv d5, rv ta, iv 4, rv st, .val .null, s13, un] [(.int 1), (.ref ta)])) rfl rfl (hb hby at_374) _ gk) ?_
          show Go _ _ _ _ T78 (mkF m 375 #[iv p0, iv p1, iv p2, iv d0, iv d1, iv d2, iv d3, iv d4, iv d5, rv ta, iv 4, rv st, .val .null, s13, un] [(.int t1)])
          refine Go.bipush 377 X78 hx (114 : Int32) (hb hby at_375) (by decide) rfl ?_
          by_cases hb97 : t1 = (114 : Int32)
          · refine Go.icmpN 380 X78 hx (hb hby at_377) (XT.ii_ne_f hb97) rfl ?_
            refine Go.aload2 382 X78 hx (hb hby at_380) rfl rfl rfl ?_
            refine Go.iconst 383 X78 hx (2 : Int32) (hb hby at_382) (by decide) rfl ?_
            obtain ⟨cl98, Ar98, -, S98, M98, H98, -⟩ := id F93
            have hin98 : ¬ ((2 : Int32) < 0 ∨ cl98.slots.size ≤ (2 : Int32).toNatClampNeg) := inb_of S98 ⟨by decide, by decide⟩
            refine Go.by (fun _ gk => X78.caload hx (j := (2 : Int32)) (v := (.int t2)) (by exact Ar98.1) (State.isArrayOf_alike hZ78.alike Ar98.2.1) Ar98.2.2 hin98 (Has.at H98 hin98 rfl) (g := (mkF m 383 #[iv p0, iv p1, iv p2, iv d0, iv d1, iv d2, iv d3, iv d4, iv d5, rv ta, iv 4, rv st, .val .null, s13, un] [(.int 2), (.ref ta)])) rfl rfl (hb hby at_383) _ gk) ?_
            show Go _ _ _ _ T78 (mkF m 384 #[iv p0, iv p1, iv p2, iv d0, iv d1, iv d2, iv d3, iv d4, iv d5, rv ta, iv 4, rv st, .val .null, s13, un] [(.int t2)])
            refine Go.bipush 386 X78 hx (117 : Int32) (hb hby at_384) (by decide) rfl ?_
            by_cases hb99 : t2 = (117 : Int32)
            · refine Go.icmpN 389 X78 hx (hb hby at_386) (XT.ii_ne_f hb99) rfl ?_
              refine Go.aload2 391 X78 hx (hb hby at_389) rfl rfl rfl ?_
              refine Go.iconst 392 X78 hx (3 : Int32) (hb hby at_391) (by decide) rfl ?_
              obtain ⟨cl100, Ar100, -, S100, M100, H100, -⟩ := id F93
              have hin100 : ¬ ((3 : Int32) < 0 ∨ cl100.slots.size ≤ (3 : Int32).toNatClampNeg) := inb_of S100 ⟨by decide, by decide⟩
              refine Go.by (fun _ gk => X78.caload hx (j := (3 : Int32)) (v := (.int t3)) (by exact Ar100.1) (State.isArrayOf_alike hZ78.alike Ar100.2.1) Ar100.2.2 hin100 (Has.at H100 hin100 rfl) (g := (mkF m 392 #[iv p0, iv p1, iv p2, iv d0, iv d1, iv d2, iv d3, iv d4, iv d5, rv ta, iv 4, rv st, .val .null, s13, un] [(.int 3), (.ref ta)])) rfl rfl (hb hby at_392) _ gk) ?_
              show Go _ _ _ _ T78 (mkF m 393 #[iv p0, iv p1, iv p2, iv d0, iv d1, iv d2, iv d3, iv d4, iv d5, rv ta, iv 4, rv st, .val .null, s13, un] [(.int t3)])
              refine Go.bipush 395 X78 hx (101 : Int32) (hb hby at_393) (by decide) rfl ?_
              by_cases hb101 : t3 = (101 : Int32)
              · refine Go.icmpY 413 X78 hx (hb hby at_395) (XT.ii_eq_t hb101) (by decide) (by decide) ?_
                exact absurd ⟨(own_lit hb0 116 (by decide)).mpr hb95, (own_lit hb1 114 (by decide)).mpr hb97, (own_lit hb2 117 (by decide)).mpr hb99, (own_lit hb3 101 (by decide)).mpr hb101⟩ hP
              · refine Go.icmpN 398 X78 hx (hb hby at_395) (XT.ii_eq_f hb101) rfl ?_
                refine Go.iload2 400 X78 hx (hb hby at_398) rfl rfl ?_
                refine Go.iconst 401 X78 hx (1 : Int32) (hb hby at_400) (by decide) rfl ?_
                refine Go.icmpY 417 X78 hx (hb hby at_401) (XT.ii_ne_t (by decide)) (by decide) (by decide) ?_
                refine Go.iconst 418 X78 hx (0 : Int32) (hb hby at_417) (by decide) rfl ?_
                refine Go.istore2 420 X78 hx (L' := #[iv p0, iv p1, iv p2, iv d0, iv d1, iv d2, iv d3, iv d4, iv d5, rv ta, iv 4, rv st, .val .null, iv 0, un]) (hb hby at_418) (XS.store1 rfl hs13 rfl) rfl ?_
                refine Go.iload2 422 X78 hx (hb hby at_420) rfl rfl ?_
                refine Go.iconst 423 X78 hx (5 : Int32) (hb hby at_422) (by decide) rfl ?_
                refine Go.icmpY 471 X78 hx (hb hby at_423) (XT.ii_ne_t (by decide)) (by decide) (by decide) ?_
                refine Go.iload2 473 X78 hx (hb hby at_471) rfl rfl ?_
                refine Go.iconst 474 X78 hx (1 : Int32) (hb hby at_473) (by decide) rfl ?_
                refine Go.icmpY 490 X78 hx (hb hby at_474) (XT.ii_ne_t (by decide)) (by decide) (by decide) ?_
                refine Go.iconst 491 X78 hx (0 : Int32) (hb hby at_490) (by decide) rfl ?_
                refine Go.istore2 493 X78 hx (L' := #[iv p0, iv p1, iv p2, iv d0, iv d1, iv d2, iv d3, iv d4, iv d5, rv ta, iv 4, rv st, .val .null, iv 0, iv 0]) (hb hby at_491) rfl rfl ?_
                refine Go.iload2 495 X78 hx (hb hby at_493) rfl rfl ?_
                refine Go.ifY 517 X78 hx (hb hby at_495) (XT.i0_eq_t rfl) (by decide) (by decide) ?_
                refine Go.iload2 519 X78 hx (hb hby at_517) rfl rfl ?_
                refine Go.ifY 541 X78 hx (hb hby at_519) (XT.i0_eq_t rfl) (by decide) (by decide) ?_
                refine Go.aload2 543 X78 hx (hb hby at_541) rfl rfl rfl ?_
                refine Go.by (fun _ gk => XT.nonnullNo X78.here hx rfl (hb hby at_543) rfl rfl gk) ?_
                show Go _ _ _ _ T78 (mkF m 546 #[iv p0, iv p1, iv p2, iv d0, iv d1, iv d2, iv d3, iv d4, iv d5, rv ta, iv 4, rv st, .val .null, iv 0, iv 0] [])
                refine Go.iconst 547 X78 hx (1 : Int32) (hb hby at_546) (by decide) rfl ?_
                refine Go.goto 551 X78 hx (hb hby at_547) (by decide) (by decide) ?_
                exact Go.retIW X78 hx Bd.notSynchronized hS78 (by exact (Nat.le_refl T78.heap.size)) hZ78 hEL (by rw [hh]; exact C80) Bd.returns rfl (by simp) (hb hby at_551) ⟨rfl, N78⟩ (by decide) (by decide)
            · refine Go.icmpY 398 X78 hx (hb hby at_386) (XT.ii_ne_t hb99) (by decide) (by decide) ?_
              refine Go.iload2 400 X78 hx (hb hby at_398) rfl rfl ?_
              refine Go.iconst 401 X78 hx (1 : Int32) (hb hby at_400) (by decide) rfl ?_
              refine Go.icmpY 417 X78 hx (hb hby at_401) (XT.ii_ne_t (by decide)) (by decide) (by decide) ?_
              refine Go.iconst 418 X78 hx (0 : Int32) (hb hby at_417) (by decide) rfl ?_
              refine Go.istore2 420 X78 hx (L' := #[iv p0, iv p1, iv p2, iv d0, iv d1, iv d2, iv d3, iv d4, iv d5, rv ta, iv 4, rv st, .val .null, iv 0, un]) (hb hby at_418) (XS.store1 rfl hs13 rfl) rfl ?_
              refine Go.iload2 422 X78 hx (hb hby at_420) rfl rfl ?_
              refine Go.iconst 423 X78 hx (5 : Int32) (hb hby at_422) (by decide) rfl ?_
              refine Go.icmpY 471 X78 hx (hb hby at_423) (XT.ii_ne_t (by decide)) (by decide) (by decide) ?_
              refine Go.iload2 473 X78 hx (hb hby at_471) rfl rfl ?_
              refine Go.iconst 474 X78 hx (1 : Int32) (hb hby at_473) (by decide) rfl ?_
              refine Go.icmpY 490 X78 hx (hb hby at_474) (XT.ii_ne_t (by decide)) (by decide) (by decide) ?_
              refine Go.iconst 491 X78 hx (0 : Int32) (hb hby at_490) (by decide) rfl ?_
              refine Go.istore2 493 X78 hx (L' := #[iv p0, iv p1, iv p2, iv d0, iv d1, iv d2, iv d3, iv d4, iv d5, rv ta, iv 4, rv st, .val .null, iv 0, iv 0]) (hb hby at_491) rfl rfl ?_
              refine Go.iload2 495 X78 hx (hb hby at_493) rfl rfl ?_
              refine Go.ifY 517 X78 hx (hb hby at_495) (XT.i0_eq_t rfl) (by decide) (by decide) ?_
              refine Go.iload2 519 X78 hx (hb hby at_517) rfl rfl ?_
              refine Go.ifY 541 X78 hx (hb hby at_519) (XT.i0_eq_t rfl) (by decide) (by decide) ?_
              refine Go.aload2 543 X78 hx (hb hby at_541) rfl rfl rfl ?_
              refine Go.by (fun _ gk => XT.nonnullNo X78.here hx rfl (hb hby at_543) rfl rfl gk) ?_
              show Go _ _ _ _ T78 (mkF m 546 #[iv p0, iv p1, iv p2, iv d0, iv d1, iv d2, iv d3, iv d4, iv d5, rv ta, iv 4, rv st, .val .null, iv 0, iv 0] [])
              refine Go.iconst 547 X78 hx (1 : Int32) (hb hby at_546) (by decide) rfl ?_
              refine Go.goto 551 X78 hx (hb hby at_547) (by decide) (by decide) ?_
              exact Go.retIW X78 hx Bd.notSynchronized hS78 (by exact (Nat.le_refl T78.heap.size)) hZ78 hEL (by rw [hh]; exact C80) Bd.returns rfl (by simp) (hb hby at_551) ⟨rfl, N78⟩ (by decide) (by decide)
          · refine Go.icmpY 398 X78 hx (hb hby at_377) (XT.ii_ne_t hb97) (by decide) (by decide) ?_
            refine Go.iload2 400 X78 hx (hb hby at_398) rfl rfl ?_
            refine Go.iconst 401 X78 hx (1 : Int32) (hb hby at_400) (by decide) rfl ?_
            refine Go.icmpY 417 X78 hx (hb hby at_401) (XT.ii_ne_t (by decide)) (by decide) (by decide) ?_
            refine Go.iconst 418 X78 hx (0 : Int32) (hb hby at_417) (by decide) rfl ?_
            refine Go.istore2 420 X78 hx (L' := #[iv p0, iv p1, iv p2, iv d0, iv d1, iv d2, iv d3, iv d4, iv d5, rv ta, iv 4, rv st, .val .null, iv 0, un]) (hb hby at_418) (XS.store1 rfl hs13 rfl) rfl ?_
            refine Go.iload2 422 X78 hx (hb hby at_420) rfl rfl ?_
            refine Go.iconst 423 X78 hx (5 : Int32) (hb hby at_422) (by decide) rfl ?_
            refine Go.icmpY 471 X78 hx (hb hby at_423) (XT.ii_ne_t (by decide)) (by decide) (by decide) ?_
            refine Go.iload2 473 X78 hx (hb hby at_471) rfl rfl ?_
            refine Go.iconst 474 X78 hx (1 : Int32) (hb hby at_473) (by decide) rfl ?_
            refine Go.icmpY 490 X78 hx (hb hby at_474) (XT.ii_ne_t (by decide)) (by decide) (by decide) ?_
            refine Go.iconst 491 X78 hx (0 : Int32) (hb hby at_490) (by decide) rfl ?_
            refine Go.istore2 493 X78 hx (L' := #[iv p0, iv p1, iv p2, iv d0, iv d1, iv d2, iv d3, iv d4, iv d5, rv ta, iv 4, rv st, .val .null, iv 0, iv 0]) (hb hby at_491) rfl rfl ?_
            refine Go.iload2 495 X78 hx (hb hby at_493) rfl rfl ?_
            refine Go.ifY 517 X78 hx (hb hby at_495) (XT.i0_eq_t rfl) (by decide) (by decide) ?_
            refine Go.iload2 519 X78 hx (hb hby at_517) rfl rfl ?_
            refine Go.ifY 541 X78 hx (hb hby at_519) (XT.i0_eq_t rfl) (by decide) (by decide) ?_
            refine Go.aload2 543 X78 hx (hb hby at_541) rfl rfl rfl ?_
            refine Go.by (fun _ gk => XT.nonnullNo X78.here hx rfl (hb hby at_543) rfl rfl gk) ?_
            show Go _ _ _ _ T78 (mkF m 546 #[iv p0, iv p1, iv p2, iv d0, iv d1, iv d2, iv d3, iv d4, iv d5, rv ta, iv 4, rv st, .val .null, iv 0, iv 0] [])
            refine Go.iconst 547 X78 hx (1 : Int32) (hb hby at_546) (by decide) rfl ?_
            refine Go.goto 551 X78 hx (hb hby at_547) (by decide) (by decide) ?_
            exact Go.retIW X78 hx Bd.notSynchronized hS78 (by exact (Nat.le_refl T78.heap.size)) hZ78 hEL (by rw [hh]; exact C80) Bd.returns rfl (by simp) (hb hby at_551) ⟨rfl, N78⟩ (by decide) (by decide)
        · refine Go.icmpY 398 X78 hx (hb hby at_368) (XT.ii_ne_t hb95) (by decide) (by decide) ?_
          refine Go.iload2 400 X78 hx (hb hby at_398) rfl rfl ?_
          refine Go.iconst 401 X78 hx (1 : Int32) (hb hby at_400) (by decide) rfl ?_
          refine Go.icmpY 417 X78 hx (hb hby at_401) (XT.ii_ne_t (by decide)) (by decide) (by decide) ?_
          refine Go.iconst 418 X78 hx (0 : Int32) (hb hby at_417) (by decide) rfl ?_
          refine Go.istore2 420 X78 hx (L' := #[iv p0, iv p1, iv p2, iv d0, iv d1, iv d2, iv d3, iv d4, iv d5, rv ta, iv 4, rv st, .val .null, iv 0, un]) (hb hby at_418) (XS.store1 rfl hs13 rfl) rfl ?_
          refine Go.iload2 422 X78 hx (hb hby at_420) rfl rfl ?_
          refine Go.iconst 423 X78 hx (5 : Int32) (hb hby at_422) (by decide) rfl ?_
          refine Go.icmpY 471 X78 hx (hb hby at_423) (XT.ii_ne_t (by decide)) (by decide) (by decide) ?_
          refine Go.iload2 473 X78 hx (hb hby at_471) rfl rfl ?_
          refine Go.iconst 474 X78 hx (1 : Int32) (hb hby at_473) (by decide) rfl ?_
          refine Go.icmpY 490 X78 hx (hb hby at_474) (XT.ii_ne_t (by decide)) (by decide) (by decide) ?_
          refine Go.iconst 491 X78 hx (0 : Int32) (hb hby at_490) (by decide) rfl ?_
          refine Go.istore2 493 X78 hx (L' := #[iv p0, iv p1, iv p2, iv d0, iv d1, iv d2, iv d3, iv d4, iv d5, rv ta, iv 4, rv st, .val .null, iv 0, iv 0]) (hb hby at_491) rfl rfl ?_
          refine Go.iload2 495 X78 hx (hb hby at_493) rfl rfl ?_
          refine Go.ifY 517 X78 hx (hb hby at_495) (XT.i0_eq_t rfl) (by decide) (by decide) ?_
          refine Go.iload2 519 X78 hx (hb hby at_517) rfl rfl ?_
          refine Go.ifY 541 X78 hx (hb hby at_519) (XT.i0_eq_t rfl) (by decide) (by decide) ?_
          refine Go.aload2 543 X78 hx (hb hby at_541) rfl rfl rfl ?_
          refine Go.by (fun _ gk => XT.nonnullNo X78.here hx rfl (hb hby at_543) rfl rfl gk) ?_
          show Go _ _ _ _ T78 (mkF m 546 #[iv p0, iv p1, iv p2, iv d0, iv d1, iv d2, iv d3, iv d4, iv d5, rv ta, iv 4, rv st, .val .null, iv 0, iv 0] [])
          refine Go.iconst 547 X78 hx (1 : Int32) (hb hby at_546) (by decide) rfl ?_
          refine Go.goto 551 X78 hx (hb hby at_547) (by decide) (by decide) ?_
          exact Go.retIW X78 hx Bd.notSynchronized hS78 (by exact (Nat.le_refl T78.heap.size)) hZ78 hEL (by rw [hh]; exact C80) Bd.returns rfl (by simp) (hb hby at_551) ⟨rfl, N78⟩ (by decide) (by decide)
    · show Go _ _ _ _ T22 (mkF m 340 #[iv p0, iv p1, iv p2, iv d0, iv d1, iv d2, iv d3, iv d4, iv d5, rv ta, iv 5, s11, s12, s13, un] [])
      refine Go.aload2 342 X22 hx (hb hby at_340) rfl rfl rfl ?_
      refine Go.iload2 344 X22 hx (hb hby at_342) rfl rfl ?_
      obtain ⟨_, _, ⟨T102, L102, k102, n102⟩, -, X102, ⟨Lc102, hQ102, l102, y102, z102⟩, st102⟩ := Jvm.LawKit.callS X22 hx (y := (⟨"com/example/entries_to_nodes/entriestonodes/xml/XsBooleanReadPinLaw", "str", "([CI)Ljava/lang/String;"⟩ : MethodName)) hown (mvT hZ (ow hw 1 rfl)) (mvT hZ (ow hw 2 rfl)) (mvT hZ (ow hw 3 rfl)) (mvT hZ (ow hw 4 rfl)) (by decide) (backOf (W := 0) (rmStr5 l Z a0 hw [] ta k1 t0 t1 t2 t3 t4 t5 cs H22 n0 Zj22 Oj22 Fj22_0 hb0 hb1 hb2 hb3 hb4 S_cs n_cs) hZ (ow hw 4 rfl) (ow hw 3 rfl) (by decide) (by decide)) (g := (mkF m 344 #[iv p0, iv p1, iv p2, iv d0, iv d1, iv d2, iv d3, iv d4, iv d5, rv ta, iv 5, s11, s12, s13, un] [(.int 5), (.ref ta)])) rfl (by rw [hml]; rfl) (argsL := [(.ref ta), (.int 5)]) (rest := []) (lenOf pd_373 rfl) rfl (by show 2 * 0 + _ ≤ _; exact Nat.le_of_eq rfl) (hb hby at_344) (fun _ _ => ⟨rfl, e22, (by decide : 1 + 3 ≤ _), (by decide : 6 + 14 ≤ _)⟩)
      dsimp only [Pt.U, Pt.locs, Pt.cells, Pt.slots] at X102 l102 y102 z102 st102 hQ102
      subst l102 y102 z102
      obtain ⟨st, sb, kb, rfl, N102q, K102, Q102_0, Q102_1, Q102_2, Q102_3, Q102_4⟩ := hQ102
      have N102 := Fr.app N22 N102q
      have C103 : CHr Z own_EL s.vm h0 s.vm T102.heap := C22.trans (CHr.keep K102 sf0 C22.1)
      refine Go.by st102 ?_
      show Go _ _ _ _ T102 (mkF m 347 #[iv p0, iv p1, iv p2, iv d0, iv d1, iv d2, iv d3, iv d4, iv d5, rv ta, iv 5, s11, s12, s13, un] [(.ref st)])
      have ge_st : n0 ≤ st := Nat.le_trans Zj22 Q102_4
      have ne_ta_st : ta ≠ st := Nat.ne_of_lt (Nat.lt_of_lt_of_le Fj22_0.lt Q102_4)
      refine Go.astore2 349 X102 hx (L' := #[iv p0, iv p1, iv p2, iv d0, iv d1, iv d2, iv d3, iv d4, iv d5, rv ta, iv 5, rv st, s12, s13, un]) (hb hby at_347) rfl (XS.store1 rfl hs11 rfl) rfl ?_
      refine Go.aload2 351 X102 hx (hb hby at_349) rfl rfl rfl ?_
      have F104 : Old Z n0 T102.heap := Oj22.keep K102 all0
      have F105 : n0 ≤ T102.heap.size := Nat.le_trans Zj22 K102.1
      have F107 : s.heap.size ≤ T102.heap.size := Nat.le_trans hkj22 K102.1
      obtain ⟨_, _, ⟨T106, L106, k106, n106⟩, -, Xq106, hSq106, hgr106, ⟨Lc106, hQ106, l106, y106, z106, CH106⟩, st106⟩ := callSS X102 hx (y := (⟨"com/example/entries_to_nodes/entriestonodes/xml/XsBoolean", "read", "(Ljava/lang/String;)Ljava/lang/Boolean;"⟩ : MethodName)) hown (mvT hZ (ow hw 26 rfl)) (mvT hZ (ow hw 27 rfl)) (mvT hZ (ow hw 28 rfl)) (mvT hZ (ow hw 29 rfl)) (by decide) (backOfSH (W := 0) (rmRead5 l Z a0 hw [] st sb kb (own_b t0) (own_b t1) (own_b t2) (own_b t3) (own_b t4) cs bT bF T102.heap n0 F105 F104 Q102_0 Q102_1 Q102_2 Q102_3 S_cs n_cs B0 B1 B2 B3 B4 B5) hZ (ow hw 29 rfl) (ow hw 28 rfl) (by decide) (by decide) hEL C103.1) (g := (mkF m 351 #[iv p0, iv p1, iv p2, iv d0, iv d1, iv d2, iv d3, iv d4, iv d5, rv ta, iv 5, rv st, s12, s13, un] [(.ref st)])) rfl (by rw [hml]; rfl) (argsL := [(.ref st)]) (rest := []) (lenOf pd_374 rfl) rfl (by show 2 * 0 + _ ≤ _; exact Nat.le_of_eq rfl) (hb hby at_351) (fun _ _ => ⟨rfl, rfl, (by decide : 4 + 8 ≤ _), (by decide : 20 + 60 ≤ _)⟩)
      dsimp only [Pt.U, Pt.locs, Pt.cells, Pt.slots] at Xq106 hSq106 hgr106 l106 y106 z106 st106 hQ106 CH106
      subst l106 y106 z106
      obtain ⟨rz, rfl, N106q, K106, Q106_0⟩ := hQ106
      have N106 := Fr.app N102 N106q
      obtain ⟨X106, hS106, hZ106, hown106⟩ := rebS hS0 (by exact F107) Xq106 hSq106 hgr106 hZ hown
      have C108 : CHr Z own_EL s.vm h0 T106.vm T106.heap := C103.trans CH106
      refine Go.to st106 ?_
      show Go _ _ _ _ T106 (mkF m 354 #[iv p0, iv p1, iv p2, iv d0, iv d1, iv d2, iv d3, iv d4, iv d5, rv ta, iv 5, rv st, s12, s13, un] [rz])
      rcases Q106_0 with ⟨hP, rfl⟩ | ⟨hP, rfl⟩
      · show Go _ _ _ _ T106 (mkF m 354 #[iv p0, iv p1, iv p2, iv d0, iv d1, iv d2, iv d3, iv d4, iv d5, rv ta, iv 5, rv st, s12, s13, un] [(.ref bF)])
        obtain ⟨hz0, hz1, hz2, hz3, hz4⟩ := hP
        obtain rfl : t0 = 102 := (own_lit hb0 102 (by decide)).mp hz0
        obtain rfl : t1 = 97 := (own_lit hb1 97 (by decide)).mp hz1
        obtain rfl : t2 = 108 := (own_lit hb2 108 (by decide)).mp hz2
        obtain rfl : t3 = 115 := (own_lit hb3 115 (by decide)).mp hz3
        obtain rfl : t4 = 101 := (own_lit hb4 101 (by decide)).mp hz4
        refine Go.astore2 356 X106 hx (L' := #[iv p0, iv p1, iv p2, iv d0, iv d1, iv d2, iv d3, iv d4, iv d5, rv ta, iv 5, rv st, rv bF, s13, un]) (hb hby at_354) rfl (XS.store1 rfl hs12 rfl) rfl ?_
        refine Go.iload2 358 X106 hx (hb hby at_356) rfl rfl ?_
        refine Go.iconst 359 X106 hx (4 : Int32) (hb hby at_358) (by decide) rfl ?_
        refine Go.icmpY 398 X106 hx (hb hby at_359) (XT.ii_ne_t (by decide)) (by decide) (by decide) ?_
        refine Go.iload2 400 X106 hx (hb hby at_398) rfl rfl ?_
        refine Go.iconst 401 X106 hx (1 : Int32) (hb hby at_400) (by decide) rfl ?_
        refine Go.icmpY 417 X106 hx (hb hby at_401) (XT.ii_ne_t (by decide)) (by decide) (by decide) ?_
        refine Go.iconst 418 X106 hx (0 : Int32) (hb hby at_417) (by decide) rfl ?_
        refine Go.istore2 420 X106 hx (L' := #[iv p0, iv p1, iv p2, iv d0, iv d1, iv d2, iv d3, iv d4, iv d5, rv ta, iv 5, rv st, rv bF, iv 0, un]) (hb hby at_418) (XS.store1 rfl hs13 rfl) rfl ?_
        refine Go.iload2 422 X106 hx (hb hby at_420) rfl rfl ?_
        refine Go.iconst 423 X106 hx (5 : Int32) (hb hby at_422) (by decide) rfl ?_
        refine Go.icmpN 426 X106 hx (hb hby at_423) (XT.ii_ne_f rfl) rfl ?_
        refine Go.aload2 428 X106 hx (hb hby at_426) rfl rfl rfl ?_
        refine Go.iconst 429 X106 hx (0 : Int32) (hb hby at_428) (by decide) rfl ?_
        have F109 : Arv Z T102.heap ta k1 .char (6 : Int32) [(.int 102), (.int 97), (.int 108), (.int 115), (.int 101), (.int t5)] (.int 0) := Fj22_0.keep K102 nin0
        have F110 : Arv Z T106.heap ta k1 .char (6 : Int32) [(.int 102), (.int 97), (.int 108), (.int 115), (.int 101), (.int t5)] (.int 0) := F109.keep K106 nin0
        obtain ⟨cl111, Ar111, -, S111, M111, H111, -⟩ := id F110
        have hin111 : ¬ ((0 : Int32) < 0 ∨ cl111.slots.size ≤ (0 : Int32).toNatClampNeg) := inb_of S111 ⟨by decide, by decide⟩
        refine Go.by (fun _ gk => X106.caload hx (j := (0 : Int32)) (v := (.int 102)) (by exact Ar111.1) (State.isArrayOf_alike hZ106.alike Ar111.2.1) Ar111.2.2 hin111 (Has.at H111 hin111 rfl) (g := (mkF m 429 #[iv p0, iv p1, iv p2, iv d0, iv d1, iv d2, iv d3, iv d4, iv d5, rv ta, iv 5, rv st, rv bF, iv 0, un] [(.int 0), (.ref ta)])) rfl rfl (hb hby at_429) _ gk) ?_
        show Go _ _ _ _ T106 (mkF m 430 #[iv p0, iv p1, iv p2, iv d0, iv d1, iv d2, iv d3, iv d4, iv d5, rv ta, iv 5, rv st, rv bF, iv 0, un] [(.int 102)])
        refine Go.bipush 432 X106 hx (102 : Int32) (hb hby at_430) (by decide) rfl ?_
        refine Go.icmpN 435 X106 hx (hb hby at_432) (XT.ii_ne_f rfl) rfl ?_
        refine Go.aload2 437 X106 hx (hb hby at_435) rfl rfl rfl ?_
        refine Go.iconst 438 X106 hx (1 : Int32) (hb hby at_437) (by decide) rfl ?_
        obtain ⟨cl112, Ar112, -, S112, M112, H112, -⟩ := id F110
        have hin112 : ¬ ((1 : Int32) < 0 ∨ cl112.slots.size ≤ (1 : Int32).toNatClampNeg) := inb_of S112 ⟨by decide, by decide⟩
        refine Go.by (fun _ gk => X106.caload hx (j := (1 : Int32)) (v := (.int 97)) (by exact Ar112.1) (State.isArrayOf_alike hZ106.alike Ar112.2.1) Ar112.2.2 hin112 (Has.at H112 hin112 rfl) (g := (mkF m 438 #[iv p0, iv p1, iv p2, iv d0, iv d1, iv d2, iv d3, iv d4, iv d5, rv ta, iv 5, rv st, rv bF, iv 0, un] [(.int 1), (.ref ta)])) rfl rfl (hb hby at_438) _ gk) ?_
        show Go _ _ _ _ T106 (mkF m 439 #[iv p0, iv p1, iv p2, iv d0, iv d1, iv d2, iv d3, iv d4, iv d5, rv ta, iv 5, rv st, rv bF, iv 0, un] [(.int 97)])
        refine Go.bipush 441 X106 hx (97 : Int32) (hb hby at_439) (by decide) rfl ?_
        refine Go.icmpN 444 X106 hx (hb hby at_441) (XT.ii_ne_f rfl) rfl ?_
        refine Go.aload2 446 X106 hx (hb hby at_444) rfl rfl rfl ?_
        refine Go.iconst 447 X106 hx (2 : Int32) (hb hby at_446) (by decide) rfl ?_
        obtain ⟨cl113, Ar113, -, S113, M113, H113, -⟩ := id F110
        have hin113 : ¬ ((2 : Int32) < 0 ∨ cl113.slots.size ≤ (2 : Int32).toNatClampNeg) := inb_of S113 ⟨by decide, by decide⟩
        refine Go.by (fun _ gk => X106.caload hx (j := (2 : Int32)) (v := (.int 108)) (by exact Ar113.1) (State.isArrayOf_alike hZ106.alike Ar113.2.1) Ar113.2.2 hin113 (Has.at H113 hin113 rfl) (g := (mkF m 447 #[iv p0, iv p1, iv p2, iv d0, iv d1, iv d2, iv d3, iv d4, iv d5, rv ta, iv 5, rv st, rv bF, iv 0, un] [(.int 2), (.ref ta)])) rfl rfl (hb hby at_447) _ gk) ?_
        show Go _ _ _ _ T106 (mkF m 448 #[iv p0, iv p1, iv p2, iv d0, iv d1, iv d2, iv d3, iv d4, iv d5, rv ta, iv 5, rv st, rv bF, iv 0, un] [(.int 108)])
        refine Go.bipush 450 X106 hx (108 : Int32) (hb hby at_448) (by decide) rfl ?_
        refine Go.icmpN 453 X106 hx (hb hby at_450) (XT.ii_ne_f rfl) rfl ?_
        refine Go.aload2 455 X106 hx (hb hby at_453) rfl rfl rfl ?_
        refine Go.iconst 456 X106 hx (3 : Int32) (hb hby at_455) (by decide) rfl ?_
        obtain ⟨cl114, Ar114, -, S114, M114, H114, -⟩ := id F110
        have hin114 : ¬ ((3 : Int32) < 0 ∨ cl114.slots.size ≤ (3 : Int32).toNatClampNeg) := inb_of S114 ⟨by decide, by decide⟩
        refine Go.by (fun _ gk => X106.caload hx (j := (3 : Int32)) (v := (.int 115)) (by exact Ar114.1) (State.isArrayOf_alike hZ106.alike Ar114.2.1) Ar114.2.2 hin114 (Has.at H114 hin114 rfl) (g := (mkF m 456 #[iv p0, iv p1, iv p2, iv d0, iv d1, iv d2, iv d3, iv d4, iv d5, rv ta, iv 5, rv st, rv bF, iv 0, un] [(.int 3), (.ref ta)])) rfl rfl (hb hby at_456) _ gk) ?_
        show Go _ _ _ _ T106 (mkF m 457 #[iv p0, iv p1, iv p2, iv d0, iv d1, iv d2, iv d3, iv d4, iv d5, rv ta, iv 5, rv st, rv bF, iv 0, un] [(.int 115)])
        refine Go.bipush 459 X106 hx (115 : Int32) (hb hby at_457) (by decide) rfl ?_
        refine Go.icmpN 462 X106 hx (hb hby at_459) (XT.ii_ne_f rfl) rfl ?_
        refine Go.aload2 464 X106 hx (hb hby at_462) rfl rfl rfl ?_
        refine Go.iconst 465 X106 hx (4 : Int32) (hb hby at_464) (by decide) rfl ?_
        obtain ⟨cl115, Ar115, -, S115, M115, H115, -⟩ := id F110
        have hin115 : ¬ ((4 : Int32) < 0 ∨ cl115.slots.size ≤ (4 : Int32).toNatClampNeg) := inb_of S115 ⟨by decide, by decide⟩
        refine Go.by (fun _ gk => X106.caload hx (j := (4 : Int32)) (v := (.int 101)) (by exact Ar115.1) (State.isArrayOf_alike hZ106.alike Ar115.2.1) Ar115.2.2 hin115 (Has.at H115 hin115 rfl) (g := (mkF m 465 #[iv p0, iv p1, iv p2, iv d0, iv d1, iv d2, iv d3, iv d4, iv d5, rv ta, iv 5, rv st, rv bF, iv 0, un] [(.int 4), (.ref ta)])) rfl rfl (hb hby at_465) _ gk) ?_
        show Go _ _ _ _ T106 (mkF m 466 #[iv p0, iv p1, iv p2, iv d0, iv d1, iv d2, iv d3, iv d4, iv d5, rv ta, iv 5, rv st, rv bF, iv 0, un] [(.int 101)])
        refine Go.bipush 468 X106 hx (101 : Int32) (hb hby at_466) (by decide) rfl ?_
        refine Go.icmpY 486 X106 hx (hb hby at_468) (XT.ii_eq_t rfl) (by decide) (by decide) ?_
        refine Go.iconst 487 X106 hx (1 : Int32) (hb hby at_486) (by decide) rfl ?_
        refine Go.goto 491 X106 hx (hb hby at_487) (by decide) (by decide) ?_
        refine Go.istore2 493 X106 hx (L' := #[iv p0, iv p1, iv p2, iv d0, iv d1, iv d2, iv d3, iv d4, iv d5, rv ta, iv 5, rv st, rv bF, iv 0, iv 1]) (hb hby at_491) rfl rfl ?_
        refine Go.iload2 495 X106 hx (hb hby at_493) rfl rfl ?_
        refine Go.ifY 517 X106 hx (hb hby at_495) (XT.i0_eq_t rfl) (by decide) (by decide) ?_
        refine Go.iload2 519 X106 hx (hb hby at_517) rfl rfl ?_
        refine Go.ifN 522 X106 hx (hb hby at_519) (XT.i0_eq_f (by decide)) rfl ?_
        refine Go.aload2 524 X106 hx (hb hby at_522) rfl rfl rfl ?_
        refine Go.by (fun _ gk => XT.nullNo X106.here hx rfl (hb hby at_524) rfl rfl nofun gk) ?_
        show Go _ _ _ _ T106 (mkF m 527 #[iv p0, iv p1, iv p2, iv d0, iv d1, iv d2, iv d3, iv d4, iv d5, rv ta, iv 5, rv st, rv bF, iv 0, iv 1] [])
        refine Go.aload2 529 X106 hx (hb hby at_527) rfl rfl rfl ?_
        have F116 : Old Z n0 T106.heap := F104.keep K106 all0
        have F117 : Fld Z T106.heap bF "java/lang/Boolean" "value" "Z" (.int 0) := B5.ext F116.2
        have F118 : n0 ≤ T106.heap.size := Nat.le_trans F105 K106.1
        have F120 : Exa Z T106.heap bF "java/lang/Boolean" := B4.ext F116.2
        obtain ⟨cq119, kq119, q119a, q119b, q119c⟩ := isOf hZ106 rfl F120
        obtain ⟨_, _, ⟨T119, L119, k119, n119⟩, -, X119, ⟨Lc119, hQ119, l119, y119, z119⟩, st119⟩ := X106.virtualBack hx (y := (⟨"java/lang/Boolean", "booleanValue", "()Z"⟩ : MethodName)) (z := (⟨"java/lang/Boolean", "booleanValue", "()Z"⟩ : MethodName)) hown106 (mvT hZ106 (ow hw 57 rfl)) (mvT hZ106 (ow hw 58 rfl)) (notFace_of_selects (args := #[]) (mvT hZ106 (ow hw 60 rfl))) (mvT hZ106 (ow hw 60 rfl)) (mvT hZ106 (ow hw 59 rfl)) (by decide) (backOf (W := 0) (rmBval l Z a0 hw [] bF (0 : Int32) T106.heap n0 F118 F116 F117 rfl) hZ106 (ow hw 61 rfl) (ow hw 56 rfl) (by decide) (by decide)) q119a q119c (g := (mkF m 529 #[iv p0, iv p1, iv p2, iv d0, iv d1, iv d2, iv d3, iv d4, iv d5, rv ta, iv 5, rv st, rv bF, iv 0, iv 1] [(.ref bF)])) rfl (by rw [hml]; rfl) (Steps.refl _) (argsL := []) (rest := []) (lenOf pd_375 rfl) rfl (by show 2 * 0 + _ ≤ _; exact Nat.le_of_eq rfl) (hb hby at_529) (fun _ _ => ⟨rfl, rfl, (by decide : 12 + 0 ≤ _), (by decide : 80 + 0 ≤ _)⟩)
        dsimp only [Pt.U, Pt.locs, Pt.cells, Pt.slots] at X119 l119 y119 z119 st119 hQ119
        subst l119 y119 z119
        obtain ⟨rfl, N119q, e119⟩ := hQ119
        have N119 := Fr.app N106 N119q
        refine Go.to st119 ?_
        show Go _ _ _ _ T119 (mkF m 532 #[iv p0, iv p1, iv p2, iv d0, iv d1, iv d2, iv d3, iv d4, iv d5, rv ta, iv 5, rv st, rv bF, iv 0, iv 1] [(.int 0)])
        refine Go.ifN 535 X119 hx (hb hby at_532) (XT.i0_ne_f rfl) rfl ?_
        refine Go.iconst 536 X119 hx (1 : Int32) (hb hby at_535) (by decide) rfl ?_
        refine Go.goto 540 X119 hx (hb hby at_536) (by decide) (by decide) ?_
        exact Go.retIW X119 hx Bd.notSynchronized hS106 (by rw [e119]; exact (Nat.le_refl T106.heap.size)) hZ106 hEL (by rw [hh, e119]; exact C108) Bd.returns rfl (by simp) (hb hby at_540) (by rw [e119]; exact ⟨rfl, N119⟩) (by decide) (by decide)
      · show Go _ _ _ _ T106 (mkF m 354 #[iv p0, iv p1, iv p2, iv d0, iv d1, iv d2, iv d3, iv d4, iv d5, rv ta, iv 5, rv st, s12, s13, un] [.null])
        refine Go.astore2 356 X106 hx (L' := #[iv p0, iv p1, iv p2, iv d0, iv d1, iv d2, iv d3, iv d4, iv d5, rv ta, iv 5, rv st, .val .null, s13, un]) (hb hby at_354) rfl (XS.store1 rfl hs12 rfl) rfl ?_
        refine Go.iload2 358 X106 hx (hb hby at_356) rfl rfl ?_
        refine Go.iconst 359 X106 hx (4 : Int32) (hb hby at_358) (by decide) rfl ?_
        refine Go.icmpY 398 X106 hx (hb hby at_359) (XT.ii_ne_t (by decide)) (by decide) (by decide) ?_
        refine Go.iload2 400 X106 hx (hb hby at_398) rfl rfl ?_
        refine Go.iconst 401 X106 hx (1 : Int32) (hb hby at_400) (by decide) rfl ?_
        refine Go.icmpY 417 X106 hx (hb hby at_401) (XT.ii_ne_t (by decide)) (by decide) (by decide) ?_
        refine Go.iconst 418 X106 hx (0 : Int32) (hb hby at_417) (by decide) rfl ?_
        refine Go.istore2 420 X106 hx (L' := #[iv p0, iv p1, iv p2, iv d0, iv d1, iv d2, iv d3, iv d4, iv d5, rv ta, iv 5, rv st, .val .null, iv 0, un]) (hb hby at_418) (XS.store1 rfl hs13 rfl) rfl ?_
        refine Go.iload2 422 X106 hx (hb hby at_420) rfl rfl ?_
        refine Go.iconst 423 X106 hx (5 : Int32) (hb hby at_422) (by decide) rfl ?_
        refine Go.icmpN 426 X106 hx (hb hby at_423) (XT.ii_ne_f rfl) rfl ?_
        refine Go.aload2 428 X106 hx (hb hby at_426) rfl rfl rfl ?_
        refine Go.iconst 429 X106 hx (0 : Int32) (hb hby at_428) (by decide) rfl ?_
        have F121 : Arv Z T102.heap ta k1 .char (6 : Int32) [(.int t0), (.int t1), (.int t2), (.int t3), (.int t4), (.int t5)] (.int 0) := Fj22_0.keep K102 nin0
        have F122 : Arv Z T106.heap ta k1 .char (6 : Int32) [(.int t0), (.int t1), (.int t2), (.int t3), (.int t4), (.int t5)] (.int 0) := F121.keep K106 nin0
        obtain ⟨cl123, Ar123, -, S123, M123, H123, -⟩ := id F122
        have hin123 : ¬ ((0 : Int32) < 0 ∨ cl123.slots.size ≤ (0 : Int32).toNatClampNeg) := inb_of S123 ⟨by decide, by decide⟩
        refine Go.by (fun _ gk => X106.caload hx (j := (0 : Int32)) (v := (.int t0)) (by exact Ar123.1) (State.isArrayOf_alike hZ106.alike Ar123.2.1) Ar123.2.2 hin123 (Has.at H123 hin123 rfl) (g := (mkF m 429 #[iv p0, iv p1, iv p2, iv d0, iv d1, iv d2, iv d3, iv d4, iv d5, rv ta, iv 5, rv st, .val .null, iv 0, un] [(.int 0), (.ref ta)])) rfl rfl (hb hby at_429) _ gk) ?_
        show Go _ _ _ _ T106 (mkF m 430 #[iv p0, iv p1, iv p2, iv d0, iv d1, iv d2, iv d3, iv d4, iv d5, rv ta, iv 5, rv st, .val .null, iv 0, un] [(.int t0)])
        refine Go.bipush 432 X106 hx (102 : Int32) (hb hby at_430) (by decide) rfl ?_
        by_cases hb124 : t0 = (102 : Int32)
        · refine Go.icmpN 435 X106 hx (hb hby at_432) (XT.ii_ne_f hb124) rfl ?_
          refine Go.aload2 437 X106 hx (hb hby at_435) rfl rfl rfl ?_
          refine Go.iconst 438 X106 hx (1 : Int32) (hb hby at_437) (by decide) rfl ?_
          obtain ⟨cl125, Ar125, -, S125, M125, H125, -⟩ := id F122
          have hin125 : ¬ ((1 : Int32) < 0 ∨ cl125.slots.size ≤ (1 : Int32).toNatClampNeg) := inb_of S125 ⟨by decide, by decide⟩
          refine Go.by (fun _ gk => X106.caload hx (j := (1 : Int32)) (v := (.int t1)) (by exact Ar125.1) (State.isArrayOf_alike hZ106.alike Ar125.2.1) Ar125.2.2 hin125 (Has.at H125 hin125 rfl) (g := (mkF m 438 #[iv p0, iv p1, iv p2, iv d0, iv d1, iv d2, iv d3, iv d4, iv d5, rv ta, iv 5, rv st, .val .null, iv 0, un] [(.int 1), (.ref ta)])) rfl rfl (hb hby at_438) _ gk) ?_
          show Go _ _ _ _ T106 (mkF m 439 #[iv p0, iv p1, iv p2, iv d0, iv d1, iv d2, iv d3, iv d4, iv d5, rv ta, iv 5, rv st, .val .null, iv 0, un] [(.int t1)])
          refine Go.bipush 441 X106 hx (97 : Int32) (hb hby at_439) (by decide) rfl ?_
          by_cases hb126 : t1 = (97 : Int32)
          · refine Go.icmpN 444 X106 hx (hb hby at_441) (XT.ii_ne_f hb126) rfl ?_
            refine Go.aload2 446 X106 hx (hb hby at_444) rfl rfl rfl ?_
            refine Go.iconst 447 X106 hx (2 : Int32) (hb hby at_446) (by decide) rfl ?_
            obtain ⟨cl127, Ar127, -, S127, M127, H127, -⟩ := id F122
            have hin127 : ¬ ((2 : Int32) < 0 ∨ cl127.slots.size ≤ (2 : Int32).toNatClampNeg) := inb_of S127 ⟨by decide, by decide⟩
            refine Go.by (fun _ gk => X106.caload hx (j := (2 : Int32)) (v := (.int t2)) (by exact Ar127.1) (State.isArrayOf_alike hZ106.alike Ar127.2.1) Ar127.2.2 hin127 (Has.at H127 hin127 rfl) (g := (mkF m 447 #[iv p0, iv p1, iv p2, iv d0, iv d1, iv d2, iv d3, iv d4, iv d5, rv ta, iv 5, rv st, .val .null, iv 0, un] [(.int 2), (.ref ta)])) rfl rfl (hb hby at_447) _ gk) ?_
            show Go _ _ _ _ T106 (mkF m 448 #[iv p0, iv p1, iv p2, iv d0, iv d1, iv d2, iv d3, iv d4, iv d5, rv ta, iv 5, rv st, .val .null, iv 0, un] [(.int t2)])
            refine Go.bipush 450 X106 hx (108 : Int32) (hb hby at_448) (by decide) rfl ?_
            by_cases hb128 : t2 = (108 : Int32)
            · refine Go.icmpN 453 X106 hx (hb hby at_450) (XT.ii_ne_f hb128) rfl ?_
              refine Go.aload2 455 X106 hx (hb hby at_453) rfl rfl rfl ?_
              refine Go.iconst 456 X106 hx (3 : Int32) (hb hby at_455) (by decide) rfl ?_
              obtain ⟨cl129, Ar129, -, S129, M129, H129, -⟩ := id F122
              have hin129 : ¬ ((3 : Int32) < 0 ∨ cl129.slots.size ≤ (3 : Int32).toNatClampNeg) := inb_of S129 ⟨by decide, by decide⟩
              refine Go.by (fun _ gk => X106.caload hx (j := (3 : Int32)) (v := (.int t3)) (by exact Ar129.1) (State.isArrayOf_alike hZ106.alike Ar129.2.1) Ar129.2.2 hin129 (Has.at H129 hin129 rfl) (g := (mkF m 456 #[iv p0, iv p1, iv p2, iv d0, iv d1, iv d2, iv d3, iv d4, iv d5, rv ta, iv 5, rv st, .val .null, iv 0, un] [(.int 3), (.ref ta)])) rfl rfl (hb hby at_456) _ gk) ?_
              show Go _ _ _ _ T106 (mkF m 457 #[iv p0, iv p1, iv p2, iv d0, iv d1, iv d2, iv d3, iv d4, iv d5, rv ta, iv 5, rv st, .val .null, iv 0, un] [(.int t3)])
              refine Go.bipush 459 X106 hx (115 : Int32) (hb hby at_457) (by decide) rfl ?_
              by_cases hb130 : t3 = (115 : Int32)
              · refine Go.icmpN 462 X106 hx (hb hby at_459) (XT.ii_ne_f hb130) rfl ?_
                refine Go.aload2 464 X106 hx (hb hby at_462) rfl rfl rfl ?_
                refine Go.iconst 465 X106 hx (4 : Int32) (hb hby at_464) (by decide) rfl ?_
                obtain ⟨cl131, Ar131, -, S131, M131, H131, -⟩ := id F122
                have hin131 : ¬ ((4 : Int32) < 0 ∨ cl131.slots.size ≤ (4 : Int32).toNatClampNeg) := inb_of S131 ⟨by decide, by decide⟩
                refine Go.by (fun _ gk => X106.caload hx (j := (4 : Int32)) (v := (.int t4)) (by exact Ar131.1) (State.isArrayOf_alike hZ106.alike Ar131.2.1) Ar131.2.2 hin131 (Has.at H131 hin131 rfl) (g := (mkF m 465 #[iv p0, iv p1, iv p2, iv d0, iv d1, iv d2, iv d3, iv d4, iv d5, rv ta, iv 5, rv st, .val .null, iv 0, un] [(.int 4), (.ref ta)])) rfl rfl (hb hby at_465) _ gk) ?_
                show Go _ _ _ _ T106 (mkF m 466 #[iv p0, iv p1, iv p2, iv d0, iv d1, iv d2, iv d3, iv d4, iv d5, rv ta, iv 5, rv st, .val .null, iv 0, un] [(.int t4)])
                refine Go.bipush 468 X106 hx (101 : Int32) (hb hby at_466) (by decide) rfl ?_
                by_cases hb132 : t4 = (101 : Int32)
                · refine Go.icmpY 486 X106 hx (hb hby at_468) (XT.ii_eq_t hb132) (by decide) (by decide) ?_
                  exact absurd ⟨(own_lit hb0 102 (by decide)).mpr hb124, (own_lit hb1 97 (by decide)).mpr hb126, (own_lit hb2 108 (by decide)).mpr hb128, (own_lit hb3 115 (by decide)).mpr hb130, (own_lit hb4 101 (by decide)).mpr hb132⟩ hP
                · refine Go.icmpN 471 X106 hx (hb hby at_468) (XT.ii_eq_f hb132) rfl ?_
                  refine Go.iload2 473 X106 hx (hb hby at_471) rfl rfl ?_
                  refine Go.iconst 474 X106 hx (1 : Int32) (hb hby at_473) (by decide) rfl ?_
                  refine Go.icmpY 490 X106 hx (hb hby at_474) (XT.ii_ne_t (by decide)) (by decide) (by decide) ?_
                  refine Go.iconst 491 X106 hx (0 : Int32) (hb hby at_490) (by decide) rfl ?_
                  refine Go.istore2 493 X106 hx (L' := #[iv p0, iv p1, iv p2, iv d0, iv d1, iv d2, iv d3, iv d4, iv d5, rv ta, iv 5, rv st, .val .null, iv 0, iv 0]) (hb hby at_491) rfl rfl ?_
                  refine Go.iload2 495 X106 hx (hb hby at_493) rfl rfl ?_
                  refine Go.ifY 517 X106 hx (hb hby at_495) (XT.i0_eq_t rfl) (by decide) (by decide) ?_
                  refine Go.iload2 519 X106 hx (hb hby at_517) rfl rfl ?_
                  refine Go.ifY 541 X106 hx (hb hby at_519) (XT.i0_eq_t rfl) (by decide) (by decide) ?_
                  refine Go.aload2 543 X106 hx (hb hby at_541) rfl rfl rfl ?_
                  refine Go.by (fun _ gk => XT.nonnullNo X106.here hx rfl (hb hby at_543) rfl rfl gk) ?_
                  show Go _ _ _ _ T106 (mkF m 546 #[iv p0, iv p1, iv p2, iv d0, iv d1, iv d2, iv d3, iv d4, iv d5, rv ta, iv 5, rv st, .val .null, iv 0, iv 0] [])
                  refine Go.iconst 547 X106 hx (1 : Int32) (hb hby at_546) (by decide) rfl ?_
                  refine Go.goto 551 X106 hx (hb hby at_547) (by decide) (by decide) ?_
                  exact Go.retIW X106 hx Bd.notSynchronized hS106 (by exact (Nat.le_refl T106.heap.size)) hZ106 hEL (by rw [hh]; exact C108) Bd.returns rfl (by simp) (hb hby at_551) ⟨rfl, N106⟩ (by decide) (by decide)
              · refine Go.icmpY 471 X106 hx (hb hby at_459) (XT.ii_ne_t hb130) (by decide) (by decide) ?_
                refine Go.iload2 473 X106 hx (hb hby at_471) rfl rfl ?_
                refine Go.iconst 474 X106 hx (1 : Int32) (hb hby at_473) (by decide) rfl ?_
                refine Go.icmpY 490 X106 hx (hb hby at_474) (XT.ii_ne_t (by decide)) (by decide) (by decide) ?_
                refine Go.iconst 491 X106 hx (0 : Int32) (hb hby at_490) (by decide) rfl ?_
                refine Go.istore2 493 X106 hx (L' := #[iv p0, iv p1, iv p2, iv d0, iv d1, iv d2, iv d3, iv d4, iv d5, rv ta, iv 5, rv st, .val .null, iv 0, iv 0]) (hb hby at_491) rfl rfl ?_
                refine Go.iload2 495 X106 hx (hb hby at_493) rfl rfl ?_
                refine Go.ifY 517 X106 hx (hb hby at_495) (XT.i0_eq_t rfl) (by decide) (by decide) ?_
                refine Go.iload2 519 X106 hx (hb hby at_517) rfl rfl ?_
                refine Go.ifY 541 X106 hx (hb hby at_519) (XT.i0_eq_t rfl) (by decide) (by decide) ?_
                refine Go.aload2 543 X106 hx (hb hby at_541) rfl rfl rfl ?_
                refine Go.by (fun _ gk => XT.nonnullNo X106.here hx rfl (hb hby at_543) rfl rfl gk) ?_
                show Go _ _ _ _ T106 (mkF m 546 #[iv p0, iv p1, iv p2, iv d0, iv d1, iv d2, iv d3, iv d4, iv d5, rv ta, iv 5, rv st, .val .null, iv 0, iv 0] [])
                refine Go.iconst 547 X106 hx (1 : Int32) (hb hby at_546) (by decide) rfl ?_
                refine Go.goto 551 X106 hx (hb hby at_547) (by decide) (by decide) ?_
                exact Go.retIW X106 hx Bd.notSynchronized hS106 (by exact (Nat.le_refl T106.heap.size)) hZ106 hEL (by rw [hh]; exact C108) Bd.returns rfl (by simp) (hb hby at_551) ⟨rfl, N106⟩ (by decide) (by decide)
            · refine Go.icmpY 471 X106 hx (hb hby at_450) (XT.ii_ne_t hb128) (by decide) (by decide) ?_
              refine Go.iload2 473 X106 hx (hb hby at_471) rfl rfl ?_
              refine Go.iconst 474 X106 hx (1 : Int32) (hb hby at_473) (by decide) rfl ?_
              refine Go.icmpY 490 X106 hx (hb hby at_474) (XT.ii_ne_t (by decide)) (by decide) (by decide) ?_
              refine Go.iconst 491 X106 hx (0 : Int32) (hb hby at_490) (by decide) rfl ?_
              refine Go.istore2 493 X106 hx (L' := #[iv p0, iv p1, iv p2, iv d0, iv d1, iv d2, iv d3, iv d4, iv d5, rv ta, iv 5, rv st, .val .null, iv 0, iv 0]) (hb hby at_491) rfl rfl ?_
              refine Go.iload2 495 X106 hx (hb hby at_493) rfl rfl ?_
              refine Go.ifY 517 X106 hx (hb hby at_495) (XT.i0_eq_t rfl) (by decide) (by decide) ?_
              refine Go.iload2 519 X106 hx (hb hby at_517) rfl rfl ?_
              refine Go.ifY 541 X106 hx (hb hby at_519) (XT.i0_eq_t rfl) (by decide) (by decide) ?_
              refine Go.aload2 543 X106 hx (hb hby at_541) rfl rfl rfl ?_
              refine Go.by (fun _ gk => XT.nonnullNo X106.here hx rfl (hb hby at_543) rfl rfl gk) ?_
              show Go _ _ _ _ T106 (mkF m 546 #[iv p0, iv p1, iv p2, iv d0, iv d1, iv d2, iv d3, iv d4, iv d5, rv ta, iv 5, rv st, .val .null, iv 0, iv 0] [])
              refine Go.iconst 547 X106 hx (1 : Int32) (hb hby at_546) (by decide) rfl ?_
              refine Go.goto 551 X106 hx (hb hby at_547) (by decide) (by decide) ?_
              exact Go.retIW X106 hx Bd.notSynchronized hS106 (by exact (Nat.le_refl T106.heap.size)) hZ106 hEL (by rw [hh]; exact C108) Bd.returns rfl (by simp) (hb hby at_551) ⟨rfl, N106⟩ (by decide) (by decide)
          · refine Go.icmpY 471 X106 hx (hb hby at_441) (XT.ii_ne_t hb126) (by decide) (by decide) ?_
            refine Go.iload2 473 X106 hx (hb hby at_471) rfl rfl ?_
            refine Go.iconst 474 X106 hx (1 : Int32) (hb hby at_473) (by decide) rfl ?_
            refine Go.icmpY 490 X106 hx (hb hby at_474) (XT.ii_ne_t (by decide)) (by decide) (by decide) ?_
            refine Go.iconst 491 X106 hx (0 : Int32) (hb hby at_490) (by decide) rfl ?_
            refine Go.istore2 493 X106 hx (L' := #[iv p0, iv p1, iv p2, iv d0, iv d1, iv d2, iv d3, iv d4, iv d5, rv ta, iv 5, rv st, .val .null, iv 0, iv 0]) (hb hby at_491) rfl rfl ?_
            refine Go.iload2 495 X106 hx (hb hby at_493) rfl rfl ?_
            refine Go.ifY 517 X106 hx (hb hby at_495) (XT.i0_eq_t rfl) (by decide) (by decide) ?_
            refine Go.iload2 519 X106 hx (hb hby at_517) rfl rfl ?_
            refine Go.ifY 541 X106 hx (hb hby at_519) (XT.i0_eq_t rfl) (by decide) (by decide) ?_
            refine Go.aload2 543 X106 hx (hb hby at_541) rfl rfl rfl ?_
            refine Go.by (fun _ gk => XT.nonnullNo X106.here hx rfl (hb hby at_543) rfl rfl gk) ?_
            show Go _ _ _ _ T106 (mkF m 546 #[iv p0, iv p1, iv p2, iv d0, iv d1, iv d2, iv d3, iv d4, iv d5, rv ta, iv 5, rv st, .val .null, iv 0, iv 0] [])
            refine Go.iconst 547 X106 hx (1 : Int32) (hb hby at_546) (by decide) rfl ?_
            refine Go.goto 551 X106 hx (hb hby at_547) (by decide) (by decide) ?_
            exact Go.retIW X106 hx Bd.notSynchronized hS106 (by exact (Nat.le_refl T106.heap.size)) hZ106 hEL (by rw [hh]; exact C108) Bd.returns rfl (by simp) (hb hby at_551) ⟨rfl, N106⟩ (by decide) (by decide)
        · refine Go.icmpY 471 X106 hx (hb hby at_432) (XT.ii_ne_t hb124) (by decide) (by decide) ?_
          refine Go.iload2 473 X106 hx (hb hby at_471) rfl rfl ?_
          refine Go.iconst 474 X106 hx (1 : Int32) (hb hby at_473) (by decide) rfl ?_
          refine Go.icmpY 490 X106 hx (hb hby at_474) (XT.ii_ne_t (by decide)) (by decide) (by decide) ?_
          refine Go.iconst 491 X106 hx (0 : Int32) (hb hby at_490) (by decide) rfl ?_
          refine Go.istore2 493 X106 hx (L' := #[iv p0, iv p1, iv p2, iv d0, iv d1, iv d2, iv d3, iv d4, iv d5, rv ta, iv 5, rv st, .val .null, iv 0, iv 0]) (hb hby at_491) rfl rfl ?_
          refine Go.iload2 495 X106 hx (hb hby at_493) rfl rfl ?_
          refine Go.ifY 517 X106 hx (hb hby at_495) (XT.i0_eq_t rfl) (by decide) (by decide) ?_
          refine Go.iload2 519 X106 hx (hb hby at_517) rfl rfl ?_
          refine Go.ifY 541 X106 hx (hb hby at_519) (XT.i0_eq_t rfl) (by decide) (by decide) ?_
          refine Go.aload2 543 X106 hx (hb hby at_541) rfl rfl rfl ?_
          refine Go.by (fun _ gk => XT.nonnullNo X106.here hx rfl (hb hby at_543) rfl rfl gk) ?_
          show Go _ _ _ _ T106 (mkF m 546 #[iv p0, iv p1, iv p2, iv d0, iv d1, iv d2, iv d3, iv d4, iv d5, rv ta, iv 5, rv st, .val .null, iv 0, iv 0] [])
          refine Go.iconst 547 X106 hx (1 : Int32) (hb hby at_546) (by decide) rfl ?_
          refine Go.goto 551 X106 hx (hb hby at_547) (by decide) (by decide) ?_
          exact Go.retIW X106 hx Bd.notSynchronized hS106 (by exact (Nat.le_refl T106.heap.size)) hZ106 hEL (by rw [hh]; exact C108) Bd.returns rfl (by simp) (hb hby at_551) ⟨rfl, N106⟩ (by decide) (by decide)
    · show Go _ _ _ _ T22 (mkF m 340 #[iv p0, iv p1, iv p2, iv d0, iv d1, iv d2, iv d3, iv d4, iv d5, rv ta, iv 6, s11, s12, s13, un] [])
      refine Go.aload2 342 X22 hx (hb hby at_340) rfl rfl rfl ?_
      refine Go.iload2 344 X22 hx (hb hby at_342) rfl rfl ?_
      obtain ⟨_, _, ⟨T133, L133, k133, n133⟩, -, X133, ⟨Lc133, hQ133, l133, y133, z133⟩, st133⟩ := Jvm.LawKit.callS X22 hx (y := (⟨"com/example/entries_to_nodes/entriestonodes/xml/XsBooleanReadPinLaw", "str", "([CI)Ljava/lang/String;"⟩ : MethodName)) hown (mvT hZ (ow hw 1 rfl)) (mvT hZ (ow hw 2 rfl)) (mvT hZ (ow hw 3 rfl)) (mvT hZ (ow hw 4 rfl)) (by decide) (backOf (W := 0) (rmStr6 l Z a0 hw [] ta k1 t0 t1 t2 t3 t4 t5 cs H22 n0 Zj22 Oj22 Fj22_0 hb0 hb1 hb2 hb3 hb4 hb5 S_cs n_cs) hZ (ow hw 4 rfl) (ow hw 3 rfl) (by decide) (by decide)) (g := (mkF m 344 #[iv p0, iv p1, iv p2, iv d0, iv d1, iv d2, iv d3, iv d4, iv d5, rv ta, iv 6, s11, s12, s13, un] [(.int 6), (.ref ta)])) rfl (by rw [hml]; rfl) (argsL := [(.ref ta), (.int 6)]) (rest := []) (lenOf pd_373 rfl) rfl (by show 2 * 0 + _ ≤ _; exact Nat.le_of_eq rfl) (hb hby at_344) (fun _ _ => ⟨rfl, e22, (by decide : 1 + 3 ≤ _), (by decide : 6 + 16 ≤ _)⟩)
      dsimp only [Pt.U, Pt.locs, Pt.cells, Pt.slots] at X133 l133 y133 z133 st133 hQ133
      subst l133 y133 z133
      obtain ⟨st, sb, kb, rfl, N133q, K133, Q133_0, Q133_1, Q133_2, Q133_3, Q133_4⟩ := hQ133
      have N133 := Fr.app N22 N133q
      have C134 : CHr Z own_EL s.vm h0 s.vm T133.heap := C22.trans (CHr.keep K133 sf0 C22.1)
      refine Go.by st133 ?_
      show Go _ _ _ _ T133 (mkF m 347 #[iv p0, iv p1, iv p2, iv d0, iv d1, iv d2, iv d3, iv d4, iv d5, rv ta, iv 6, s11, s12, s13, un] [(.ref st)])
      have ge_st : n0 ≤ st := Nat.le_trans Zj22 Q133_4
      have ne_ta_st : ta ≠ st := Nat.ne_of_lt (Nat.lt_of_lt_of_le Fj22_0.lt Q133_4)
      refine Go.astore2 349 X133 hx (L' := #[iv p0, iv p1, iv p2, iv d0, iv d1, iv d2, iv d3, iv d4, iv d5, rv ta, iv 6, rv st, s12, s13, un]) (hb hby at_347) rfl (XS.store1 rfl hs11 rfl) rfl ?_
      refine Go.aload2 351 X133 hx (hb hby at_349) rfl rfl rfl ?_
      have F135 : Old Z n0 T133.heap := Oj22.keep K133 all0
      have F136 : n0 ≤ T133.heap.size := Nat.le_trans Zj22 K133.1
      have F138 : s.heap.size ≤ T133.heap.size := Nat.le_trans hkj22 K133.1
      obtain ⟨_, _, ⟨T137, L137, k137, n137⟩, -, Xq137, hSq137, hgr137, ⟨Lc137, hQ137, l137, y137, z137, CH137⟩, st137⟩ := callSS X133 hx (y := (⟨"com/example/entries_to_nodes/entriestonodes/xml/XsBoolean", "read", "(Ljava/lang/String;)Ljava/lang/Boolean;"⟩ : MethodName)) hown (mvT hZ (ow hw 26 rfl)) (mvT hZ (ow hw 27 rfl)) (mvT hZ (ow hw 28 rfl)) (mvT hZ (ow hw 29 rfl)) (by decide) (backOfSH (W := 0) (rmRead6 l Z a0 hw [] st sb kb (own_b t0) (own_b t1) (own_b t2) (own_b t3) (own_b t4) (own_b t5) cs bT bF T133.heap n0 F136 F135 Q133_0 Q133_1 Q133_2 Q133_3 S_cs n_cs B0 B1 B2 B3 B4 B5) hZ (ow hw 29 rfl) (ow hw 28 rfl) (by decide) (by decide) hEL C134.1) (g := (mkF m 351 #[iv p0, iv p1, iv p2, iv d0, iv d1, iv d2, iv d3, iv d4, iv d5, rv ta, iv 6, rv st, s12, s13, un] [(.ref st)])) rfl (by rw [hml]; rfl) (argsL := [(.ref st)]) (rest := []) (lenOf pd_374 rfl) rfl (by show 2 * 0 + _ ≤ _; exact Nat.le_of_eq rfl) (hb hby at_351) (fun _ _ => ⟨rfl, rfl, (by decide : 4 + 8 ≤ _), (by decide : 22 + 60 ≤ _)⟩)
      dsimp only [Pt.U, Pt.locs, Pt.cells, Pt.slots] at Xq137 hSq137 hgr137 l137 y137 z137 st137 hQ137 CH137
      subst l137 y137 z137
      obtain ⟨rz, rfl, N137q, K137, Q137_0⟩ := hQ137
      have N137 := Fr.app N133 N137q
      obtain ⟨X137, hS137, hZ137, hown137⟩ := rebS hS0 (by exact F138) Xq137 hSq137 hgr137 hZ hown
      have C139 : CHr Z own_EL s.vm h0 T137.vm T137.heap := C134.trans CH137
      refine Go.to st137 ?_
      show Go _ _ _ _ T137 (mkF m 354 #[iv p0, iv p1, iv p2, iv d0, iv d1, iv d2, iv d3, iv d4, iv d5, rv ta, iv 6, rv st, s12, s13, un] [rz])
      obtain ⟨-, rfl⟩ := Q137_0
      show Go _ _ _ _ T137 (mkF m 354 #[iv p0, iv p1, iv p2, iv d0, iv d1, iv d2, iv d3, iv d4, iv d5, rv ta, iv 6, rv st, s12, s13, un] [.null])
      refine Go.astore2 356 X137 hx (L' := #[iv p0, iv p1, iv p2, iv d0, iv d1, iv d2, iv d3, iv d4, iv d5, rv ta, iv 6, rv st, .val .null, s13, un]) (hb hby at_354) rfl (XS.store1 rfl hs12 rfl) rfl ?_
      refine Go.iload2 358 X137 hx (hb hby at_356) rfl rfl ?_
      refine Go.iconst 359 X137 hx (4 : Int32) (hb hby at_358) (by decide) rfl ?_
      refine Go.icmpY 398 X137 hx (hb hby at_359) (XT.ii_ne_t (by decide)) (by decide) (by decide) ?_
      refine Go.iload2 400 X137 hx (hb hby at_398) rfl rfl ?_
      refine Go.iconst 401 X137 hx (1 : Int32) (hb hby at_400) (by decide) rfl ?_
      refine Go.icmpY 417 X137 hx (hb hby at_401) (XT.ii_ne_t (by decide)) (by decide) (by decide) ?_
      refine Go.iconst 418 X137 hx (0 : Int32) (hb hby at_417) (by decide) rfl ?_
      refine Go.istore2 420 X137 hx (L' := #[iv p0, iv p1, iv p2, iv d0, iv d1, iv d2, iv d3, iv d4, iv d5, rv ta, iv 6, rv st, .val .null, iv 0, un]) (hb hby at_418) (XS.store1 rfl hs13 rfl) rfl ?_
      refine Go.iload2 422 X137 hx (hb hby at_420) rfl rfl ?_
      refine Go.iconst 423 X137 hx (5 : Int32) (hb hby at_422) (by decide) rfl ?_
      refine Go.icmpY 471 X137 hx (hb hby at_423) (XT.ii_ne_t (by decide)) (by decide) (by decide) ?_
      refine Go.iload2 473 X137 hx (hb hby at_471) rfl rfl ?_
      refine Go.iconst 474 X137 hx (1 : Int32) (hb hby at_473) (by decide) rfl ?_
      refine Go.icmpY 490 X137 hx (hb hby at_474) (XT.ii_ne_t (by decide)) (by decide) (by decide) ?_
      refine Go.iconst 491 X137 hx (0 : Int32) (hb hby at_490) (by decide) rfl ?_
      refine Go.istore2 493 X137 hx (L' := #[iv p0, iv p1, iv p2, iv d0, iv d1, iv d2, iv d3, iv d4, iv d5, rv ta, iv 6, rv st, .val .null, iv 0, iv 0]) (hb hby at_491) rfl rfl ?_
      refine Go.iload2 495 X137 hx (hb hby at_493) rfl rfl ?_
      refine Go.ifY 517 X137 hx (hb hby at_495) (XT.i0_eq_t rfl) (by decide) (by decide) ?_
      refine Go.iload2 519 X137 hx (hb hby at_517) rfl rfl ?_
      refine Go.ifY 541 X137 hx (hb hby at_519) (XT.i0_eq_t rfl) (by decide) (by decide) ?_
      refine Go.aload2 543 X137 hx (hb hby at_541) rfl rfl rfl ?_
      refine Go.by (fun _ gk => XT.nonnullNo X137.here hx rfl (hb hby at_543) rfl rfl gk) ?_
      show Go _ _ _ _ T137 (mkF m 546 #[iv p0, iv p1, iv p2, iv d0, iv d1, iv d2, iv d3, iv d4, iv d5, rv ta, iv 6, rv st, .val .null, iv 0, iv 0] [])
      refine Go.iconst 547 X137 hx (1 : Int32) (hb hby at_546) (by decide) rfl ?_
      refine Go.goto 551 X137 hx (hb hby at_547) (by decide) (by decide) ?_
      exact Go.retIW X137 hx Bd.notSynchronized hS137 (by exact (Nat.le_refl T137.heap.size)) hZ137 hEL (by rw [hh]; exact C139) Bd.returns rfl (by simp) (hb hby at_551) ⟨rfl, N137⟩ (by decide) (by decide)
  by_cases hb140 : (p0 &&& (3 : Int32)) = 0
  · refine Go.ifN 100 X19 hx (hb hby at_97) (XT.i0_ne_f hb140) rfl ?_
    refine Go.iload1 101 X19 hx (hb hby at_100) rfl rfl ?_
    refine Go.iconst 102 X19 hx (2 : Int32) (hb hby at_101) (by decide) rfl ?_
    refine Go.iushr 103 X19 hx (hb hby at_102) rfl ?_
    refine Go.bipush 105 X19 hx (7 : Int32) (hb hby at_103) (by decide) rfl ?_
    refine Go.iand 106 X19 hx (hb hby at_105) rfl ?_
    refine Go.bipush 108 X19 hx (7 : Int32) (hb hby at_106) (by decide) rfl ?_
    refine Go.irem 109 X19 hx (hb hby at_108) (by decide) rfl ?_
    refine Go.istore2 111 X19 hx (L' := #[iv p0, iv p1, iv p2, iv d0, iv d1, iv d2, iv d3, iv d4, iv d5, rv ta, iv (((XT.ushr p0 (2 : Int32)) &&& (7 : Int32)) - ((XT.ushr p0 (2 : Int32)) &&& (7 : Int32)) / (7 : Int32) * (7 : Int32)), un, un, un, un]) (hb hby at_109) rfl rfl ?_
    obtain ⟨ln, h_ln⟩ : ∃ z, z = (((XT.ushr p0 (2 : Int32)) &&& (7 : Int32)) - ((XT.ushr p0 (2 : Int32)) &&& (7 : Int32)) / (7 : Int32) * (7 : Int32)) := ⟨_, rfl⟩
    rw [← h_ln]
    show Go _ _ _ _ T19 (mkF m 111 #[iv p0, iv p1, iv p2, iv d0, iv d1, iv d2, iv d3, iv d4, iv d5, rv ta, iv ln, un, un, un, un] [])
    refine Go.goto 340 X19 hx (hb hby at_111) (by decide) (by decide) ?_
    have F141 : n0 ≤ h1.size := Nat.le_trans Z0 E1.1
    have F142 : n0 ≤ h4.size := Nat.le_trans F141 (Nat.le_of_eq (Wr.size W4).symm)
    have F143 : n0 ≤ h7.size := Nat.le_trans F142 (Nat.le_of_eq (Wr.size W7).symm)
    have F144 : n0 ≤ h10.size := Nat.le_trans F143 (Nat.le_of_eq (Wr.size W10).symm)
    have F145 : n0 ≤ h13.size := Nat.le_trans F144 (Nat.le_of_eq (Wr.size W13).symm)
    have F146 : n0 ≤ h16.size := Nat.le_trans F145 (Nat.le_of_eq (Wr.size W16).symm)
    have F147 : n0 ≤ h19.size := Nat.le_trans F146 (Nat.le_of_eq (Wr.size W19).symm)
    have F148 : Old Z n0 h1 := O0.ext E1
    have F149 : Old Z n0 h4 := F148.wr W4 ge_ta
    have F150 : Old Z n0 h7 := F149.wr W7 ge_ta
    have F151 : Old Z n0 h10 := F150.wr W10 ge_ta
    have F152 : Old Z n0 h13 := F151.wr W13 ge_ta
    have F153 : Old Z n0 h16 := F152.wr W16 ge_ta
    have F154 : Old Z n0 h19 := F153.wr W19 ge_ta
    have F155 : s.heap.size ≤ h1.size := Nat.le_trans hk0 E1.1
    have F156 : s.heap.size ≤ h4.size := Nat.le_trans F155 (Nat.le_of_eq (Wr.size W4).symm)
    have F157 : s.heap.size ≤ h7.size := Nat.le_trans F156 (Nat.le_of_eq (Wr.size W7).symm)
    have F158 : s.heap.size ≤ h10.size := Nat.le_trans F157 (Nat.le_of_eq (Wr.size W10).symm)
    have F159 : s.heap.size ≤ h13.size := Nat.le_trans F158 (Nat.le_of_eq (Wr.size W13).symm)
    have F160 : s.heap.size ≤ h16.size := Nat.le_trans F159 (Nat.le_of_eq (Wr.size W16).symm)
    have F161 : s.heap.size ≤ h19.size := Nat.le_trans F160 (Nat.le_of_eq (Wr.size W19).symm)
    exact J22 _ _ _ d0 d1 d2 d3 d4 d5 ln un un un X19 e19 N19 F147 F154 C20 F161 V19 q_d0 q_d1 q_d2 q_d3 q_d4 q_d5 (own_m7 h_ln) (Or.inl rfl) (Or.inl rfl) (Or.inl rfl)
  · refine Go.ifY 114 X19 hx (hb hby at_97) (XT.i0_ne_t hb140) (by decide) (by decide) ?_
    refine Go.iload1 115 X19 hx (hb hby at_114) rfl rfl ?_
    refine Go.iconst 116 X19 hx (2 : Int32) (hb hby at_115) (by decide) rfl ?_
    refine Go.iushr 117 X19 hx (hb hby at_116) rfl ?_
    refine Go.iconst 118 X19 hx (3 : Int32) (hb hby at_117) (by decide) rfl ?_
    refine Go.iand 119 X19 hx (hb hby at_118) rfl ?_
    refine Go.istore2 121 X19 hx (L' := #[iv p0, iv p1, iv p2, iv d0, iv d1, iv d2, iv d3, iv d4, iv d5, rv ta, un, iv ((XT.ushr p0 (2 : Int32)) &&& (3 : Int32)), un, un, un]) (hb hby at_119) rfl rfl ?_
    obtain ⟨kw, h_kw⟩ : ∃ z, z = ((XT.ushr p0 (2 : Int32)) &&& (3 : Int32)) := ⟨_, rfl⟩
    rw [← h_kw]
    show Go _ _ _ _ T19 (mkF m 121 #[iv p0, iv p1, iv p2, iv d0, iv d1, iv d2, iv d3, iv d4, iv d5, rv ta, un, iv kw, un, un, un] [])
    rcases own_a3 (XT.ushr p0 2) with hk | hk | hk | hk
    · obtain rfl : kw = 0 := h_kw.trans hk
      show Go _ _ _ _ T19 (mkF m 121 #[iv p0, iv p1, iv p2, iv d0, iv d1, iv d2, iv d3, iv d4, iv d5, rv ta, un, iv 0, un, un, un] [])
      refine Go.iload2 123 X19 hx (hb hby at_121) rfl rfl ?_
      refine Go.ifN 126 X19 hx (hb hby at_123) (XT.i0_ne_f rfl) rfl ?_
      refine Go.aload2 128 X19 hx (hb hby at_126) rfl rfl rfl ?_
      refine Go.iconst 129 X19 hx (0 : Int32) (hb hby at_128) (by decide) rfl ?_
      refine Go.bipush 131 X19 hx (116 : Int32) (hb hby at_129) (by decide) rfl ?_
      obtain ⟨cl162, Ar162, q162, S162, M162, H162, G162⟩ := id V19
      have hin162 : ¬ ((0 : Int32) < 0 ∨ cl162.slots.size ≤ (0 : Int32).toNatClampNeg) := inb_of S162 ⟨by decide, by decide⟩
      obtain ⟨T162, h162, X162, e162, W162, st162⟩ := stC X19 hx hZ e19 Ar162 (j := (0 : Int32)) hin162 (g := (mkF m 131 #[iv p0, iv p1, iv p2, iv d0, iv d1, iv d2, iv d3, iv d4, iv d5, rv ta, un, iv 0, un, un, un] [(.int 116), (.int 0), (.ref ta)])) rfl rfl (hb hby at_131)
      have C163 : CHr Z own_EL s.vm h0 s.vm h162 := C20.trans (CHr.wr W162 Sf21 C20.1)
      have Sf164 : Safe Z own_EL s.vm h162 ta := Safe.wr W162 Sf21 C20.1 Sf21
      have N162 := Fr.snoc X162 N19 ge_ta
      have V162 : Arv Z h162 ta k1 .char (6 : Int32) [(.int (nar .char (116 : Int32))), (.int d1), (.int d2), (.int d3), (.int d4), (.int d5)] (.int 0) := Arv.set Ar162 q162 S162 M162 H162 G162 (fits_nar_char _) W162 0 rfl (Nat.le_of_ble_eq_true rfl)
      refine Go.by st162 ?_
      show Go _ _ _ _ T162 (mkF m 132 #[iv p0, iv p1, iv p2, iv d0, iv d1, iv d2, iv d3, iv d4, iv d5, rv ta, un, iv 0, un, un, un] [])
      rw [own_ncb (t := (116 : Int32)) (⟨by decide, by decide⟩ : ¬ (116 : Int32) < 0 ∧ ¬ (255 : Int32) < (116 : Int32)).1 (⟨by decide, by decide⟩ : ¬ (116 : Int32) < 0 ∧ ¬ (255 : Int32) < (116 : Int32)).2] at V162
      refine Go.aload2 134 X162 hx (hb hby at_132) rfl rfl rfl ?_
      refine Go.iconst 135 X162 hx (1 : Int32) (hb hby at_134) (by decide) rfl ?_
      refine Go.bipush 137 X162 hx (114 : Int32) (hb hby at_135) (by decide) rfl ?_
      obtain ⟨cl165, Ar165, q165, S165, M165, H165, G165⟩ := id V162
      have hin165 : ¬ ((1 : Int32) < 0 ∨ cl165.slots.size ≤ (1 : Int32).toNatClampNeg) := inb_of S165 ⟨by decide, by decide⟩
      obtain ⟨T165, h165, X165, e165, W165, st165⟩ := stC X162 hx hZ e162 Ar165 (j := (1 : Int32)) hin165 (g := (mkF m 137 #[iv p0, iv p1, iv p2, iv d0, iv d1, iv d2, iv d3, iv d4, iv d5, rv ta, un, iv 0, un, un, un] [(.int 114), (.int 1), (.ref ta)])) rfl rfl (hb hby at_137)
      have C166 : CHr Z own_EL s.vm h0 s.vm h165 := C163.trans (CHr.wr W165 Sf164 C163.1)
      have Sf167 : Safe Z own_EL s.vm h165 ta := Safe.wr W165 Sf164 C163.1 Sf164
      have N165 := Fr.snoc X165 N162 ge_ta
      have V165 : Arv Z h165 ta k1 .char (6 : Int32) [(.int 116), (.int (nar .char (114 : Int32))), (.int d2), (.int d3), (.int d4), (.int d5)] (.int 0) := Arv.set Ar165 q165 S165 M165 H165 G165 (fits_nar_char _) W165 1 rfl (Nat.le_of_ble_eq_true rfl)
      refine Go.by st165 ?_
      show Go _ _ _ _ T165 (mkF m 138 #[iv p0, iv p1, iv p2, iv d0, iv d1, iv d2, iv d3, iv d4, iv d5, rv ta, un, iv 0, un, un, un] [])
      rw [own_ncb (t := (114 : Int32)) (⟨by decide, by decide⟩ : ¬ (114 : Int32) < 0 ∧ ¬ (255 : Int32) < (114 : Int32)).1 (⟨by decide, by decide⟩ : ¬ (114 : Int32) < 0 ∧ ¬ (255 : Int32) < (114 : Int32)).2] at V165
      refine Go.aload2 140 X165 hx (hb hby at_138) rfl rfl rfl ?_
      refine Go.iconst 141 X165 hx (2 : Int32) (hb hby at_140) (by decide) rfl ?_
      refine Go.bipush 143 X165 hx (117 : Int32) (hb hby at_141) (by decide) rfl ?_
      obtain ⟨cl168, Ar168, q168, S168, M168, H168, G168⟩ := id V165
      have hin168 : ¬ ((2 : Int32) < 0 ∨ cl168.slots.size ≤ (2 : Int32).toNatClampNeg) := inb_of S168 ⟨by decide, by decide⟩
      obtain ⟨T168, h168, X168, e168, W168, st168⟩ := stC X165 hx hZ e165 Ar168 (j := (2 : Int32)) hin168 (g := (mkF m 143 #[iv p0, iv p1, iv p2, iv d0, iv d1, iv d2, iv d3, iv d4, iv d5, rv ta, un, iv 0, un, un, un] [(.int 117), (.int 2), (.ref ta)])) rfl rfl (hb hby at_143)
      have C169 : CHr Z own_EL s.vm h0 s.vm h168 := C166.trans (CHr.wr W168 Sf167 C166.1)
      have Sf170 : Safe Z own_EL s.vm h168 ta := Safe.wr W168 Sf167 C166.1 Sf167
      have N168 := Fr.snoc X168 N165 ge_ta
      have V168 : Arv Z h168 ta k1 .char (6 : Int32) [(.int 116), (.int 114), (.int (nar .char (117 : Int32))), (.int d3), (.int d4), (.int d5)] (.int 0) := Arv.set Ar168 q168 S168 M168 H168 G168 (fits_nar_char _) W168 2 rfl (Nat.le_of_ble_eq_true rfl)
      refine Go.by st168 ?_
      show Go _ _ _ _ T168 (mkF m 144 #[iv p0, iv p1, iv p2, iv d0, iv d1, iv d2, iv d3, iv d4, iv d5, rv ta, un, iv 0, un, un, un] [])
      rw [own_ncb (t := (117 : Int32)) (⟨by decide, by decide⟩ : ¬ (117 : Int32) < 0 ∧ ¬ (255 : Int32) < (117 : Int32)).1 (⟨by decide, by decide⟩ : ¬ (117 : Int32) < 0 ∧ ¬ (255 : Int32) < (117 : Int32)).2] at V168
      refine Go.aload2 146 X168 hx (hb hby at_144) rfl rfl rfl ?_
      refine Go.iconst 147 X168 hx (3 : Int32) (hb hby at_146) (by decide) rfl ?_
      refine Go.bipush 149 X168 hx (101 : Int32) (hb hby at_147) (by decide) rfl ?_
      obtain ⟨cl171, Ar171, q171, S171, M171, H171, G171⟩ := id V168
      have hin171 : ¬ ((3 : Int32) < 0 ∨ cl171.slots.size ≤ (3 : Int32).toNatClampNeg) := inb_of S171 ⟨by decide, by decide⟩
      obtain ⟨T171, h171, X171, e171, W171, st171⟩ := stC X168 hx hZ e168 Ar171 (j := (3 : Int32)) hin171 (g := (mkF m 149 #[iv p0, iv p1, iv p2, iv d0, iv d1, iv d2, iv d3, iv d4, iv d5, rv ta, un, iv 0, un, un, un] [(.int 101), (.int 3), (.ref ta)])) rfl rfl (hb hby at_149)
      have C172 : CHr Z own_EL s.vm h0 s.vm h171 := C169.trans (CHr.wr W171 Sf170 C169.1)
      have Sf173 : Safe Z own_EL s.vm h171 ta := Safe.wr W171 Sf170 C169.1 Sf170
      have N171 := Fr.snoc X171 N168 ge_ta
      have V171 : Arv Z h171 ta k1 .char (6 : Int32) [(.int 116), (.int 114), (.int 117), (.int (nar .char (101 : Int32))), (.int d4), (.int d5)] (.int 0) := Arv.set Ar171 q171 S171 M171 H171 G171 (fits_nar_char _) W171 3 rfl (Nat.le_of_ble_eq_true rfl)
      refine Go.by st171 ?_
      show Go _ _ _ _ T171 (mkF m 150 #[iv p0, iv p1, iv p2, iv d0, iv d1, iv d2, iv d3, iv d4, iv d5, rv ta, un, iv 0, un, un, un] [])
      rw [own_ncb (t := (101 : Int32)) (⟨by decide, by decide⟩ : ¬ (101 : Int32) < 0 ∧ ¬ (255 : Int32) < (101 : Int32)).1 (⟨by decide, by decide⟩ : ¬ (101 : Int32) < 0 ∧ ¬ (255 : Int32) < (101 : Int32)).2] at V171
      refine Go.iconst 151 X171 hx (4 : Int32) (hb hby at_150) (by decide) rfl ?_
      refine Go.istore2 153 X171 hx (L' := #[iv p0, iv p1, iv p2, iv d0, iv d1, iv d2, iv d3, iv d4, iv d5, rv ta, un, iv 0, iv 4, un, un]) (hb hby at_151) rfl rfl ?_
      refine Go.goto 225 X171 hx (hb hby at_153) (by decide) (by decide) ?_
      refine Go.iload2 227 X171 hx (hb hby at_225) rfl rfl ?_
      refine Go.istore2 229 X171 hx (L' := #[iv p0, iv p1, iv p2, iv d0, iv d1, iv d2, iv d3, iv d4, iv d5, rv ta, iv 4, iv 0, iv 4, un, un]) (hb hby at_227) rfl rfl ?_
      refine Go.iload1 230 X171 hx (hb hby at_229) rfl rfl ?_
      refine Go.iconst 231 X171 hx (4 : Int32) (hb hby at_230) (by decide) rfl ?_
      refine Go.iushr 232 X171 hx (hb hby at_231) rfl ?_
      refine Go.iconst 233 X171 hx (3 : Int32) (hb hby at_232) (by decide) rfl ?_
      refine Go.iand 234 X171 hx (hb hby at_233) rfl ?_
      refine Go.istore2 236 X171 hx (L' := #[iv p0, iv p1, iv p2, iv d0, iv d1, iv d2, iv d3, iv d4, iv d5, rv ta, iv 4, iv 0, iv 4, iv ((XT.ushr p0 (4 : Int32)) &&& (3 : Int32)), un]) (hb hby at_234) rfl rfl ?_
      obtain ⟨ed, h_ed⟩ : ∃ z, z = ((XT.ushr p0 (4 : Int32)) &&& (3 : Int32)) := ⟨_, rfl⟩
      rw [← h_ed]
      show Go _ _ _ _ T171 (mkF m 236 #[iv p0, iv p1, iv p2, iv d0, iv d1, iv d2, iv d3, iv d4, iv d5, rv ta, iv 4, iv 0, iv 4, iv ed, un] [])
      rcases own_a3 (XT.ushr p0 4) with he | he | he | he
      · obtain rfl : ed = 0 := h_ed.trans he
        show Go _ _ _ _ T171 (mkF m 236 #[iv p0, iv p1, iv p2, iv d0, iv d1, iv d2, iv d3, iv d4, iv d5, rv ta, iv 4, iv 0, iv 4, iv 0, un] [])
        refine Go.iload2 238 X171 hx (hb hby at_236) rfl rfl ?_
        refine Go.iconst 239 X171 hx (1 : Int32) (hb hby at_238) (by decide) rfl ?_
        refine Go.icmpY 260 X171 hx (hb hby at_239) (XT.ii_ne_t (by decide)) (by decide) (by decide) ?_
        refine Go.iload2 262 X171 hx (hb hby at_260) rfl rfl ?_
        refine Go.iconst 263 X171 hx (2 : Int32) (hb hby at_262) (by decide) rfl ?_
        refine Go.icmpY 282 X171 hx (hb hby at_263) (XT.ii_ne_t (by decide)) (by decide) (by decide) ?_
        refine Go.iload2 284 X171 hx (hb hby at_282) rfl rfl ?_
        refine Go.iconst 285 X171 hx (3 : Int32) (hb hby at_284) (by decide) rfl ?_
        refine Go.icmpY 340 X171 hx (hb hby at_285) (XT.ii_ne_t (by decide)) (by decide) (by decide) ?_
        have F174 : n0 ≤ h1.size := Nat.le_trans Z0 E1.1
        have F175 : n0 ≤ h4.size := Nat.le_trans F174 (Nat.le_of_eq (Wr.size W4).symm)
        have F176 : n0 ≤ h7.size := Nat.le_trans F175 (Nat.le_of_eq (Wr.size W7).symm)
        have F177 : n0 ≤ h10.size := Nat.le_trans F176 (Nat.le_of_eq (Wr.size W10).symm)
        have F178 : n0 ≤ h13.size := Nat.le_trans F177 (Nat.le_of_eq (Wr.size W13).symm)
        have F179 : n0 ≤ h16.size := Nat.le_trans F178 (Nat.le_of_eq (Wr.size W16).symm)
        have F180 : n0 ≤ h19.size := Nat.le_trans F179 (Nat.le_of_eq (Wr.size W19).symm)
        have F181 : n0 ≤ h162.size := Nat.le_trans F180 (Nat.le_of_eq (Wr.size W162).symm)
        have F182 : n0 ≤ h165.size := Nat.le_trans F181 (Nat.le_of_eq (Wr.size W165).symm)
        have F183 : n0 ≤ h168.size := Nat.le_trans F182 (Nat.le_of_eq (Wr.size W168).symm)
        have F184 : n0 ≤ h171.size := Nat.le_trans F183 (Nat.le_of_eq (Wr.size W171).symm)
        have F185 : Old Z n0 h1 := O0.ext E1
        have F186 : Old Z n0 h4 := F185.wr W4 ge_ta
        have F187 : Old Z n0 h7 := F186.wr W7 ge_ta
        have F188 : Old Z n0 h10 := F187.wr W10 ge_ta
        have F189 : Old Z n0 h13 := F188.wr W13 ge_ta
        have F190 : Old Z n0 h16 := F189.wr W16 ge_ta
        have F191 : Old Z n0 h19 := F190.wr W19 ge_ta
        have F192 : Old Z n0 h162 := F191.wr W162 ge_ta
        have F193 : Old Z n0 h165 := F192.wr W165 ge_ta
        have F194 : Old Z n0 h168 := F193.wr W168 ge_ta
        have F195 : Old Z n0 h171 := F194.wr W171 ge_ta
        have F196 : s.heap.size ≤ h1.size := Nat.le_trans hk0 E1.1
        have F197 : s.heap.size ≤ h4.size := Nat.le_trans F196 (Nat.le_of_eq (Wr.size W4).symm)
        have F198 : s.heap.size ≤ h7.size := Nat.le_trans F197 (Nat.le_of_eq (Wr.size W7).symm)
        have F199 : s.heap.size ≤ h10.size := Nat.le_trans F198 (Nat.le_of_eq (Wr.size W10).symm)
        have F200 : s.heap.size ≤ h13.size := Nat.le_trans F199 (Nat.le_of_eq (Wr.size W13).symm)
        have F201 : s.heap.size ≤ h16.size := Nat.le_trans F200 (Nat.le_of_eq (Wr.size W16).symm)
        have F202 : s.heap.size ≤ h19.size := Nat.le_trans F201 (Nat.le_of_eq (Wr.size W19).symm)
        have F203 : s.heap.size ≤ h162.size := Nat.le_trans F202 (Nat.le_of_eq (Wr.size W162).symm)
        have F204 : s.heap.size ≤ h165.size := Nat.le_trans F203 (Nat.le_of_eq (Wr.size W165).symm)
        have F205 : s.heap.size ≤ h168.size := Nat.le_trans F204 (Nat.le_of_eq (Wr.size W168).symm)
        have F206 : s.heap.size ≤ h171.size := Nat.le_trans F205 (Nat.le_of_eq (Wr.size W171).symm)
        exact J22 _ _ _ (116 : Int32) (114 : Int32) (117 : Int32) (101 : Int32) d4 d5 (4 : Int32) (iv 0) (iv 4) (iv 0) X171 e171 N171 F184 F195 C172 F206 V171 (⟨by decide, by decide⟩) (⟨by decide, by decide⟩) (⟨by decide, by decide⟩) (⟨by decide, by decide⟩) q_d4 q_d5 (Or.inr (Or.inr (Or.inr (Or.inr (Or.inl rfl))))) (Or.inr ⟨_, rfl, rfl⟩) (Or.inr ⟨_, rfl, rfl⟩) (Or.inr ⟨_, rfl, rfl⟩)
      · obtain rfl : ed = 1 := h_ed.trans he
        show Go _ _ _ _ T171 (mkF m 236 #[iv p0, iv p1, iv p2, iv d0, iv d1, iv d2, iv d3, iv d4, iv d5, rv ta, iv 4, iv 0, iv 4, iv 1, un] [])
        refine Go.iload2 238 X171 hx (hb hby at_236) rfl rfl ?_
        refine Go.iconst 239 X171 hx (1 : Int32) (hb hby at_238) (by decide) rfl ?_
        refine Go.icmpN 242 X171 hx (hb hby at_239) (XT.ii_ne_f rfl) rfl ?_
        refine Go.aload2 244 X171 hx (hb hby at_242) rfl rfl rfl ?_
        refine Go.iload1 245 X171 hx (hb hby at_244) rfl rfl ?_
        refine Go.bipush 247 X171 hx (6 : Int32) (hb hby at_245) (by decide) rfl ?_
        refine Go.iushr 248 X171 hx (hb hby at_247) rfl ?_
        refine Go.bipush 250 X171 hx (7 : Int32) (hb hby at_248) (by decide) rfl ?_
        refine Go.iand 251 X171 hx (hb hby at_250) rfl ?_
        refine Go.iload2 253 X171 hx (hb hby at_251) rfl rfl ?_
        refine Go.irem 254 X171 hx (hb hby at_253) (by decide) rfl ?_
        refine Go.iload2 256 X171 hx (hb hby at_254) rfl rfl ?_
        obtain ⟨ix, h_ix⟩ : ∃ z, z = (((XT.ushr p0 (6 : Int32)) &&& (7 : Int32)) - ((XT.ushr p0 (6 : Int32)) &&& (7 : Int32)) / (4 : Int32) * (4 : Int32)) := ⟨_, rfl⟩
        rw [← h_ix]
        show Go _ _ _ _ T171 (mkF m 256 #[iv p0, iv p1, iv p2, iv d0, iv d1, iv d2, iv d3, iv d4, iv d5, rv ta, iv 4, iv 0, iv 4, iv 1, un] [(.int d5), (.int ix), (.ref ta)])
        rcases own_m4 h_ix with rfl | rfl | rfl | rfl
        · show Go _ _ _ _ T171 (mkF m 256 #[iv p0, iv p1, iv p2, iv d0, iv d1, iv d2, iv d3, iv d4, iv d5, rv ta, iv 4, iv 0, iv 4, iv 1, un] [(.int d5), (.int 0), (.ref ta)])
          obtain ⟨cl207, Ar207, q207, S207, M207, H207, G207⟩ := id V171
          have hin207 : ¬ ((0 : Int32) < 0 ∨ cl207.slots.size ≤ (0 : Int32).toNatClampNeg) := inb_of S207 ⟨by decide, by decide⟩
          obtain ⟨T207, h207, X207, e207, W207, st207⟩ := stC X171 hx hZ e171 Ar207 (j := (0 : Int32)) hin207 (g := (mkF m 256 #[iv p0, iv p1, iv p2, iv d0, iv d1, iv d2, iv d3, iv d4, iv d5, rv ta, iv 4, iv 0, iv 4, iv 1, un] [(.int d5), (.int 0), (.ref ta)])) rfl rfl (hb hby at_256)
          have C208 : CHr Z own_EL s.vm h0 s.vm h207 := C172.trans (CHr.wr W207 Sf173 C172.1)
          have Sf209 : Safe Z own_EL s.vm h207 ta := Safe.wr W207 Sf173 C172.1 Sf173
          have N207 := Fr.snoc X207 N171 ge_ta
          have V207 : Arv Z h207 ta k1 .char (6 : Int32) [(.int (nar .char d5)), (.int 114), (.int 117), (.int 101), (.int d4), (.int d5)] (.int 0) := Arv.set Ar207 q207 S207 M207 H207 G207 (fits_nar_char _) W207 0 rfl (Nat.le_of_ble_eq_true rfl)
          refine Go.by st207 ?_
          show Go _ _ _ _ T207 (mkF m 257 #[iv p0, iv p1, iv p2, iv d0, iv d1, iv d2, iv d3, iv d4, iv d5, rv ta, iv 4, iv 0, iv 4, iv 1, un] [])
          rw [own_ncb (t := d5) q_d5.1 q_d5.2] at V207
          refine Go.goto 340 X207 hx (hb hby at_257) (by decide) (by decide) ?_
          have F210 : n0 ≤ h1.size := Nat.le_trans Z0 E1.1
          have F211 : n0 ≤ h4.size := Nat.le_trans F210 (Nat.le_of_eq (Wr.size W4).symm)
          have F212 : n0 ≤ h7.size := Nat.le_trans F211 (Nat.le_of_eq (Wr.size W7).symm)
          have F213 : n0 ≤ h10.size := Nat.le_trans F212 (Nat.le_of_eq (Wr.size W10).symm)
          have F214 : n0 ≤ h13.size := Nat.le_trans F213 (Nat.le_of_eq (Wr.size W13).symm)
          have F215 : n0 ≤ h16.size := Nat.le_trans F214 (Nat.le_of_eq (Wr.size W16).symm)
          have F216 : n0 ≤ h19.size := Nat.le_trans F215 (Nat.le_of_eq (Wr.size W19).symm)
          have F217 : n0 ≤ h162.size := Nat.le_trans F216 (Nat.le_of_eq (Wr.size W162).symm)
          have F218 : n0 ≤ h165.size := Nat.le_trans F217 (Nat.le_of_eq (Wr.size W165).symm)
          have F219 : n0 ≤ h168.size := Nat.le_trans F218 (Nat.le_of_eq (Wr.size W168).symm)
          have F220 : n0 ≤ h171.size := Nat.le_trans F219 (Nat.le_of_eq (Wr.size W171).symm)
          have F221 : n0 ≤ h207.size := Nat.le_trans F220 (Nat.le_of_eq (Wr.size W207).symm)
          have F222 : Old Z n0 h1 := O0.ext E1
          have F223 : Old Z n0 h4 := F222.wr W4 ge_ta
          have F224 : Old Z n0 h7 := F223.wr W7 ge_ta
          have F225 : Old Z n0 h10 := F224.wr W10 ge_ta
          have F226 : Old Z n0 h13 := F225.wr W13 ge_ta
          have F227 : Old Z n0 h16 := F226.wr W16 ge_ta
          have F228 : Old Z n0 h19 := F227.wr W19 ge_ta
          have F229 : Old Z n0 h162 := F228.wr W162 ge_ta
          have F230 : Old Z n0 h165 := F229.wr W165 ge_ta
          have F231 : Old Z n0 h168 := F230.wr W168 ge_ta
          have F232 : Old Z n0 h171 := F231.wr W171 ge_ta
          have F233 : Old Z n0 h207 := F232.wr W207 ge_ta
          have F234 : s.heap.size ≤ h1.size := Nat.le_trans hk0 E1.1
          have F235 : s.heap.size ≤ h4.size := Nat.le_trans F234 (Nat.le_of_eq (Wr.size W4).symm)
          have F236 : s.heap.size ≤ h7.size := Nat.le_trans F235 (Nat.le_of_eq (Wr.size W7).symm)
          have F237 : s.heap.size ≤ h10.size := Nat.le_trans F236 (Nat.le_of_eq (Wr.size W10).symm)
          have F238 : s.heap.size ≤ h13.size := Nat.le_trans F237 (Nat.le_of_eq (Wr.size W13).symm)
          have F239 : s.heap.size ≤ h16.size := Nat.le_trans F238 (Nat.le_of_eq (Wr.size W16).symm)
          have F240 : s.heap.size ≤ h19.size := Nat.le_trans F239 (Nat.le_of_eq (Wr.size W19).symm)
          have F241 : s.heap.size ≤ h162.size := Nat.le_trans F240 (Nat.le_of_eq (Wr.size W162).symm)
          have F242 : s.heap.size ≤ h165.size := Nat.le_trans F241 (Nat.le_of_eq (Wr.size W165).symm)
          have F243 : s.heap.size ≤ h168.size := Nat.le_trans F242 (Nat.le_of_eq (Wr.size W168).symm)
          have F244 : s.heap.size ≤ h171.size := Nat.le_trans F243 (Nat.le_of_eq (Wr.size W171).symm)
          have F245 : s.heap.size ≤ h207.size := Nat.le_trans F244 (Nat.le_of_eq (Wr.size W207).symm)
          exact J22 _ _ _ d5 (114 : Int32) (117 : Int32) (101 : Int32) d4 d5 (4 : Int32) (iv 0) (iv 4) (iv 1) X207 e207 N207 F221 F233 C208 F245 V207 q_d5 (⟨by decide, by decide⟩) (⟨by decide, by decide⟩) (⟨by decide, by decide⟩) q_d4 q_d5 (Or.inr (Or.inr (Or.inr (Or.inr (Or.inl rfl))))) (Or.inr ⟨_, rfl, rfl⟩) (Or.inr ⟨_, rfl, rfl⟩) (Or.inr ⟨_, rfl, rfl⟩)
        · show Go _ _ _ _ T171 (mkF m 256 #[iv p0, iv p1, iv p2, iv d0, iv d1, iv d2, iv d3, iv d4, iv d5, rv ta, iv 4, iv 0, iv 4, iv 1, un] [(.int d5), (.int 1), (.ref ta)])
          obtain ⟨cl246, Ar246, q246, S246, M246, H246, G246⟩ := id V171
          have hin246 : ¬ ((1 : Int32) < 0 ∨ cl246.slots.size ≤ (1 : Int32).toNatClampNeg) := inb_of S246 ⟨by decide, by decide⟩
          obtain ⟨T246, h246, X246, e246, W246, st246⟩ := stC X171 hx hZ e171 Ar246 (j := (1 : Int32)) hin246 (g := (mkF m 256 #[iv p0, iv p1, iv p2, iv d0, iv d1, iv d2, iv d3, iv d4, iv d5, rv ta, iv 4, iv 0, iv 4, iv 1, un] [(.int d5), (.int 1), (.ref ta)])) rfl rfl (hb hby at_256)
          have C247 : CHr Z own_EL s.vm h0 s.vm h246 := C172.trans (CHr.wr W246 Sf173 C172.1)
          have Sf248 : Safe Z own_EL s.vm h246 ta := Safe.wr W246 Sf173 C172.1 Sf173
          have N246 := Fr.snoc X246 N171 ge_ta
          have V246 : Arv Z h246 ta k1 .char (6 : Int32) [(.int 116), (.int (nar .char d5)), (.int 117), (.int 101), (.int d4), (.int d5)] (.int 0) := Arv.set Ar246 q246 S246 M246 H246 G246 (fits_nar_char _) W246 1 rfl (Nat.le_of_ble_eq_true rfl)
          refine Go.by st246 ?_
          show Go _ _ _ _ T246 (mkF m 257 #[iv p0, iv p1, iv p2, iv d0, iv d1, iv d2, iv d3, iv d4, iv d5, rv ta, iv 4, iv 0, iv 4, iv 1, un] [])
          rw [own_ncb (t := d5) q_d5.1 q_d5.2] at V246
          refine Go.goto 340 X246 hx (hb hby at_257) (by decide) (by decide) ?_
          have F249 : n0 ≤ h1.size := Nat.le_trans Z0 E1.1
          have F250 : n0 ≤ h4.size := Nat.le_trans F249 (Nat.le_of_eq (Wr.size W4).symm)
          have F251 : n0 ≤ h7.size := Nat.le_trans F250 (Nat.le_of_eq (Wr.size W7).symm)
          have F252 : n0 ≤ h10.size := Nat.le_trans F251 (Nat.le_of_eq (Wr.size W10).symm)
          have F253 : n0 ≤ h13.size := Nat.le_trans F252 (Nat.le_of_eq (Wr.size W13).symm)
          have F254 : n0 ≤ h16.size := Nat.le_trans F253 (Nat.le_of_eq (Wr.size W16).symm)
          have F255 : n0 ≤ h19.size := Nat.le_trans F254 (Nat.le_of_eq (Wr.size W19).symm)
          have F256 : n0 ≤ h162.size := Nat.le_trans F255 (Nat.le_of_eq (Wr.size W162).symm)
          have F257 : n0 ≤ h165.size := Nat.le_trans F256 (Nat.le_of_eq (Wr.size W165).symm)
          have F258 : n0 ≤ h168.size := Nat.le_trans F257 (Nat.le_of_eq (Wr.size W168).symm)
          have F259 : n0 ≤ h171.size := Nat.le_trans F258 (Nat.le_of_eq (Wr.size W171).symm)
          have F260 : n0 ≤ h246.size := Nat.le_trans F259 (Nat.le_of_eq (Wr.size W246).symm)
          have F261 : Old Z n0 h1 := O0.ext E1
          have F262 : Old Z n0 h4 := F261.wr W4 ge_ta
          have F263 : Old Z n0 h7 := F262.wr W7 ge_ta
          have F264 : Old Z n0 h10 := F263.wr W10 ge_ta
          have F265 : Old Z n0 h13 := F264.wr W13 ge_ta
          have F266 : Old Z n0 h16 := F265.wr W16 ge_ta
          have F267 : Old Z n0 h19 := F266.wr W19 ge_ta
          have F268 : Old Z n0 h162 := F267.wr W162 ge_ta
          have F269 : Old Z n0 h165 := F268.wr W165 ge_ta
          have F270 : Old Z n0 h168 := F269.wr W168 ge_ta
          have F271 : Old Z n0 h171 := F270.wr W171 ge_ta
          have F272 : Old Z n0 h246 := F271.wr W246 ge_ta
          have F273 : s.heap.size ≤ h1.size := Nat.le_trans hk0 E1.1
          have F274 : s.heap.size ≤ h4.size := Nat.le_trans F273 (Nat.le_of_eq (Wr.size W4).symm)
          have F275 : s.heap.size ≤ h7.size := Nat.le_trans F274 (Nat.le_of_eq (Wr.size W7).symm)
          have F276 : s.heap.size ≤ h10.size := Nat.le_trans F275 (Nat.le_of_eq (Wr.size W10).symm)
          have F277 : s.heap.size ≤ h13.size := Nat.le_trans F276 (Nat.le_of_eq (Wr.size W13).symm)
          have F278 : s.heap.size ≤ h16.size := Nat.le_trans F277 (Nat.le_of_eq (Wr.size W16).symm)
          have F279 : s.heap.size ≤ h19.size := Nat.le_trans F278 (Nat.le_of_eq (Wr.size W19).symm)
          have F280 : s.heap.size ≤ h162.size := Nat.le_trans F279 (Nat.le_of_eq (Wr.size W162).symm)
          have F281 : s.heap.size ≤ h165.size := Nat.le_trans F280 (Nat.le_of_eq (Wr.size W165).symm)
          have F282 : s.heap.size ≤ h168.size := Nat.le_trans F281 (Nat.le_of_eq (Wr.size W168).symm)
          have F283 : s.heap.size ≤ h171.size := Nat.le_trans F282 (Nat.le_of_eq (Wr.size W171).symm)
          have F284 : s.heap.size ≤ h246.size := Nat.le_trans F283 (Nat.le_of_eq (Wr.size W246).symm)
          exact J22 _ _ _ (116 : Int32) d5 (117 : Int32) (101 : Int32) d4 d5 (4 : Int32) (iv 0) (iv 4) (iv 1) X246 e246 N246 F260 F272 C247 F284 V246 (⟨by decide, by decide⟩) q_d5 (⟨by decide, by decide⟩) (⟨by decide, by decide⟩) q_d4 q_d5 (Or.inr (Or.inr (Or.inr (Or.inr (Or.inl rfl))))) (Or.inr ⟨_, rfl, rfl⟩) (Or.inr ⟨_, rfl, rfl⟩) (Or.inr ⟨_, rfl, rfl⟩)
        · show Go _ _ _ _ T171 (mkF m 256 #[iv p0, iv p1, iv p2, iv d0, iv d1, iv d2, iv d3, iv d4, iv d5, rv ta, iv 4, iv 0, iv 4, iv 1, un] [(.int d5), (.int 2), (.ref ta)])
          obtain ⟨cl285, Ar285, q285, S285, M285, H285, G285⟩ := id V171
          have hin285 : ¬ ((2 : Int32) < 0 ∨ cl285.slots.size ≤ (2 : Int32).toNatClampNeg) := inb_of S285 ⟨by decide, by decide⟩
          obtain ⟨T285, h285, X285, e285, W285, st285⟩ := stC X171 hx hZ e171 Ar285 (j := (2 : Int32)) hin285 (g := (mkF m 256 #[iv p0, iv p1, iv p2, iv d0, iv d1, iv d2, iv d3, iv d4, iv d5, rv ta, iv 4, iv 0, iv 4, iv 1, un] [(.int d5), (.int 2), (.ref ta)])) rfl rfl (hb hby at_256)
          have C286 : CHr Z own_EL s.vm h0 s.vm h285 := C172.trans (CHr.wr W285 Sf173 C172.1)
          have Sf287 : Safe Z own_EL s.vm h285 ta := Safe.wr W285 Sf173 C172.1 Sf173
          have N285 := Fr.snoc X285 N171 ge_ta
          have V285 : Arv Z h285 ta k1 .char (6 : Int32) [(.int 116), (.int 114), (.int (nar .char d5)), (.int 101), (.int d4), (.int d5)] (.int 0) := Arv.set Ar285 q285 S285 M285 H285 G285 (fits_nar_char _) W285 2 rfl (Nat.le_of_ble_eq_true rfl)
          refine Go.by st285 ?_
          show Go _ _ _ _ T285 (mkF m 257 #[iv p0, iv p1, iv p2, iv d0, iv d1, iv d2, iv d3, iv d4, iv d5, rv ta, iv 4, iv 0, iv 4, iv 1, un] [])
          rw [own_ncb (t := d5) q_d5.1 q_d5.2] at V285
          refine Go.goto 340 X285 hx (hb hby at_257) (by decide) (by decide) ?_
          have F288 : n0 ≤ h1.size := Nat.le_trans Z0 E1.1
          have F289 : n0 ≤ h4.size := Nat.le_trans F288 (Nat.le_of_eq (Wr.size W4).symm)
          have F290 : n0 ≤ h7.size := Nat.le_trans F289 (Nat.le_of_eq (Wr.size W7).symm)
          have F291 : n0 ≤ h10.size := Nat.le_trans F290 (Nat.le_of_eq (Wr.size W10).symm)
          have F292 : n0 ≤ h13.size := Nat.le_trans F291 (Nat.le_of_eq (Wr.size W13).symm)
          have F293 : n0 ≤ h16.size := Nat.le_trans F292 (Nat.le_of_eq (Wr.size W16).symm)
          have F294 : n0 ≤ h19.size := Nat.le_trans F293 (Nat.le_of_eq (Wr.size W19).symm)
          have F295 : n0 ≤ h162.size := Nat.le_trans F294 (Nat.le_of_eq (Wr.size W162).symm)
          have F296 : n0 ≤ h165.size := Nat.le_trans F295 (Nat.le_of_eq (Wr.size W165).symm)
          have F297 : n0 ≤ h168.size := Nat.le_trans F296 (Nat.le_of_eq (Wr.size W168).symm)
          have F298 : n0 ≤ h171.size := Nat.le_trans F297 (Nat.le_of_eq (Wr.size W171).symm)
          have F299 : n0 ≤ h285.size := Nat.le_trans F298 (Nat.le_of_eq (Wr.size W285).symm)
          have F300 : Old Z n0 h1 := O0.ext E1
          have F301 : Old Z n0 h4 := F300.wr W4 ge_ta
          have F302 : Old Z n0 h7 := F301.wr W7 ge_ta
          have F303 : Old Z n0 h10 := F302.wr W10 ge_ta
          have F304 : Old Z n0 h13 := F303.wr W13 ge_ta
          have F305 : Old Z n0 h16 := F304.wr W16 ge_ta
          have F306 : Old Z n0 h19 := F305.wr W19 ge_ta
          have F307 : Old Z n0 h162 := F306.wr W162 ge_ta
          have F308 : Old Z n0 h165 := F307.wr W165 ge_ta
          have F309 : Old Z n0 h168 := F308.wr W168 ge_ta
          have F310 : Old Z n0 h171 := F309.wr W171 ge_ta
          have F311 : Old Z n0 h285 := F310.wr W285 ge_ta
          have F312 : s.heap.size ≤ h1.size := Nat.le_trans hk0 E1.1
          have F313 : s.heap.size ≤ h4.size := Nat.le_trans F312 (Nat.le_of_eq (Wr.size W4).symm)
          have F314 : s.heap.size ≤ h7.size := Nat.le_trans F313 (Nat.le_of_eq (Wr.size W7).symm)
          have F315 : s.heap.size ≤ h10.size := Nat.le_trans F314 (Nat.le_of_eq (Wr.size W10).symm)
          have F316 : s.heap.size ≤ h13.size := Nat.le_trans F315 (Nat.le_of_eq (Wr.size W13).symm)
          have F317 : s.heap.size ≤ h16.size := Nat.le_trans F316 (Nat.le_of_eq (Wr.size W16).symm)
          have F318 : s.heap.size ≤ h19.size := Nat.le_trans F317 (Nat.le_of_eq (Wr.size W19).symm)
          have F319 : s.heap.size ≤ h162.size := Nat.le_trans F318 (Nat.le_of_eq (Wr.size W162).symm)
          have F320 : s.heap.size ≤ h165.size := Nat.le_trans F319 (Nat.le_of_eq (Wr.size W165).symm)
          have F321 : s.heap.size ≤ h168.size := Nat.le_trans F320 (Nat.le_of_eq (Wr.size W168).symm)
          have F322 : s.heap.size ≤ h171.size := Nat.le_trans F321 (Nat.le_of_eq (Wr.size W171).symm)
          have F323 : s.heap.size ≤ h285.size := Nat.le_trans F322 (Nat.le_of_eq (Wr.size W285).symm)
          exact J22 _ _ _ (116 : Int32) (114 : Int32) d5 (101 : Int32) d4 d5 (4 : Int32) (iv 0) (iv 4) (iv 1) X285 e285 N285 F299 F311 C286 F323 V285 (⟨by decide, by decide⟩) (⟨by decide, by decide⟩) q_d5 (⟨by decide, by decide⟩) q_d4 q_d5 (Or.inr (Or.inr (Or.inr (Or.inr (Or.inl rfl))))) (Or.inr ⟨_, rfl, rfl⟩) (Or.inr ⟨_, rfl, rfl⟩) (Or.inr ⟨_, rfl, rfl⟩)
        · show Go _ _ _ _ T171 (mkF m 256 #[iv p0, iv p1, iv p2, iv d0, iv d1, iv d2, iv d3, iv d4, iv d5, rv ta, iv 4, iv 0, iv 4, iv 1, un] [(.int d5), (.int 3), (.ref ta)])
          obtain ⟨cl324, Ar324, q324, S324, M324, H324, G324⟩ := id V171
          have hin324 : ¬ ((3 : Int32) < 0 ∨ cl324.slots.size ≤ (3 : Int32).toNatClampNeg) := inb_of S324 ⟨by decide, by decide⟩
          obtain ⟨T324, h324, X324, e324, W324, st324⟩ := stC X171 hx hZ e171 Ar324 (j := (3 : Int32)) hin324 (g := (mkF m 256 #[iv p0, iv p1, iv p2, iv d0, iv d1, iv d2, iv d3, iv d4, iv d5, rv ta, iv 4, iv 0, iv 4, iv 1, un] [(.int d5), (.int 3), (.ref ta)])) rfl rfl (hb hby at_256)
          have C325 : CHr Z own_EL s.vm h0 s.vm h324 := C172.trans (CHr.wr W324 Sf173 C172.1)
          have Sf326 : Safe Z own_EL s.vm h324 ta := Safe.wr W324 Sf173 C172.1 Sf173
          have N324 := Fr.snoc X324 N171 ge_ta
          have V324 : Arv Z h324 ta k1 .char (6 : Int32) [(.int 116), (.int 114), (.int 117), (.int (nar .char d5)), (.int d4), (.int d5)] (.int 0) := Arv.set Ar324 q324 S324 M324 H324 G324 (fits_nar_char _) W324 3 rfl (Nat.le_of_ble_eq_true rfl)
          refine Go.by st324 ?_
          show Go _ _ _ _ T324 (mkF m 257 #[iv p0, iv p1, iv p2, iv d0, iv d1, iv d2, iv d3, iv d4, iv d5, rv ta, iv 4, iv 0, iv 4, iv 1, un] [])
          rw [own_ncb (t := d5) q_d5.1 q_d5.2] at V324
          refine Go.goto 340 X324 hx (hb hby at_257) (by decide) (by decide) ?_
          have F327 : n0 ≤ h1.size := Nat.le_trans Z0 E1.1
          have F328 : n0 ≤ h4.size := Nat.le_trans F327 (Nat.le_of_eq (Wr.size W4).symm)
          have F329 : n0 ≤ h7.size := Nat.le_trans F328 (Nat.le_of_eq (Wr.size W7).symm)
          have F330 : n0 ≤ h10.size := Nat.le_trans F329 (Nat.le_of_eq (Wr.size W10).symm)
          have F331 : n0 ≤ h13.size := Nat.le_trans F330 (Nat.le_of_eq (Wr.size W13).symm)
          have F332 : n0 ≤ h16.size := Nat.le_trans F331 (Nat.le_of_eq (Wr.size W16).symm)
          have F333 : n0 ≤ h19.size := Nat.le_trans F332 (Nat.le_of_eq (Wr.size W19).symm)
          have F334 : n0 ≤ h162.size := Nat.le_trans F333 (Nat.le_of_eq (Wr.size W162).symm)
          have F335 : n0 ≤ h165.size := Nat.le_trans F334 (Nat.le_of_eq (Wr.size W165).symm)
          have F336 : n0 ≤ h168.size := Nat.le_trans F335 (Nat.le_of_eq (Wr.size W168).symm)
          have F337 : n0 ≤ h171.size := Nat.le_trans F336 (Nat.le_of_eq (Wr.size W171).symm)
          have F338 : n0 ≤ h324.size := Nat.le_trans F337 (Nat.le_of_eq (Wr.size W324).symm)
          have F339 : Old Z n0 h1 := O0.ext E1
          have F340 : Old Z n0 h4 := F339.wr W4 ge_ta
          have F341 : Old Z n0 h7 := F340.wr W7 ge_ta
          have F342 : Old Z n0 h10 := F341.wr W10 ge_ta
          have F343 : Old Z n0 h13 := F342.wr W13 ge_ta
          have F344 : Old Z n0 h16 := F343.wr W16 ge_ta
          have F345 : Old Z n0 h19 := F344.wr W19 ge_ta
          have F346 : Old Z n0 h162 := F345.wr W162 ge_ta
          have F347 : Old Z n0 h165 := F346.wr W165 ge_ta
          have F348 : Old Z n0 h168 := F347.wr W168 ge_ta
          have F349 : Old Z n0 h171 := F348.wr W171 ge_ta
          have F350 : Old Z n0 h324 := F349.wr W324 ge_ta
          have F351 : s.heap.size ≤ h1.size := Nat.le_trans hk0 E1.1
          have F352 : s.heap.size ≤ h4.size := Nat.le_trans F351 (Nat.le_of_eq (Wr.size W4).symm)
          have F353 : s.heap.size ≤ h7.size := Nat.le_trans F352 (Nat.le_of_eq (Wr.size W7).symm)
          have F354 : s.heap.size ≤ h10.size := Nat.le_trans F353 (Nat.le_of_eq (Wr.size W10).symm)
          have F355 : s.heap.size ≤ h13.size := Nat.le_trans F354 (Nat.le_of_eq (Wr.size W13).symm)
          have F356 : s.heap.size ≤ h16.size := Nat.le_trans F355 (Nat.le_of_eq (Wr.size W16).symm)
          have F357 : s.heap.size ≤ h19.size := Nat.le_trans F356 (Nat.le_of_eq (Wr.size W19).symm)
          have F358 : s.heap.size ≤ h162.size := Nat.le_trans F357 (Nat.le_of_eq (Wr.size W162).symm)
          have F359 : s.heap.size ≤ h165.size := Nat.le_trans F358 (Nat.le_of_eq (Wr.size W165).symm)
          have F360 : s.heap.size ≤ h168.size := Nat.le_trans F359 (Nat.le_of_eq (Wr.size W168).symm)
          have F361 : s.heap.size ≤ h171.size := Nat.le_trans F360 (Nat.le_of_eq (Wr.size W171).symm)
          have F362 : s.heap.size ≤ h324.size := Nat.le_trans F361 (Nat.le_of_eq (Wr.size W324).symm)
          exact J22 _ _ _ (116 : Int32) (114 : Int32) (117 : Int32) d5 d4 d5 (4 : Int32) (iv 0) (iv 4) (iv 1) X324 e324 N324 F338 F350 C325 F362 V324 (⟨by decide, by decide⟩) (⟨by decide, by decide⟩) (⟨by decide, by decide⟩) q_d5 q_d4 q_d5 (Or.inr (Or.inr (Or.inr (Or.inr (Or.inl rfl))))) (Or.inr ⟨_, rfl, rfl⟩) (Or.inr ⟨_, rfl, rfl⟩) (Or.inr ⟨_, rfl, rfl⟩)
      · obtain rfl : ed = 2 := h_ed.trans he
        show Go _ _ _ _ T171 (mkF m 236 #[iv p0, iv p1, iv p2, iv d0, iv d1, iv d2, iv d3, iv d4, iv d5, rv ta, iv 4, iv 0, iv 4, iv 2, un] [])
        refine Go.iload2 238 X171 hx (hb hby at_236) rfl rfl ?_
        refine Go.iconst 239 X171 hx (1 : Int32) (hb hby at_238) (by decide) rfl ?_
        refine Go.icmpY 260 X171 hx (hb hby at_239) (XT.ii_ne_t (by decide)) (by decide) (by decide) ?_
        refine Go.iload2 262 X171 hx (hb hby at_260) rfl rfl ?_
        refine Go.iconst 263 X171 hx (2 : Int32) (hb hby at_262) (by decide) rfl ?_
        refine Go.icmpN 266 X171 hx (hb hby at_263) (XT.ii_ne_f rfl) rfl ?_
        refine Go.aload2 268 X171 hx (hb hby at_266) rfl rfl rfl ?_
        refine Go.iload2 270 X171 hx (hb hby at_268) rfl rfl ?_
        refine Go.iload2 272 X171 hx (hb hby at_270) rfl rfl ?_
        obtain ⟨cl363, Ar363, q363, S363, M363, H363, G363⟩ := id V171
        have hin363 : ¬ ((4 : Int32) < 0 ∨ cl363.slots.size ≤ (4 : Int32).toNatClampNeg) := inb_of S363 ⟨by decide, by decide⟩
        obtain ⟨T363, h363, X363, e363, W363, st363⟩ := stC X171 hx hZ e171 Ar363 (j := (4 : Int32)) hin363 (g := (mkF m 272 #[iv p0, iv p1, iv p2, iv d0, iv d1, iv d2, iv d3, iv d4, iv d5, rv ta, iv 4, iv 0, iv 4, iv 2, un] [(.int d5), (.int 4), (.ref ta)])) rfl rfl (hb hby at_272)
        have C364 : CHr Z own_EL s.vm h0 s.vm h363 := C172.trans (CHr.wr W363 Sf173 C172.1)
        have Sf365 : Safe Z own_EL s.vm h363 ta := Safe.wr W363 Sf173 C172.1 Sf173
        have N363 := Fr.snoc X363 N171 ge_ta
        have V363 : Arv Z h363 ta k1 .char (6 : Int32) [(.int 116), (.int 114), (.int 117), (.int 101), (.int (nar .char d5)), (.int d5)] (.int 0) := Arv.set Ar363 q363 S363 M363 H363 G363 (fits_nar_char _) W363 4 rfl (Nat.le_of_ble_eq_true rfl)
        refine Go.by st363 ?_
        show Go _ _ _ _ T363 (mkF m 273 #[iv p0, iv p1, iv p2, iv d0, iv d1, iv d2, iv d3, iv d4, iv d5, rv ta, iv 4, iv 0, iv 4, iv 2, un] [])
        rw [own_ncb (t := d5) q_d5.1 q_d5.2] at V363
        refine Go.iload2 275 X363 hx (hb hby at_273) rfl rfl ?_
        refine Go.iconst 276 X363 hx (1 : Int32) (hb hby at_275) (by decide) rfl ?_
        refine Go.iadd 277 X363 hx (hb hby at_276) rfl ?_
        rw [(by decide : ((4 : Int32) + (1 : Int32)) = (5 : Int32))]
        refine Go.istore2 279 X363 hx (L' := #[iv p0, iv p1, iv p2, iv d0, iv d1, iv d2, iv d3, iv d4, iv d5, rv ta, iv 5, iv 0, iv 4, iv 2, un]) (hb hby at_277) rfl rfl ?_
        refine Go.goto 340 X363 hx (hb hby at_279) (by decide) (by decide) ?_
        have F366 : n0 ≤ h1.size := Nat.le_trans Z0 E1.1
        have F367 : n0 ≤ h4.size := Nat.le_trans F366 (Nat.le_of_eq (Wr.size W4).symm)
        have F368 : n0 ≤ h7.size := Nat.le_trans F367 (Nat.le_of_eq (Wr.size W7).symm)
        have F369 : n0 ≤ h10.size := Nat.le_trans F368 (Nat.le_of_eq (Wr.size W10).symm)
        have F370 : n0 ≤ h13.size := Nat.le_trans F369 (Nat.le_of_eq (Wr.size W13).symm)
        have F371 : n0 ≤ h16.size := Nat.le_trans F370 (Nat.le_of_eq (Wr.size W16).symm)
        have F372 : n0 ≤ h19.size := Nat.le_trans F371 (Nat.le_of_eq (Wr.size W19).symm)
        have F373 : n0 ≤ h162.size := Nat.le_trans F372 (Nat.le_of_eq (Wr.size W162).symm)
        have F374 : n0 ≤ h165.size := Nat.le_trans F373 (Nat.le_of_eq (Wr.size W165).symm)
        have F375 : n0 ≤ h168.size := Nat.le_trans F374 (Nat.le_of_eq (Wr.size W168).symm)
        have F376 : n0 ≤ h171.size := Nat.le_trans F375 (Nat.le_of_eq (Wr.size W171).symm)
        have F377 : n0 ≤ h363.size := Nat.le_trans F376 (Nat.le_of_eq (Wr.size W363).symm)
        have F378 : Old Z n0 h1 := O0.ext E1
        have F379 : Old Z n0 h4 := F378.wr W4 ge_ta
        have F380 : Old Z n0 h7 := F379.wr W7 ge_ta
        have F381 : Old Z n0 h10 := F380.wr W10 ge_ta
        have F382 : Old Z n0 h13 := F381.wr W13 ge_ta
        have F383 : Old Z n0 h16 := F382.wr W16 ge_ta
        have F384 : Old Z n0 h19 := F383.wr W19 ge_ta
        have F385 : Old Z n0 h162 := F384.wr W162 ge_ta
        have F386 : Old Z n0 h165 := F385.wr W165 ge_ta
        have F387 : Old Z n0 h168 := F386.wr W168 ge_ta
        have F388 : Old Z n0 h171 := F387.wr W171 ge_ta
        have F389 : Old Z n0 h363 := F388.wr W363 ge_ta
        have F390 : s.heap.size ≤ h1.size := Nat.le_trans hk0 E1.1
        have F391 : s.heap.size ≤ h4.size := Nat.le_trans F390 (Nat.le_of_eq (Wr.size W4).symm)
        have F392 : s.heap.size ≤ h7.size := Nat.le_trans F391 (Nat.le_of_eq (Wr.size W7).symm)
        have F393 : s.heap.size ≤ h10.size := Nat.le_trans F392 (Nat.le_of_eq (Wr.size W10).symm)
        have F394 : s.heap.size ≤ h13.size := Nat.le_trans F393 (Nat.le_of_eq (Wr.size W13).symm)
        have F395 : s.heap.size ≤ h16.size := Nat.le_trans F394 (Nat.le_of_eq (Wr.size W16).symm)
        have F396 : s.heap.size ≤ h19.size := Nat.le_trans F395 (Nat.le_of_eq (Wr.size W19).symm)
        have F397 : s.heap.size ≤ h162.size := Nat.le_trans F396 (Nat.le_of_eq (Wr.size W162).symm)
        have F398 : s.heap.size ≤ h165.size := Nat.le_trans F397 (Nat.le_of_eq (Wr.size W165).symm)
        have F399 : s.heap.size ≤ h168.size := Nat.le_trans F398 (Nat.le_of_eq (Wr.size W168).symm)
        have F400 : s.heap.size ≤ h171.size := Nat.le_trans F399 (Nat.le_of_eq (Wr.size W171).symm)
        have F401 : s.heap.size ≤ h363.size := Nat.le_trans F400 (Nat.le_of_eq (Wr.size W363).symm)
        exact J22 _ _ _ (116 : Int32) (114 : Int32) (117 : Int32) (101 : Int32) d5 d5 (5 : Int32) (iv 0) (iv 4) (iv 2) X363 e363 N363 F377 F389 C364 F401 V363 (⟨by decide, by decide⟩) (⟨by decide, by decide⟩) (⟨by decide, by decide⟩) (⟨by decide, by decide⟩) q_d5 q_d5 (Or.inr (Or.inr (Or.inr (Or.inr (Or.inr (Or.inl rfl)))))) (Or.inr ⟨_, rfl, rfl⟩) (Or.inr ⟨_, rfl, rfl⟩) (Or.inr ⟨_, rfl, rfl⟩)
      · obtain rfl : ed = 3 := h_ed.trans he
        show Go _ _ _ _ T171 (mkF m 236 #[iv p0, iv p1, iv p2, iv d0, iv d1, iv d2, iv d3, iv d4, iv d5, rv ta, iv 4, iv 0, iv 4, iv 3, un] [])
        refine Go.iload2 238 X171 hx (hb hby at_236) rfl rfl ?_
        refine Go.iconst 239 X171 hx (1 : Int32) (hb hby at_238) (by decide) rfl ?_
        refine Go.icmpY 260 X171 hx (hb hby at_239) (XT.ii_ne_t (by decide)) (by decide) (by decide) ?_
        refine Go.iload2 262 X171 hx (hb hby at_260) rfl rfl ?_
        refine Go.iconst 263 X171 hx (2 : Int32) (hb hby at_262) (by decide) rfl ?_
        refine Go.icmpY 282 X171 hx (hb hby at_263) (XT.ii_ne_t (by decide)) (by decide) (by decide) ?_
        refine Go.iload2 284 X171 hx (hb hby at_282) rfl rfl ?_
        refine Go.iconst 285 X171 hx (3 : Int32) (hb hby at_284) (by decide) rfl ?_
        refine Go.icmpN 288 X171 hx (hb hby at_285) (XT.ii_ne_f rfl) rfl ?_
        refine Go.aload2 290 X171 hx (hb hby at_288) rfl rfl rfl ?_
        refine Go.iconst 291 X171 hx (5 : Int32) (hb hby at_290) (by decide) rfl ?_
        refine Go.aload2 293 X171 hx (hb hby at_291) rfl rfl rfl ?_
        refine Go.iconst 294 X171 hx (4 : Int32) (hb hby at_293) (by decide) rfl ?_
        obtain ⟨cl402, Ar402, -, S402, M402, H402, -⟩ := id V171
        have hin402 : ¬ ((4 : Int32) < 0 ∨ cl402.slots.size ≤ (4 : Int32).toNatClampNeg) := inb_of S402 ⟨by decide, by decide⟩
        refine Go.by (fun _ gk => X171.caload hx (j := (4 : Int32)) (v := (.int d4)) (by rw [e171]; exact Ar402.1) (State.isArrayOf_alike hZ.alike Ar402.2.1) Ar402.2.2 hin402 (Has.at H402 hin402 rfl) (g := (mkF m 294 #[iv p0, iv p1, iv p2, iv d0, iv d1, iv d2, iv d3, iv d4, iv d5, rv ta, iv 4, iv 0, iv 4, iv 3, un] [(.int 4), (.ref ta), (.int 5), (.ref ta)])) rfl rfl (hb hby at_294) _ gk) ?_
        show Go _ _ _ _ T171 (mkF m 295 #[iv p0, iv p1, iv p2, iv d0, iv d1, iv d2, iv d3, iv d4, iv d5, rv ta, iv 4, iv 0, iv 4, iv 3, un] [(.int d4), (.int 5), (.ref ta)])
        obtain ⟨cl403, Ar403, q403, S403, M403, H403, G403⟩ := id V171
        have hin403 : ¬ ((5 : Int32) < 0 ∨ cl403.slots.size ≤ (5 : Int32).toNatClampNeg) := inb_of S403 ⟨by decide, by decide⟩
        obtain ⟨T403, h403, X403, e403, W403, st403⟩ := stC X171 hx hZ e171 Ar403 (j := (5 : Int32)) hin403 (g := (mkF m 295 #[iv p0, iv p1, iv p2, iv d0, iv d1, iv d2, iv d3, iv d4, iv d5, rv ta, iv 4, iv 0, iv 4, iv 3, un] [(.int d4), (.int 5), (.ref ta)])) rfl rfl (hb hby at_295)
        have C404 : CHr Z own_EL s.vm h0 s.vm h403 := C172.trans (CHr.wr W403 Sf173 C172.1)
        have Sf405 : Safe Z own_EL s.vm h403 ta := Safe.wr W403 Sf173 C172.1 Sf173
        have N403 := Fr.snoc X403 N171 ge_ta
        have V403 : Arv Z h403 ta k1 .char (6 : Int32) [(.int 116), (.int 114), (.int 117), (.int 101), (.int d4), (.int (nar .char d4))] (.int 0) := Arv.set Ar403 q403 S403 M403 H403 G403 (fits_nar_char _) W403 5 rfl (Nat.le_of_ble_eq_true rfl)
        refine Go.by st403 ?_
        show Go _ _ _ _ T403 (mkF m 296 #[iv p0, iv p1, iv p2, iv d0, iv d1, iv d2, iv d3, iv d4, iv d5, rv ta, iv 4, iv 0, iv 4, iv 3, un] [])
        rw [own_ncb (t := d4) q_d4.1 q_d4.2] at V403
        refine Go.aload2 298 X403 hx (hb hby at_296) rfl rfl rfl ?_
        refine Go.iconst 299 X403 hx (4 : Int32) (hb hby at_298) (by decide) rfl ?_
        refine Go.aload2 301 X403 hx (hb hby at_299) rfl rfl rfl ?_
        refine Go.iconst 302 X403 hx (3 : Int32) (hb hby at_301) (by decide) rfl ?_
        obtain ⟨cl406, Ar406, -, S406, M406, H406, -⟩ := id V403
        have hin406 : ¬ ((3 : Int32) < 0 ∨ cl406.slots.size ≤ (3 : Int32).toNatClampNeg) := inb_of S406 ⟨by decide, by decide⟩
        refine Go.by (fun _ gk => X403.caload hx (j := (3 : Int32)) (v := (.int 101)) (by rw [e403]; exact Ar406.1) (State.isArrayOf_alike hZ.alike Ar406.2.1) Ar406.2.2 hin406 (Has.at H406 hin406 rfl) (g := (mkF m 302 #[iv p0, iv p1, iv p2, iv d0, iv d1, iv d2, iv d3, iv d4, iv d5, rv ta, iv 4, iv 0, iv 4, iv 3, un] [(.int 3), (.ref ta), (.int 4), (.ref ta)])) rfl rfl (hb hby at_302) _ gk) ?_
        show Go _ _ _ _ T403 (mkF m 303 #[iv p0, iv p1, iv p2, iv d0, iv d1, iv d2, iv d3, iv d4, iv d5, rv ta, iv 4, iv 0, iv 4, iv 3, un] [(.int 101), (.int 4), (.ref ta)])
        obtain ⟨cl407, Ar407, q407, S407, M407, H407, G407⟩ := id V403
        have hin407 : ¬ ((4 : Int32) < 0 ∨ cl407.slots.size ≤ (4 : Int32).toNatClampNeg) := inb_of S407 ⟨by decide, by decide⟩
        obtain ⟨T407, h407, X407, e407, W407, st407⟩ := stC X403 hx hZ e403 Ar407 (j := (4 : Int32)) hin407 (g := (mkF m 303 #[iv p0, iv p1, iv p2, iv d0, iv d1, iv d2, iv d3, iv d4, iv d5, rv ta, iv 4, iv 0, iv 4, iv 3, un] [(.int 101), (.int 4), (.ref ta)])) rfl rfl (hb hby at_303)
        have C408 : CHr Z own_EL s.vm h0 s.vm h407 := C404.trans (CHr.wr W407 Sf405 C404.1)
        have Sf409 : Safe Z own_EL s.vm h407 ta := Safe.wr W407 Sf405 C404.1 Sf405
        have N407 := Fr.snoc X407 N403 ge_ta
        have V407 : Arv Z h407 ta k1 .char (6 : Int32) [(.int 116), (.int 114), (.int 117), (.int 101), (.int (nar .char (101 : Int32))), (.int d4)] (.int 0) := Arv.set Ar407 q407 S407 M407 H407 G407 (fits_nar_char _) W407 4 rfl (Nat.le_of_ble_eq_true rfl)
        refine Go.by st407 ?_
        show Go _ _ _ _ T407 (mkF m 304 #[iv p0, iv p1, iv p2, iv d0, iv d1, iv d2, iv d3, iv d4, iv d5, rv ta, iv 4, iv 0, iv 4, iv 3, un] [])
        rw [own_ncb (t := (101 : Int32)) (⟨by decide, by decide⟩ : ¬ (101 : Int32) < 0 ∧ ¬ (255 : Int32) < (101 : Int32)).1 (⟨by decide, by decide⟩ : ¬ (101 : Int32) < 0 ∧ ¬ (255 : Int32) < (101 : Int32)).2] at V407
        refine Go.aload2 306 X407 hx (hb hby at_304) rfl rfl rfl ?_
        refine Go.iconst 307 X407 hx (3 : Int32) (hb hby at_306) (by decide) rfl ?_
        refine Go.aload2 309 X407 hx (hb hby at_307) rfl rfl rfl ?_
        refine Go.iconst 310 X407 hx (2 : Int32) (hb hby at_309) (by decide) rfl ?_
        obtain ⟨cl410, Ar410, -, S410, M410, H410, -⟩ := id V407
        have hin410 : ¬ ((2 : Int32) < 0 ∨ cl410.slots.size ≤ (2 : Int32).toNatClampNeg) := inb_of S410 ⟨by decide, by decide⟩
        refine Go.by (fun _ gk => X407.caload hx (j := (2 : Int32)) (v := (.int 117)) (by rw [e407]; exact Ar410.1) (State.isArrayOf_alike hZ.alike Ar410.2.1) Ar410.2.2 hin410 (Has.at H410 hin410 rfl) (g := (mkF m 310 #[iv p0, iv p1, iv p2, iv d0, iv d1, iv d2, iv d3, iv d4, iv d5, rv ta, iv 4, iv 0, iv 4, iv 3, un] [(.int 2), (.ref ta), (.int 3), (.ref ta)])) rfl rfl (hb hby at_310) _ gk) ?_
        show Go _ _ _ _ T407 (mkF m 311 #[iv p0, iv p1, iv p2, iv d0, iv d1, iv d2, iv d3, iv d4, iv d5, rv ta, iv 4, iv 0, iv 4, iv 3, un] [(.int 117), (.int 3), (.ref ta)])
        obtain ⟨cl411, Ar411, q411, S411, M411, H411, G411⟩ := id V407
        have hin411 : ¬ ((3 : Int32) < 0 ∨ cl411.slots.size ≤ (3 : Int32).toNatClampNeg) := inb_of S411 ⟨by decide, by decide⟩
        obtain ⟨T411, h411, X411, e411, W411, st411⟩ := stC X407 hx hZ e407 Ar411 (j := (3 : Int32)) hin411 (g := (mkF m 311 #[iv p0, iv p1, iv p2, iv d0, iv d1, iv d2, iv d3, iv d4, iv d5, rv ta, iv 4, iv 0, iv 4, iv 3, un] [(.int 117), (.int 3), (.ref ta)])) rfl rfl (hb hby at_311)
        have C412 : CHr Z own_EL s.vm h0 s.vm h411 := C408.trans (CHr.wr W411 Sf409 C408.1)
        have Sf413 : Safe Z own_EL s.vm h411 ta := Safe.wr W411 Sf409 C408.1 Sf409
        have N411 := Fr.snoc X411 N407 ge_ta
        have V411 : Arv Z h411 ta k1 .char (6 : Int32) [(.int 116), (.int 114), (.int 117), (.int (nar .char (117 : Int32))), (.int 101), (.int d4)] (.int 0) := Arv.set Ar411 q411 S411 M411 H411 G411 (fits_nar_char _) W411 3 rfl (Nat.le_of_ble_eq_true rfl)
        refine Go.by st411 ?_
        show Go _ _ _ _ T411 (mkF m 312 #[iv p0, iv p1, iv p2, iv d0, iv d1, iv d2, iv d3, iv d4, iv d5, rv ta, iv 4, iv 0, iv 4, iv 3, un] [])
        rw [own_ncb (t := (117 : Int32)) (⟨by decide, by decide⟩ : ¬ (117 : Int32) < 0 ∧ ¬ (255 : Int32) < (117 : Int32)).1 (⟨by decide, by decide⟩ : ¬ (117 : Int32) < 0 ∧ ¬ (255 : Int32) < (117 : Int32)).2] at V411
        refine Go.aload2 314 X411 hx (hb hby at_312) rfl rfl rfl ?_
        refine Go.iconst 315 X411 hx (2 : Int32) (hb hby at_314) (by decide) rfl ?_
        refine Go.aload2 317 X411 hx (hb hby at_315) rfl rfl rfl ?_
        refine Go.iconst 318 X411 hx (1 : Int32) (hb hby at_317) (by decide) rfl ?_
        obtain ⟨cl414, Ar414, -, S414, M414, H414, -⟩ := id V411
        have hin414 : ¬ ((1 : Int32) < 0 ∨ cl414.slots.size ≤ (1 : Int32).toNatClampNeg) := inb_of S414 ⟨by decide, by decide⟩
        refine Go.by (fun _ gk => X411.caload hx (j := (1 : Int32)) (v := (.int 114)) (by rw [e411]; exact Ar414.1) (State.isArrayOf_alike hZ.alike Ar414.2.1) Ar414.2.2 hin414 (Has.at H414 hin414 rfl) (g := (mkF m 318 #[iv p0, iv p1, iv p2, iv d0, iv d1, iv d2, iv d3, iv d4, iv d5, rv ta, iv 4, iv 0, iv 4, iv 3, un] [(.int 1), (.ref ta), (.int 2), (.ref ta)])) rfl rfl (hb hby at_318) _ gk) ?_
        show Go _ _ _ _ T411 (mkF m 319 #[iv p0, iv p1, iv p2, iv d0, iv d1, iv d2, iv d3, iv d4, iv d5, rv ta, iv 4, iv 0, iv 4, iv 3, un] [(.int 114), (.int 2), (.ref ta)])
        obtain ⟨cl415, Ar415, q415, S415, M415, H415, G415⟩ := id V411
        have hin415 : ¬ ((2 : Int32) < 0 ∨ cl415.slots.size ≤ (2 : Int32).toNatClampNeg) := inb_of S415 ⟨by decide, by decide⟩
        obtain ⟨T415, h415, X415, e415, W415, st415⟩ := stC X411 hx hZ e411 Ar415 (j := (2 : Int32)) hin415 (g := (mkF m 319 #[iv p0, iv p1, iv p2, iv d0, iv d1, iv d2, iv d3, iv d4, iv d5, rv ta, iv 4, iv 0, iv 4, iv 3, un] [(.int 114), (.int 2), (.ref ta)])) rfl rfl (hb hby at_319)
        have C416 : CHr Z own_EL s.vm h0 s.vm h415 := C412.trans (CHr.wr W415 Sf413 C412.1)
        have Sf417 : Safe Z own_EL s.vm h415 ta := Safe.wr W415 Sf413 C412.1 Sf413
        have N415 := Fr.snoc X415 N411 ge_ta
        have V415 : Arv Z h415 ta k1 .char (6 : Int32) [(.int 116), (.int 114), (.int (nar .char (114 : Int32))), (.int 117), (.int 101), (.int d4)] (.int 0) := Arv.set Ar415 q415 S415 M415 H415 G415 (fits_nar_char _) W415 2 rfl (Nat.le_of_ble_eq_true rfl)
        refine Go.by st415 ?_
        show Go _ _ _ _ T415 (mkF m 320 #[iv p0, iv p1, iv p2, iv d0, iv d1, iv d2, iv d3, iv d4, iv d5, rv ta, iv 4, iv 0, iv 4, iv 3, un] [])
        rw [own_ncb (t := (114 : Int32)) (⟨by decide, by decide⟩ : ¬ (114 : Int32) < 0 ∧ ¬ (255 : Int32) < (114 : Int32)).1 (⟨by decide, by decide⟩ : ¬ (114 : Int32) < 0 ∧ ¬ (255 : Int32) < (114 : Int32)).2] at V415
        refine Go.aload2 322 X415 hx (hb hby at_320) rfl rfl rfl ?_
        refine Go.iconst 323 X415 hx (1 : Int32) (hb hby at_322) (by decide) rfl ?_
        refine Go.aload2 325 X415 hx (hb hby at_323) rfl rfl rfl ?_
        refine Go.iconst 326 X415 hx (0 : Int32) (hb hby at_325) (by decide) rfl ?_
        obtain ⟨cl418, Ar418, -, S418, M418, H418, -⟩ := id V415
        have hin418 : ¬ ((0 : Int32) < 0 ∨ cl418.slots.size ≤ (0 : Int32).toNatClampNeg) := inb_of S418 ⟨by decide, by decide⟩
        refine Go.by (fun _ gk => X415.caload hx (j := (0 : Int32)) (v := (.int 116)) (by rw [e415]; exact Ar418.1) (State.isArrayOf_alike hZ.alike Ar418.2.1) Ar418.2.2 hin418 (Has.at H418 hin418 rfl) (g := (mkF m 326 #[iv p0, iv p1, iv p2, iv d0, iv d1, iv d2, iv d3, iv d4, iv d5, rv ta, iv 4, iv 0, iv 4, iv 3, un] [(.int 0), (.ref ta), (.int 1), (.ref ta)])) rfl rfl (hb hby at_326) _ gk) ?_
        show Go _ _ _ _ T415 (mkF m 327 #[iv p0, iv p1, iv p2, iv d0, iv d1, iv d2, iv d3, iv d4, iv d5, rv ta, iv 4, iv 0, iv 4, iv 3, un] [(.int 116), (.int 1), (.ref ta)])
        obtain ⟨cl419, Ar419, q419, S419, M419, H419, G419⟩ := id V415
        have hin419 : ¬ ((1 : Int32) < 0 ∨ cl419.slots.size ≤ (1 : Int32).toNatClampNeg) := inb_of S419 ⟨by decide, by decide⟩
        obtain ⟨T419, h419, X419, e419, W419, st419⟩ := stC X415 hx hZ e415 Ar419 (j := (1 : Int32)) hin419 (g := (mkF m 327 #[iv p0, iv p1, iv p2, iv d0, iv d1, iv d2, iv d3, iv d4, iv d5, rv ta, iv 4, iv 0, iv 4, iv 3, un] [(.int 116), (.int 1), (.ref ta)])) rfl rfl (hb hby at_327)
        have C420 : CHr Z own_EL s.vm h0 s.vm h419 := C416.trans (CHr.wr W419 Sf417 C416.1)
        have Sf421 : Safe Z own_EL s.vm h419 ta := Safe.wr W419 Sf417 C416.1 Sf417
        have N419 := Fr.snoc X419 N415 ge_ta
        have V419 : Arv Z h419 ta k1 .char (6 : Int32) [(.int 116), (.int (nar .char (116 : Int32))), (.int 114), (.int 117), (.int 101), (.int d4)] (.int 0) := Arv.set Ar419 q419 S419 M419 H419 G419 (fits_nar_char _) W419 1 rfl (Nat.le_of_ble_eq_true rfl)
        refine Go.by st419 ?_
        show Go _ _ _ _ T419 (mkF m 328 #[iv p0, iv p1, iv p2, iv d0, iv d1, iv d2, iv d3, iv d4, iv d5, rv ta, iv 4, iv 0, iv 4, iv 3, un] [])
        rw [own_ncb (t := (116 : Int32)) (⟨by decide, by decide⟩ : ¬ (116 : Int32) < 0 ∧ ¬ (255 : Int32) < (116 : Int32)).1 (⟨by decide, by decide⟩ : ¬ (116 : Int32) < 0 ∧ ¬ (255 : Int32) < (116 : Int32)).2] at V419
        refine Go.aload2 330 X419 hx (hb hby at_328) rfl rfl rfl ?_
        refine Go.iconst 331 X419 hx (0 : Int32) (hb hby at_330) (by decide) rfl ?_
        refine Go.iload2 333 X419 hx (hb hby at_331) rfl rfl ?_
        obtain ⟨cl422, Ar422, q422, S422, M422, H422, G422⟩ := id V419
        have hin422 : ¬ ((0 : Int32) < 0 ∨ cl422.slots.size ≤ (0 : Int32).toNatClampNeg) := inb_of S422 ⟨by decide, by decide⟩
        obtain ⟨T422, h422, X422, e422, W422, st422⟩ := stC X419 hx hZ e419 Ar422 (j := (0 : Int32)) hin422 (g := (mkF m 333 #[iv p0, iv p1, iv p2, iv d0, iv d1, iv d2, iv d3, iv d4, iv d5, rv ta, iv 4, iv 0, iv 4, iv 3, un] [(.int d5), (.int 0), (.ref ta)])) rfl rfl (hb hby at_333)
        have C423 : CHr Z own_EL s.vm h0 s.vm h422 := C420.trans (CHr.wr W422 Sf421 C420.1)
        have Sf424 : Safe Z own_EL s.vm h422 ta := Safe.wr W422 Sf421 C420.1 Sf421
        have N422 := Fr.snoc X422 N419 ge_ta
        have V422 : Arv Z h422 ta k1 .char (6 : Int32) [(.int (nar .char d5)), (.int 116), (.int 114), (.int 117), (.int 101), (.int d4)] (.int 0) := Arv.set Ar422 q422 S422 M422 H422 G422 (fits_nar_char _) W422 0 rfl (Nat.le_of_ble_eq_true rfl)
        refine Go.by st422 ?_
        show Go _ _ _ _ T422 (mkF m 334 #[iv p0, iv p1, iv p2, iv d0, iv d1, iv d2, iv d3, iv d4, iv d5, rv ta, iv 4, iv 0, iv 4, iv 3, un] [])
        rw [own_ncb (t := d5) q_d5.1 q_d5.2] at V422
        refine Go.iload2 336 X422 hx (hb hby at_334) rfl rfl ?_
        refine Go.iconst 337 X422 hx (1 : Int32) (hb hby at_336) (by decide) rfl ?_
        refine Go.iadd 338 X422 hx (hb hby at_337) rfl ?_
        rw [(by decide : ((4 : Int32) + (1 : Int32)) = (5 : Int32))]
        refine Go.istore2 340 X422 hx (L' := #[iv p0, iv p1, iv p2, iv d0, iv d1, iv d2, iv d3, iv d4, iv d5, rv ta, iv 5, iv 0, iv 4, iv 3, un]) (hb hby at_338) rfl rfl ?_
        have F425 : n0 ≤ h1.size := Nat.le_trans Z0 E1.1
        have F426 : n0 ≤ h4.size := Nat.le_trans F425 (Nat.le_of_eq (Wr.size W4).symm)
        have F427 : n0 ≤ h7.size := Nat.le_trans F426 (Nat.le_of_eq (Wr.size W7).symm)
        have F428 : n0 ≤ h10.size := Nat.le_trans F427 (Nat.le_of_eq (Wr.size W10).symm)
        have F429 : n0 ≤ h13.size := Nat.le_trans F428 (Nat.le_of_eq (Wr.size W13).symm)
        have F430 : n0 ≤ h16.size := Nat.le_trans F429 (Nat.le_of_eq (Wr.size W16).symm)
        have F431 : n0 ≤ h19.size := Nat.le_trans F430 (Nat.le_of_eq (Wr.size W19).symm)
        have F432 : n0 ≤ h162.size := Nat.le_trans F431 (Nat.le_of_eq (Wr.size W162).symm)
        have F433 : n0 ≤ h165.size := Nat.le_trans F432 (Nat.le_of_eq (Wr.size W165).symm)
        have F434 : n0 ≤ h168.size := Nat.le_trans F433 (Nat.le_of_eq (Wr.size W168).symm)
        have F435 : n0 ≤ h171.size := Nat.le_trans F434 (Nat.le_of_eq (Wr.size W171).symm)
        have F436 : n0 ≤ h403.size := Nat.le_trans F435 (Nat.le_of_eq (Wr.size W403).symm)
        have F437 : n0 ≤ h407.size := Nat.le_trans F436 (Nat.le_of_eq (Wr.size W407).symm)
        have F438 : n0 ≤ h411.size := Nat.le_trans F437 (Nat.le_of_eq (Wr.size W411).symm)
        have F439 : n0 ≤ h415.size := Nat.le_trans F438 (Nat.le_of_eq (Wr.size W415).symm)
        have F440 : n0 ≤ h419.size := Nat.le_trans F439 (Nat.le_of_eq (Wr.size W419).symm)
        have F441 : n0 ≤ h422.size := Nat.le_trans F440 (Nat.le_of_eq (Wr.size W422).symm)
        have F442 : Old Z n0 h1 := O0.ext E1
        have F443 : Old Z n0 h4 := F442.wr W4 ge_ta
        have F444 : Old Z n0 h7 := F443.wr W7 ge_ta
        have F445 : Old Z n0 h10 := F444.wr W10 ge_ta
        have F446 : Old Z n0 h13 := F445.wr W13 ge_ta
        have F447 : Old Z n0 h16 := F446.wr W16 ge_ta
        have F448 : Old Z n0 h19 := F447.wr W19 ge_ta
        have F449 : Old Z n0 h162 := F448.wr W162 ge_ta
        have F450 : Old Z n0 h165 := F449.wr W165 ge_ta
        have F451 : Old Z n0 h168 := F450.wr W168 ge_ta
        have F452 : Old Z n0 h171 := F451.wr W171 ge_ta
        have F453 : Old Z n0 h403 := F452.wr W403 ge_ta
        have F454 : Old Z n0 h407 := F453.wr W407 ge_ta
        have F455 : Old Z n0 h411 := F454.wr W411 ge_ta
        have F456 : Old Z n0 h415 := F455.wr W415 ge_ta
        have F457 : Old Z n0 h419 := F456.wr W419 ge_ta
        have F458 : Old Z n0 h422 := F457.wr W422 ge_ta
        have F459 : s.heap.size ≤ h1.size := Nat.le_trans hk0 E1.1
        have F460 : s.heap.size ≤ h4.size := Nat.le_trans F459 (Nat.le_of_eq (Wr.size W4).symm)
        have F461 : s.heap.size ≤ h7.size := Nat.le_trans F460 (Nat.le_of_eq (Wr.size W7).symm)
        have F462 : s.heap.size ≤ h10.size := Nat.le_trans F461 (Nat.le_of_eq (Wr.size W10).symm)
        have F463 : s.heap.size ≤ h13.size := Nat.le_trans F462 (Nat.le_of_eq (Wr.size W13).symm)
        have F464 : s.heap.size ≤ h16.size := Nat.le_trans F463 (Nat.le_of_eq (Wr.size W16).symm)
        have F465 : s.heap.size ≤ h19.size := Nat.le_trans F464 (Nat.le_of_eq (Wr.size W19).symm)
        have F466 : s.heap.size ≤ h162.size := Nat.le_trans F465 (Nat.le_of_eq (Wr.size W162).symm)
        have F467 : s.heap.size ≤ h165.size := Nat.le_trans F466 (Nat.le_of_eq (Wr.size W165).symm)
        have F468 : s.heap.size ≤ h168.size := Nat.le_trans F467 (Nat.le_of_eq (Wr.size W168).symm)
        have F469 : s.heap.size ≤ h171.size := Nat.le_trans F468 (Nat.le_of_eq (Wr.size W171).symm)
        have F470 : s.heap.size ≤ h403.size := Nat.le_trans F469 (Nat.le_of_eq (Wr.size W403).symm)
        have F471 : s.heap.size ≤ h407.size := Nat.le_trans F470 (Nat.le_of_eq (Wr.size W407).symm)
        have F472 : s.heap.size ≤ h411.size := Nat.le_trans F471 (Nat.le_of_eq (Wr.size W411).symm)
        have F473 : s.heap.size ≤ h415.size := Nat.le_trans F472 (Nat.le_of_eq (Wr.size W415).symm)
        have F474 : s.heap.size ≤ h419.size := Nat.le_trans F473 (Nat.le_of_eq (Wr.size W419).symm)
        have F475 : s.heap.size ≤ h422.size := Nat.le_trans F474 (Nat.le_of_eq (Wr.size W422).symm)
        exact J22 _ _ _ d5 (116 : Int32) (114 : Int32) (117 : Int32) (101 : Int32) d4 (5 : Int32) (iv 0) (iv 4) (iv 3) X422 e422 N422 F441 F458 C423 F475 V422 q_d5 (⟨by decide, by decide⟩) (⟨by decide, by decide⟩) (⟨by decide, by decide⟩) (⟨by decide, by decide⟩) q_d4 (Or.inr (Or.inr (Or.inr (Or.inr (Or.inr (Or.inl rfl)))))) (Or.inr ⟨_, rfl, rfl⟩) (Or.inr ⟨_, rfl, rfl⟩) (Or.inr ⟨_, rfl, rfl⟩)
    · obtain rfl : kw = 1 := h_kw.trans hk
      show Go _ _ _ _ T19 (mkF m 121 #[iv p0, iv p1, iv p2, iv d0, iv d1, iv d2, iv d3, iv d4, iv d5, rv ta, un, iv 1, un, un, un] [])
      refine Go.iload2 123 X19 hx (hb hby at_121) rfl rfl ?_
      refine Go.ifY 156 X19 hx (hb hby at_123) (XT.i0_ne_t (by decide)) (by decide) (by decide) ?_
      refine Go.iload2 158 X19 hx (hb hby at_156) rfl rfl ?_
      refine Go.iconst 159 X19 hx (1 : Int32) (hb hby at_158) (by decide) rfl ?_
      refine Go.icmpN 162 X19 hx (hb hby at_159) (XT.ii_ne_f rfl) rfl ?_
      refine Go.aload2 164 X19 hx (hb hby at_162) rfl rfl rfl ?_
      refine Go.iconst 165 X19 hx (0 : Int32) (hb hby at_164) (by decide) rfl ?_
      refine Go.bipush 167 X19 hx (102 : Int32) (hb hby at_165) (by decide) rfl ?_
      obtain ⟨cl476, Ar476, q476, S476, M476, H476, G476⟩ := id V19
      have hin476 : ¬ ((0 : Int32) < 0 ∨ cl476.slots.size ≤ (0 : Int32).toNatClampNeg) := inb_of S476 ⟨by decide, by decide⟩
      obtain ⟨T476, h476, X476, e476, W476, st476⟩ := stC X19 hx hZ e19 Ar476 (j := (0 : Int32)) hin476 (g := (mkF m 167 #[iv p0, iv p1, iv p2, iv d0, iv d1, iv d2, iv d3, iv d4, iv d5, rv ta, un, iv 1, un, un, un] [(.int 102), (.int 0), (.ref ta)])) rfl rfl (hb hby at_167)
      have C477 : CHr Z own_EL s.vm h0 s.vm h476 := C20.trans (CHr.wr W476 Sf21 C20.1)
      have Sf478 : Safe Z own_EL s.vm h476 ta := Safe.wr W476 Sf21 C20.1 Sf21
      have N476 := Fr.snoc X476 N19 ge_ta
      have V476 : Arv Z h476 ta k1 .char (6 : Int32) [(.int (nar .char (102 : Int32))), (.int d1), (.int d2), (.int d3), (.int d4), (.int d5)] (.int 0) := Arv.set Ar476 q476 S476 M476 H476 G476 (fits_nar_char _) W476 0 rfl (Nat.le_of_ble_eq_true rfl)
      refine Go.by st476 ?_
      show Go _ _ _ _ T476 (mkF m 168 #[iv p0, iv p1, iv p2, iv d0, iv d1, iv d2, iv d3, iv d4, iv d5, rv ta, un, iv 1, un, un, un] [])
      rw [own_ncb (t := (102 : Int32)) (⟨by decide, by decide⟩ : ¬ (102 : Int32) < 0 ∧ ¬ (255 : Int32) < (102 : Int32)).1 (⟨by decide, by decide⟩ : ¬ (102 : Int32) < 0 ∧ ¬ (255 : Int32) < (102 : Int32)).2] at V476
      refine Go.aload2 170 X476 hx (hb hby at_168) rfl rfl rfl ?_
      refine Go.iconst 171 X476 hx (1 : Int32) (hb hby at_170) (by decide) rfl ?_
      refine Go.bipush 173 X476 hx (97 : Int32) (hb hby at_171) (by decide) rfl ?_
      obtain ⟨cl479, Ar479, q479, S479, M479, H479, G479⟩ := id V476
      have hin479 : ¬ ((1 : Int32) < 0 ∨ cl479.slots.size ≤ (1 : Int32).toNatClampNeg) := inb_of S479 ⟨by decide, by decide⟩
      obtain ⟨T479, h479, X479, e479, W479, st479⟩ := stC X476 hx hZ e476 Ar479 (j := (1 : Int32)) hin479 (g := (mkF m 173 #[iv p0, iv p1, iv p2, iv d0, iv d1, iv d2, iv d3, iv d4, iv d5, rv ta, un, iv 1, un, un, un] [(.int 97), (.int 1), (.ref ta)])) rfl rfl (hb hby at_173)
      have C480 : CHr Z own_EL s.vm h0 s.vm h479 := C477.trans (CHr.wr W479 Sf478 C477.1)
      have Sf481 : Safe Z own_EL s.vm h479 ta := Safe.wr W479 Sf478 C477.1 Sf478
      have N479 := Fr.snoc X479 N476 ge_ta
      have V479 : Arv Z h479 ta k1 .char (6 : Int32) [(.int 102), (.int (nar .char (97 : Int32))), (.int d2), (.int d3), (.int d4), (.int d5)] (.int 0) := Arv.set Ar479 q479 S479 M479 H479 G479 (fits_nar_char _) W479 1 rfl (Nat.le_of_ble_eq_true rfl)
      refine Go.by st479 ?_
      show Go _ _ _ _ T479 (mkF m 174 #[iv p0, iv p1, iv p2, iv d0, iv d1, iv d2, iv d3, iv d4, iv d5, rv ta, un, iv 1, un, un, un] [])
      rw [own_ncb (t := (97 : Int32)) (⟨by decide, by decide⟩ : ¬ (97 : Int32) < 0 ∧ ¬ (255 : Int32) < (97 : Int32)).1 (⟨by decide, by decide⟩ : ¬ (97 : Int32) < 0 ∧ ¬ (255 : Int32) < (97 : Int32)).2] at V479
      refine Go.aload2 176 X479 hx (hb hby at_174) rfl rfl rfl ?_
      refine Go.iconst 177 X479 hx (2 : Int32) (hb hby at_176) (by decide) rfl ?_
      refine Go.bipush 179 X479 hx (108 : Int32) (hb hby at_177) (by decide) rfl ?_
      obtain ⟨cl482, Ar482, q482, S482, M482, H482, G482⟩ := id V479
      have hin482 : ¬ ((2 : Int32) < 0 ∨ cl482.slots.size ≤ (2 : Int32).toNatClampNeg) := inb_of S482 ⟨by decide, by decide⟩
      obtain ⟨T482, h482, X482, e482, W482, st482⟩ := stC X479 hx hZ e479 Ar482 (j := (2 : Int32)) hin482 (g := (mkF m 179 #[iv p0, iv p1, iv p2, iv d0, iv d1, iv d2, iv d3, iv d4, iv d5, rv ta, un, iv 1, un, un, un] [(.int 108), (.int 2), (.ref ta)])) rfl rfl (hb hby at_179)
      have C483 : CHr Z own_EL s.vm h0 s.vm h482 := C480.trans (CHr.wr W482 Sf481 C480.1)
      have Sf484 : Safe Z own_EL s.vm h482 ta := Safe.wr W482 Sf481 C480.1 Sf481
      have N482 := Fr.snoc X482 N479 ge_ta
      have V482 : Arv Z h482 ta k1 .char (6 : Int32) [(.int 102), (.int 97), (.int (nar .char (108 : Int32))), (.int d3), (.int d4), (.int d5)] (.int 0) := Arv.set Ar482 q482 S482 M482 H482 G482 (fits_nar_char _) W482 2 rfl (Nat.le_of_ble_eq_true rfl)
      refine Go.by st482 ?_
      show Go _ _ _ _ T482 (mkF m 180 #[iv p0, iv p1, iv p2, iv d0, iv d1, iv d2, iv d3, iv d4, iv d5, rv ta, un, iv 1, un, un, un] [])
      rw [own_ncb (t := (108 : Int32)) (⟨by decide, by decide⟩ : ¬ (108 : Int32) < 0 ∧ ¬ (255 : Int32) < (108 : Int32)).1 (⟨by decide, by decide⟩ : ¬ (108 : Int32) < 0 ∧ ¬ (255 : Int32) < (108 : Int32)).2] at V482
      refine Go.aload2 182 X482 hx (hb hby at_180) rfl rfl rfl ?_
      refine Go.iconst 183 X482 hx (3 : Int32) (hb hby at_182) (by decide) rfl ?_
      refine Go.bipush 185 X482 hx (115 : Int32) (hb hby at_183) (by decide) rfl ?_
      obtain ⟨cl485, Ar485, q485, S485, M485, H485, G485⟩ := id V482
      have hin485 : ¬ ((3 : Int32) < 0 ∨ cl485.slots.size ≤ (3 : Int32).toNatClampNeg) := inb_of S485 ⟨by decide, by decide⟩
      obtain ⟨T485, h485, X485, e485, W485, st485⟩ := stC X482 hx hZ e482 Ar485 (j := (3 : Int32)) hin485 (g := (mkF m 185 #[iv p0, iv p1, iv p2, iv d0, iv d1, iv d2, iv d3, iv d4, iv d5, rv ta, un, iv 1, un, un, un] [(.int 115), (.int 3), (.ref ta)])) rfl rfl (hb hby at_185)
      have C486 : CHr Z own_EL s.vm h0 s.vm h485 := C483.trans (CHr.wr W485 Sf484 C483.1)
      have Sf487 : Safe Z own_EL s.vm h485 ta := Safe.wr W485 Sf484 C483.1 Sf484
      have N485 := Fr.snoc X485 N482 ge_ta
      have V485 : Arv Z h485 ta k1 .char (6 : Int32) [(.int 102), (.int 97), (.int 108), (.int (nar .char (115 : Int32))), (.int d4), (.int d5)] (.int 0) := Arv.set Ar485 q485 S485 M485 H485 G485 (fits_nar_char _) W485 3 rfl (Nat.le_of_ble_eq_true rfl)
      refine Go.by st485 ?_
      show Go _ _ _ _ T485 (mkF m 186 #[iv p0, iv p1, iv p2, iv d0, iv d1, iv d2, iv d3, iv d4, iv d5, rv ta, un, iv 1, un, un, un] [])
      rw [own_ncb (t := (115 : Int32)) (⟨by decide, by decide⟩ : ¬ (115 : Int32) < 0 ∧ ¬ (255 : Int32) < (115 : Int32)).1 (⟨by decide, by decide⟩ : ¬ (115 : Int32) < 0 ∧ ¬ (255 : Int32) < (115 : Int32)).2] at V485
      refine Go.aload2 188 X485 hx (hb hby at_186) rfl rfl rfl ?_
      refine Go.iconst 189 X485 hx (4 : Int32) (hb hby at_188) (by decide) rfl ?_
      refine Go.bipush 191 X485 hx (101 : Int32) (hb hby at_189) (by decide) rfl ?_
      obtain ⟨cl488, Ar488, q488, S488, M488, H488, G488⟩ := id V485
      have hin488 : ¬ ((4 : Int32) < 0 ∨ cl488.slots.size ≤ (4 : Int32).toNatClampNeg) := inb_of S488 ⟨by decide, by decide⟩
      obtain ⟨T488, h488, X488, e488, W488, st488⟩ := stC X485 hx hZ e485 Ar488 (j := (4 : Int32)) hin488 (g := (mkF m 191 #[iv p0, iv p1, iv p2, iv d0, iv d1, iv d2, iv d3, iv d4, iv d5, rv ta, un, iv 1, un, un, un] [(.int 101), (.int 4), (.ref ta)])) rfl rfl (hb hby at_191)
      have C489 : CHr Z own_EL s.vm h0 s.vm h488 := C486.trans (CHr.wr W488 Sf487 C486.1)
      have Sf490 : Safe Z own_EL s.vm h488 ta := Safe.wr W488 Sf487 C486.1 Sf487
      have N488 := Fr.snoc X488 N485 ge_ta
      have V488 : Arv Z h488 ta k1 .char (6 : Int32) [(.int 102), (.int 97), (.int 108), (.int 115), (.int (nar .char (101 : Int32))), (.int d5)] (.int 0) := Arv.set Ar488 q488 S488 M488 H488 G488 (fits_nar_char _) W488 4 rfl (Nat.le_of_ble_eq_true rfl)
      refine Go.by st488 ?_
      show Go _ _ _ _ T488 (mkF m 192 #[iv p0, iv p1, iv p2, iv d0, iv d1, iv d2, iv d3, iv d4, iv d5, rv ta, un, iv 1, un, un, un] [])
      rw [own_ncb (t := (101 : Int32)) (⟨by decide, by decide⟩ : ¬ (101 : Int32) < 0 ∧ ¬ (255 : Int32) < (101 : Int32)).1 (⟨by decide, by decide⟩ : ¬ (101 : Int32) < 0 ∧ ¬ (255 : Int32) < (101 : Int32)).2] at V488
      refine Go.iconst 193 X488 hx (5 : Int32) (hb hby at_192) (by decide) rfl ?_
      refine Go.istore2 195 X488 hx (L' := #[iv p0, iv p1, iv p2, iv d0, iv d1, iv d2, iv d3, iv d4, iv d5, rv ta, un, iv 1, iv 5, un, un]) (hb hby at_193) rfl rfl ?_
      refine Go.goto 225 X488 hx (hb hby at_195) (by decide) (by decide) ?_
      refine Go.iload2 227 X488 hx (hb hby at_225) rfl rfl ?_
      refine Go.istore2 229 X488 hx (L' := #[iv p0, iv p1, iv p2, iv d0, iv d1, iv d2, iv d3, iv d4, iv d5, rv ta, iv 5, iv 1, iv 5, un, un]) (hb hby at_227) rfl rfl ?_
      refine Go.iload1 230 X488 hx (hb hby at_229) rfl rfl ?_
      refine Go.iconst 231 X488 hx (4 : Int32) (hb hby at_230) (by decide) rfl ?_
      refine Go.iushr 232 X488 hx (hb hby at_231) rfl ?_
      refine Go.iconst 233 X488 hx (3 : Int32) (hb hby at_232) (by decide) rfl ?_
      refine Go.iand 234 X488 hx (hb hby at_233) rfl ?_
      refine Go.istore2 236 X488 hx (L' := #[iv p0, iv p1, iv p2, iv d0, iv d1, iv d2, iv d3, iv d4, iv d5, rv ta, iv 5, iv 1, iv 5, iv ((XT.ushr p0 (4 : Int32)) &&& (3 : Int32)), un]) (hb hby at_234) rfl rfl ?_
      obtain ⟨ed, h_ed⟩ : ∃ z, z = ((XT.ushr p0 (4 : Int32)) &&& (3 : Int32)) := ⟨_, rfl⟩
      rw [← h_ed]
      show Go _ _ _ _ T488 (mkF m 236 #[iv p0, iv p1, iv p2, iv d0, iv d1, iv d2, iv d3, iv d4, iv d5, rv ta, iv 5, iv 1, iv 5, iv ed, un] [])
      rcases own_a3 (XT.ushr p0 4) with he | he | he | he
      · obtain rfl : ed = 0 := h_ed.trans he
        show Go _ _ _ _ T488 (mkF m 236 #[iv p0, iv p1, iv p2, iv d0, iv d1, iv d2, iv d3, iv d4, iv d5, rv ta, iv 5, iv 1, iv 5, iv 0, un] [])
        refine Go.iload2 238 X488 hx (hb hby at_236) rfl rfl ?_
        refine Go.iconst 239 X488 hx (1 : Int32) (hb hby at_238) (by decide) rfl ?_
        refine Go.icmpY 260 X488 hx (hb hby at_239) (XT.ii_ne_t (by decide)) (by decide) (by decide) ?_
        refine Go.iload2 262 X488 hx (hb hby at_260) rfl rfl ?_
        refine Go.iconst 263 X488 hx (2 : Int32) (hb hby at_262) (by decide) rfl ?_
        refine Go.icmpY 282 X488 hx (hb hby at_263) (XT.ii_ne_t (by decide)) (by decide) (by decide) ?_
        refine Go.iload2 284 X488 hx (hb hby at_282) rfl rfl ?_
        refine Go.iconst 285 X488 hx (3 : Int32) (hb hby at_284) (by decide) rfl ?_
        refine Go.icmpY 340 X488 hx (hb hby at_285) (XT.ii_ne_t (by decide)) (by decide) (by decide) ?_
        have F491 : n0 ≤ h1.size := Nat.le_trans Z0 E1.1
        have F492 : n0 ≤ h4.size := Nat.le_trans F491 (Nat.le_of_eq (Wr.size W4).symm)
        have F493 : n0 ≤ h7.size := Nat.le_trans F492 (Nat.le_of_eq (Wr.size W7).symm)
        have F494 : n0 ≤ h10.size := Nat.le_trans F493 (Nat.le_of_eq (Wr.size W10).symm)
        have F495 : n0 ≤ h13.size := Nat.le_trans F494 (Nat.le_of_eq (Wr.size W13).symm)
        have F496 : n0 ≤ h16.size := Nat.le_trans F495 (Nat.le_of_eq (Wr.size W16).symm)
        have F497 : n0 ≤ h19.size := Nat.le_trans F496 (Nat.le_of_eq (Wr.size W19).symm)
        have F498 : n0 ≤ h476.size := Nat.le_trans F497 (Nat.le_of_eq (Wr.size W476).symm)
        have F499 : n0 ≤ h479.size := Nat.le_trans F498 (Nat.le_of_eq (Wr.size W479).symm)
        have F500 : n0 ≤ h482.size := Nat.le_trans F499 (Nat.le_of_eq (Wr.size W482).symm)
        have F501 : n0 ≤ h485.size := Nat.le_trans F500 (Nat.le_of_eq (Wr.size W485).symm)
        have F502 : n0 ≤ h488.size := Nat.le_trans F501 (Nat.le_of_eq (Wr.size W488).symm)
        have F503 : Old Z n0 h1 := O0.ext E1
        have F504 : Old Z n0 h4 := F503.wr W4 ge_ta
        have F505 : Old Z n0 h7 := F504.wr W7 ge_ta
        have F506 : Old Z n0 h10 := F505.wr W10 ge_ta
        have F507 : Old Z n0 h13 := F506.wr W13 ge_ta
        have F508 : Old Z n0 h16 := F507.wr W16 ge_ta
        have F509 : Old Z n0 h19 := F508.wr W19 ge_ta
        have F510 : Old Z n0 h476 := F509.wr W476 ge_ta
        have F511 : Old Z n0 h479 := F510.wr W479 ge_ta
        have F512 : Old Z n0 h482 := F511.wr W482 ge_ta
        have F513 : Old Z n0 h485 := F512.wr W485 ge_ta
        have F514 : Old Z n0 h488 := F513.wr W488 ge_ta
        have F515 : s.heap.size ≤ h1.size := Nat.le_trans hk0 E1.1
        have F516 : s.heap.size ≤ h4.size := Nat.le_trans F515 (Nat.le_of_eq (Wr.size W4).symm)
        have F517 : s.heap.size ≤ h7.size := Nat.le_trans F516 (Nat.le_of_eq (Wr.size W7).symm)
        have F518 : s.heap.size ≤ h10.size := Nat.le_trans F517 (Nat.le_of_eq (Wr.size W10).symm)
        have F519 : s.heap.size ≤ h13.size := Nat.le_trans F518 (Nat.le_of_eq (Wr.size W13).symm)
        have F520 : s.heap.size ≤ h16.size := Nat.le_trans F519 (Nat.le_of_eq (Wr.size W16).symm)
        have F521 : s.heap.size ≤ h19.size := Nat.le_trans F520 (Nat.le_of_eq (Wr.size W19).symm)
        have F522 : s.heap.size ≤ h476.size := Nat.le_trans F521 (Nat.le_of_eq (Wr.size W476).symm)
        have F523 : s.heap.size ≤ h479.size := Nat.le_trans F522 (Nat.le_of_eq (Wr.size W479).symm)
        have F524 : s.heap.size ≤ h482.size := Nat.le_trans F523 (Nat.le_of_eq (Wr.size W482).symm)
        have F525 : s.heap.size ≤ h485.size := Nat.le_trans F524 (Nat.le_of_eq (Wr.size W485).symm)
        have F526 : s.heap.size ≤ h488.size := Nat.le_trans F525 (Nat.le_of_eq (Wr.size W488).symm)
        exact J22 _ _ _ (102 : Int32) (97 : Int32) (108 : Int32) (115 : Int32) (101 : Int32) d5 (5 : Int32) (iv 1) (iv 5) (iv 0) X488 e488 N488 F502 F514 C489 F526 V488 (⟨by decide, by decide⟩) (⟨by decide, by decide⟩) (⟨by decide, by decide⟩) (⟨by decide, by decide⟩) (⟨by decide, by decide⟩) q_d5 (Or.inr (Or.inr (Or.inr (Or.inr (Or.inr (Or.inl rfl)))))) (Or.inr ⟨_, rfl, rfl⟩) (Or.inr ⟨_, rfl, rfl⟩) (Or.inr ⟨_, rfl, rfl⟩)
      · obtain rfl : ed = 1 := h_ed.trans he
        show Go _ _ _ _ T488 (mkF m 236 #[iv p0, iv p1, iv p2, iv d0, iv d1, iv d2, iv d3, iv d4, iv d5, rv ta, iv 5, iv 1, iv 5, iv 1, un] [])
        refine Go.iload2 238 X488 hx (hb hby at_236) rfl rfl ?_
        refine Go.iconst 239 X488 hx (1 : Int32) (hb hby at_238) (by decide) rfl ?_
        refine Go.icmpN 242 X488 hx (hb hby at_239) (XT.ii_ne_f rfl) rfl ?_
        refine Go.aload2 244 X488 hx (hb hby at_242) rfl rfl rfl ?_
        refine Go.iload1 245 X488 hx (hb hby at_244) rfl rfl ?_
        refine Go.bipush 247 X488 hx (6 : Int32) (hb hby at_245) (by decide) rfl ?_
        refine Go.iushr 248 X488 hx (hb hby at_247) rfl ?_
        refine Go.bipush 250 X488 hx (7 : Int32) (hb hby at_248) (by decide) rfl ?_
        refine Go.iand 251 X488 hx (hb hby at_250) rfl ?_
        refine Go.iload2 253 X488 hx (hb hby at_251) rfl rfl ?_
        refine Go.irem 254 X488 hx (hb hby at_253) (by decide) rfl ?_
        refine Go.iload2 256 X488 hx (hb hby at_254) rfl rfl ?_
        obtain ⟨ix, h_ix⟩ : ∃ z, z = (((XT.ushr p0 (6 : Int32)) &&& (7 : Int32)) - ((XT.ushr p0 (6 : Int32)) &&& (7 : Int32)) / (5 : Int32) * (5 : Int32)) := ⟨_, rfl⟩
        rw [← h_ix]
        show Go _ _ _ _ T488 (mkF m 256 #[iv p0, iv p1, iv p2, iv d0, iv d1, iv d2, iv d3, iv d4, iv d5, rv ta, iv 5, iv 1, iv 5, iv 1, un] [(.int d5), (.int ix), (.ref ta)])
        rcases own_m5 h_ix with rfl | rfl | rfl | rfl | rfl
        · show Go _ _ _ _ T488 (mkF m 256 #[iv p0, iv p1, iv p2, iv d0, iv d1, iv d2, iv d3, iv d4, iv d5, rv ta, iv 5, iv 1, iv 5, iv 1, un] [(.int d5), (.int 0), (.ref ta)])
          obtain ⟨cl527, Ar527, q527, S527, M527, H527, G527⟩ := id V488
          have hin527 : ¬ ((0 : Int32) < 0 ∨ cl527.slots.size ≤ (0 : Int32).toNatClampNeg) := inb_of S527 ⟨by decide, by decide⟩
          obtain ⟨T527, h527, X527, e527, W527, st527⟩ := stC X488 hx hZ e488 Ar527 (j := (0 : Int32)) hin527 (g := (mkF m 256 #[iv p0, iv p1, iv p2, iv d0, iv d1, iv d2, iv d3, iv d4, iv d5, rv ta, iv 5, iv 1, iv 5, iv 1, un] [(.int d5), (.int 0), (.ref ta)])) rfl rfl (hb hby at_256)
          have C528 : CHr Z own_EL s.vm h0 s.vm h527 := C489.trans (CHr.wr W527 Sf490 C489.1)
          have Sf529 : Safe Z own_EL s.vm h527 ta := Safe.wr W527 Sf490 C489.1 Sf490
          have N527 := Fr.snoc X527 N488 ge_ta
          have V527 : Arv Z h527 ta k1 .char (6 : Int32) [(.int (nar .char d5)), (.int 97), (.int 108), (.int 115), (.int 101), (.int d5)] (.int 0) := Arv.set Ar527 q527 S527 M527 H527 G527 (fits_nar_char _) W527 0 rfl (Nat.le_of_ble_eq_true rfl)
          refine Go.by st527 ?_
          show Go _ _ _ _ T527 (mkF m 257 #[iv p0, iv p1, iv p2, iv d0, iv d1, iv d2, iv d3, iv d4, iv d5, rv ta, iv 5, iv 1, iv 5, iv 1, un] [])
          rw [own_ncb (t := d5) q_d5.1 q_d5.2] at V527
          refine Go.goto 340 X527 hx (hb hby at_257) (by decide) (by decide) ?_
          have F530 : n0 ≤ h1.size := Nat.le_trans Z0 E1.1
          have F531 : n0 ≤ h4.size := Nat.le_trans F530 (Nat.le_of_eq (Wr.size W4).symm)
          have F532 : n0 ≤ h7.size := Nat.le_trans F531 (Nat.le_of_eq (Wr.size W7).symm)
          have F533 : n0 ≤ h10.size := Nat.le_trans F532 (Nat.le_of_eq (Wr.size W10).symm)
          have F534 : n0 ≤ h13.size := Nat.le_trans F533 (Nat.le_of_eq (Wr.size W13).symm)
          have F535 : n0 ≤ h16.size := Nat.le_trans F534 (Nat.le_of_eq (Wr.size W16).symm)
          have F536 : n0 ≤ h19.size := Nat.le_trans F535 (Nat.le_of_eq (Wr.size W19).symm)
          have F537 : n0 ≤ h476.size := Nat.le_trans F536 (Nat.le_of_eq (Wr.size W476).symm)
          have F538 : n0 ≤ h479.size := Nat.le_trans F537 (Nat.le_of_eq (Wr.size W479).symm)
          have F539 : n0 ≤ h482.size := Nat.le_trans F538 (Nat.le_of_eq (Wr.size W482).symm)
          have F540 : n0 ≤ h485.size := Nat.le_trans F539 (Nat.le_of_eq (Wr.size W485).symm)
          have F541 : n0 ≤ h488.size := Nat.le_trans F540 (Nat.le_of_eq (Wr.size W488).symm)
          have F542 : n0 ≤ h527.size := Nat.le_trans F541 (Nat.le_of_eq (Wr.size W527).symm)
          have F543 : Old Z n0 h1 := O0.ext E1
          have F544 : Old Z n0 h4 := F543.wr W4 ge_ta
          have F545 : Old Z n0 h7 := F544.wr W7 ge_ta
          have F546 : Old Z n0 h10 := F545.wr W10 ge_ta
          have F547 : Old Z n0 h13 := F546.wr W13 ge_ta
          have F548 : Old Z n0 h16 := F547.wr W16 ge_ta
          have F549 : Old Z n0 h19 := F548.wr W19 ge_ta
          have F550 : Old Z n0 h476 := F549.wr W476 ge_ta
          have F551 : Old Z n0 h479 := F550.wr W479 ge_ta
          have F552 : Old Z n0 h482 := F551.wr W482 ge_ta
          have F553 : Old Z n0 h485 := F552.wr W485 ge_ta
          have F554 : Old Z n0 h488 := F553.wr W488 ge_ta
          have F555 : Old Z n0 h527 := F554.wr W527 ge_ta
          have F556 : s.heap.size ≤ h1.size := Nat.le_trans hk0 E1.1
          have F557 : s.heap.size ≤ h4.size := Nat.le_trans F556 (Nat.le_of_eq (Wr.size W4).symm)
          have F558 : s.heap.size ≤ h7.size := Nat.le_trans F557 (Nat.le_of_eq (Wr.size W7).symm)
          have F559 : s.heap.size ≤ h10.size := Nat.le_trans F558 (Nat.le_of_eq (Wr.size W10).symm)
          have F560 : s.heap.size ≤ h13.size := Nat.le_trans F559 (Nat.le_of_eq (Wr.size W13).symm)
          have F561 : s.heap.size ≤ h16.size := Nat.le_trans F560 (Nat.le_of_eq (Wr.size W16).symm)
          have F562 : s.heap.size ≤ h19.size := Nat.le_trans F561 (Nat.le_of_eq (Wr.size W19).symm)
          have F563 : s.heap.size ≤ h476.size := Nat.le_trans F562 (Nat.le_of_eq (Wr.size W476).symm)
          have F564 : s.heap.size ≤ h479.size := Nat.le_trans F563 (Nat.le_of_eq (Wr.size W479).symm)
          have F565 : s.heap.size ≤ h482.size := Nat.le_trans F564 (Nat.le_of_eq (Wr.size W482).symm)
          have F566 : s.heap.size ≤ h485.size := Nat.le_trans F565 (Nat.le_of_eq (Wr.size W485).symm)
          have F567 : s.heap.size ≤ h488.size := Nat.le_trans F566 (Nat.le_of_eq (Wr.size W488).symm)
          have F568 : s.heap.size ≤ h527.size := Nat.le_trans F567 (Nat.le_of_eq (Wr.size W527).symm)
          exact J22 _ _ _ d5 (97 : Int32) (108 : Int32) (115 : Int32) (101 : Int32) d5 (5 : Int32) (iv 1) (iv 5) (iv 1) X527 e527 N527 F542 F555 C528 F568 V527 q_d5 (⟨by decide, by decide⟩) (⟨by decide, by decide⟩) (⟨by decide, by decide⟩) (⟨by decide, by decide⟩) q_d5 (Or.inr (Or.inr (Or.inr (Or.inr (Or.inr (Or.inl rfl)))))) (Or.inr ⟨_, rfl, rfl⟩) (Or.inr ⟨_, rfl, rfl⟩) (Or.inr ⟨_, rfl, rfl⟩)
        · show Go _ _ _ _ T488 (mkF m 256 #[iv p0, iv p1, iv p2, iv d0, iv d1, iv d2, iv d3, iv d4, iv d5, rv ta, iv 5, iv 1, iv 5, iv 1, un] [(.int d5), (.int 1), (.ref ta)])
          obtain ⟨cl569, Ar569, q569, S569, M569, H569, G569⟩ := id V488
          have hin569 : ¬ ((1 : Int32) < 0 ∨ cl569.slots.size ≤ (1 : Int32).toNatClampNeg) := inb_of S569 ⟨by decide, by decide⟩
          obtain ⟨T569, h569, X569, e569, W569, st569⟩ := stC X488 hx hZ e488 Ar569 (j := (1 : Int32)) hin569 (g := (mkF m 256 #[iv p0, iv p1, iv p2, iv d0, iv d1, iv d2, iv d3, iv d4, iv d5, rv ta, iv 5, iv 1, iv 5, iv 1, un] [(.int d5), (.int 1), (.ref ta)])) rfl rfl (hb hby at_256)
          have C570 : CHr Z own_EL s.vm h0 s.vm h569 := C489.trans (CHr.wr W569 Sf490 C489.1)
          have Sf571 : Safe Z own_EL s.vm h569 ta := Safe.wr W569 Sf490 C489.1 Sf490
          have N569 := Fr.snoc X569 N488 ge_ta
          have V569 : Arv Z h569 ta k1 .char (6 : Int32) [(.int 102), (.int (nar .char d5)), (.int 108), (.int 115), (.int 101), (.int d5)] (.int 0) := Arv.set Ar569 q569 S569 M569 H569 G569 (fits_nar_char _) W569 1 rfl (Nat.le_of_ble_eq_true rfl)
          refine Go.by st569 ?_
          show Go _ _ _ _ T569 (mkF m 257 #[iv p0, iv p1, iv p2, iv d0, iv d1, iv d2, iv d3, iv d4, iv d5, rv ta, iv 5, iv 1, iv 5, iv 1, un] [])
          rw [own_ncb (t := d5) q_d5.1 q_d5.2] at V569
          refine Go.goto 340 X569 hx (hb hby at_257) (by decide) (by decide) ?_
          have F572 : n0 ≤ h1.size := Nat.le_trans Z0 E1.1
          have F573 : n0 ≤ h4.size := Nat.le_trans F572 (Nat.le_of_eq (Wr.size W4).symm)
          have F574 : n0 ≤ h7.size := Nat.le_trans F573 (Nat.le_of_eq (Wr.size W7).symm)
          have F575 : n0 ≤ h10.size := Nat.le_trans F574 (Nat.le_of_eq (Wr.size W10).symm)
          have F576 : n0 ≤ h13.size := Nat.le_trans F575 (Nat.le_of_eq (Wr.size W13).symm)
          have F577 : n0 ≤ h16.size := Nat.le_trans F576 (Nat.le_of_eq (Wr.size W16).symm)
          have F578 : n0 ≤ h19.size := Nat.le_trans F577 (Nat.le_of_eq (Wr.size W19).symm)
          have F579 : n0 ≤ h476.size := Nat.le_trans F578 (Nat.le_of_eq (Wr.size W476).symm)
          have F580 : n0 ≤ h479.size := Nat.le_trans F579 (Nat.le_of_eq (Wr.size W479).symm)
          have F581 : n0 ≤ h482.size := Nat.le_trans F580 (Nat.le_of_eq (Wr.size W482).symm)
          have F582 : n0 ≤ h485.size := Nat.le_trans F581 (Nat.le_of_eq (Wr.size W485).symm)
          have F583 : n0 ≤ h488.size := Nat.le_trans F582 (Nat.le_of_eq (Wr.size W488).symm)
          have F584 : n0 ≤ h569.size := Nat.le_trans F583 (Nat.le_of_eq (Wr.size W569).symm)
          have F585 : Old Z n0 h1 := O0.ext E1
          have F586 : Old Z n0 h4 := F585.wr W4 ge_ta
          have F587 : Old Z n0 h7 := F586.wr W7 ge_ta
          have F588 : Old Z n0 h10 := F587.wr W10 ge_ta
          have F589 : Old Z n0 h13 := F588.wr W13 ge_ta
          have F590 : Old Z n0 h16 := F589.wr W16 ge_ta
          have F591 : Old Z n0 h19 := F590.wr W19 ge_ta
          have F592 : Old Z n0 h476 := F591.wr W476 ge_ta
          have F593 : Old Z n0 h479 := F592.wr W479 ge_ta
          have F594 : Old Z n0 h482 := F593.wr W482 ge_ta
          have F595 : Old Z n0 h485 := F594.wr W485 ge_ta
          have F596 : Old Z n0 h488 := F595.wr W488 ge_ta
          have F597 : Old Z n0 h569 := F596.wr W569 ge_ta
          have F598 : s.heap.size ≤ h1.size := Nat.le_trans hk0 E1.1
          have F599 : s.heap.size ≤ h4.size := Nat.le_trans F598 (Nat.le_of_eq (Wr.size W4).symm)
          have F600 : s.heap.size ≤ h7.size := Nat.le_trans F599 (Nat.le_of_eq (Wr.size W7).symm)
          have F601 : s.heap.size ≤ h10.size := Nat.le_trans F600 (Nat.le_of_eq (Wr.size W10).symm)
          have F602 : s.heap.size ≤ h13.size := Nat.le_trans F601 (Nat.le_of_eq (Wr.size W13).symm)
          have F603 : s.heap.size ≤ h16.size := Nat.le_trans F602 (Nat.le_of_eq (Wr.size W16).symm)
          have F604 : s.heap.size ≤ h19.size := Nat.le_trans F603 (Nat.le_of_eq (Wr.size W19).symm)
          have F605 : s.heap.size ≤ h476.size := Nat.le_trans F604 (Nat.le_of_eq (Wr.size W476).symm)
          have F606 : s.heap.size ≤ h479.size := Nat.le_trans F605 (Nat.le_of_eq (Wr.size W479).symm)
          have F607 : s.heap.size ≤ h482.size := Nat.le_trans F606 (Nat.le_of_eq (Wr.size W482).symm)
          have F608 : s.heap.size ≤ h485.size := Nat.le_trans F607 (Nat.le_of_eq (Wr.size W485).symm)
          have F609 : s.heap.size ≤ h488.size := Nat.le_trans F608 (Nat.le_of_eq (Wr.size W488).symm)
          have F610 : s.heap.size ≤ h569.size := Nat.le_trans F609 (Nat.le_of_eq (Wr.size W569).symm)
          exact J22 _ _ _ (102 : Int32) d5 (108 : Int32) (115 : Int32) (101 : Int32) d5 (5 : Int32) (iv 1) (iv 5) (iv 1) X569 e569 N569 F584 F597 C570 F610 V569 (⟨by decide, by decide⟩) q_d5 (⟨by decide, by decide⟩) (⟨by decide, by decide⟩) (⟨by decide, by decide⟩) q_d5 (Or.inr (Or.inr (Or.inr (Or.inr (Or.inr (Or.inl rfl)))))) (Or.inr ⟨_, rfl, rfl⟩) (Or.inr ⟨_, rfl, rfl⟩) (Or.inr ⟨_, rfl, rfl⟩)
        · show Go _ _ _ _ T488 (mkF m 256 #[iv p0, iv p1, iv p2, iv d0, iv d1, iv d2, iv d3, iv d4, iv d5, rv ta, iv 5, iv 1, iv 5, iv 1, un] [(.int d5), (.int 2), (.ref ta)])
          obtain ⟨cl611, Ar611, q611, S611, M611, H611, G611⟩ := id V488
          have hin611 : ¬ ((2 : Int32) < 0 ∨ cl611.slots.size ≤ (2 : Int32).toNatClampNeg) := inb_of S611 ⟨by decide, by decide⟩
          obtain ⟨T611, h611, X611, e611, W611, st611⟩ := stC X488 hx hZ e488 Ar611 (j := (2 : Int32)) hin611 (g := (mkF m 256 #[iv p0, iv p1, iv p2, iv d0, iv d1, iv d2, iv d3, iv d4, iv d5, rv ta, iv 5, iv 1, iv 5, iv 1, un] [(.int d5), (.int 2), (.ref ta)])) rfl rfl (hb hby at_256)
          have C612 : CHr Z own_EL s.vm h0 s.vm h611 := C489.trans (CHr.wr W611 Sf490 C489.1)
          have Sf613 : Safe Z own_EL s.vm h611 ta := Safe.wr W611 Sf490 C489.1 Sf490
          have N611 := Fr.snoc X611 N488 ge_ta
          have V611 : Arv Z h611 ta k1 .char (6 : Int32) [(.int 102), (.int 97), (.int (nar .char d5)), (.int 115), (.int 101), (.int d5)] (.int 0) := Arv.set Ar611 q611 S611 M611 H611 G611 (fits_nar_char _) W611 2 rfl (Nat.le_of_ble_eq_true rfl)
          refine Go.by st611 ?_
          show Go _ _ _ _ T611 (mkF m 257 #[iv p0, iv p1, iv p2, iv d0, iv d1, iv d2, iv d3, iv d4, iv d5, rv ta, iv 5, iv 1, iv 5, iv 1, un] [])
          rw [own_ncb (t := d5) q_d5.1 q_d5.2] at V611
          refine Go.goto 340 X611 hx (hb hby at_257) (by decide) (by decide) ?_
          have F614 : n0 ≤ h1.size := Nat.le_trans Z0 E1.1
          have F615 : n0 ≤ h4.size := Nat.le_trans F614 (Nat.le_of_eq (Wr.size W4).symm)
          have F616 : n0 ≤ h7.size := Nat.le_trans F615 (Nat.le_of_eq (Wr.size W7).symm)
          have F617 : n0 ≤ h10.size := Nat.le_trans F616 (Nat.le_of_eq (Wr.size W10).symm)
          have F618 : n0 ≤ h13.size := Nat.le_trans F617 (Nat.le_of_eq (Wr.size W13).symm)
          have F619 : n0 ≤ h16.size := Nat.le_trans F618 (Nat.le_of_eq (Wr.size W16).symm)
          have F620 : n0 ≤ h19.size := Nat.le_trans F619 (Nat.le_of_eq (Wr.size W19).symm)
          have F621 : n0 ≤ h476.size := Nat.le_trans F620 (Nat.le_of_eq (Wr.size W476).symm)
          have F622 : n0 ≤ h479.size := Nat.le_trans F621 (Nat.le_of_eq (Wr.size W479).symm)
          have F623 : n0 ≤ h482.size := Nat.le_trans F622 (Nat.le_of_eq (Wr.size W482).symm)
          have F624 : n0 ≤ h485.size := Nat.le_trans F623 (Nat.le_of_eq (Wr.size W485).symm)
          have F625 : n0 ≤ h488.size := Nat.le_trans F624 (Nat.le_of_eq (Wr.size W488).symm)
          have F626 : n0 ≤ h611.size := Nat.le_trans F625 (Nat.le_of_eq (Wr.size W611).symm)
          have F627 : Old Z n0 h1 := O0.ext E1
          have F628 : Old Z n0 h4 := F627.wr W4 ge_ta
          have F629 : Old Z n0 h7 := F628.wr W7 ge_ta
          have F630 : Old Z n0 h10 := F629.wr W10 ge_ta
          have F631 : Old Z n0 h13 := F630.wr W13 ge_ta
          have F632 : Old Z n0 h16 := F631.wr W16 ge_ta
          have F633 : Old Z n0 h19 := F632.wr W19 ge_ta
          have F634 : Old Z n0 h476 := F633.wr W476 ge_ta
          have F635 : Old Z n0 h479 := F634.wr W479 ge_ta
          have F636 : Old Z n0 h482 := F635.wr W482 ge_ta
          have F637 : Old Z n0 h485 := F636.wr W485 ge_ta
          have F638 : Old Z n0 h488 := F637.wr W488 ge_ta
          have F639 : Old Z n0 h611 := F638.wr W611 ge_ta
          have F640 : s.heap.size ≤ h1.size := Nat.le_trans hk0 E1.1
          have F641 : s.heap.size ≤ h4.size := Nat.le_trans F640 (Nat.le_of_eq (Wr.size W4).symm)
          have F642 : s.heap.size ≤ h7.size := Nat.le_trans F641 (Nat.le_of_eq (Wr.size W7).symm)
          have F643 : s.heap.size ≤ h10.size := Nat.le_trans F642 (Nat.le_of_eq (Wr.size W10).symm)
          have F644 : s.heap.size ≤ h13.size := Nat.le_trans F643 (Nat.le_of_eq (Wr.size W13).symm)
          have F645 : s.heap.size ≤ h16.size := Nat.le_trans F644 (Nat.le_of_eq (Wr.size W16).symm)
          have F646 : s.heap.size ≤ h19.size := Nat.le_trans F645 (Nat.le_of_eq (Wr.size W19).symm)
          have F647 : s.heap.size ≤ h476.size := Nat.le_trans F646 (Nat.le_of_eq (Wr.size W476).symm)
          have F648 : s.heap.size ≤ h479.size := Nat.le_trans F647 (Nat.le_of_eq (Wr.size W479).symm)
          have F649 : s.heap.size ≤ h482.size := Nat.le_trans F648 (Nat.le_of_eq (Wr.size W482).symm)
          have F650 : s.heap.size ≤ h485.size := Nat.le_trans F649 (Nat.le_of_eq (Wr.size W485).symm)
          have F651 : s.heap.size ≤ h488.size := Nat.le_trans F650 (Nat.le_of_eq (Wr.size W488).symm)
          have F652 : s.heap.size ≤ h611.size := Nat.le_trans F651 (Nat.le_of_eq (Wr.size W611).symm)
          exact J22 _ _ _ (102 : Int32) (97 : Int32) d5 (115 : Int32) (101 : Int32) d5 (5 : Int32) (iv 1) (iv 5) (iv 1) X611 e611 N611 F626 F639 C612 F652 V611 (⟨by decide, by decide⟩) (⟨by decide, by decide⟩) q_d5 (⟨by decide, by decide⟩) (⟨by decide, by decide⟩) q_d5 (Or.inr (Or.inr (Or.inr (Or.inr (Or.inr (Or.inl rfl)))))) (Or.inr ⟨_, rfl, rfl⟩) (Or.inr ⟨_, rfl, rfl⟩) (Or.inr ⟨_, rfl, rfl⟩)
        · show Go _ _ _ _ T488 (mkF m 256 #[iv p0, iv p1, iv p2, iv d0, iv d1, iv d2, iv d3, iv d4, iv d5, rv ta, iv 5, iv 1, iv 5, iv 1, un] [(.int d5), (.int 3), (.ref ta)])
          obtain ⟨cl653, Ar653, q653, S653, M653, H653, G653⟩ := id V488
          have hin653 : ¬ ((3 : Int32) < 0 ∨ cl653.slots.size ≤ (3 : Int32).toNatClampNeg) := inb_of S653 ⟨by decide, by decide⟩
          obtain ⟨T653, h653, X653, e653, W653, st653⟩ := stC X488 hx hZ e488 Ar653 (j := (3 : Int32)) hin653 (g := (mkF m 256 #[iv p0, iv p1, iv p2, iv d0, iv d1, iv d2, iv d3, iv d4, iv d5, rv ta, iv 5, iv 1, iv 5, iv 1, un] [(.int d5), (.int 3), (.ref ta)])) rfl rfl (hb hby at_256)
          have C654 : CHr Z own_EL s.vm h0 s.vm h653 := C489.trans (CHr.wr W653 Sf490 C489.1)
          have Sf655 : Safe Z own_EL s.vm h653 ta := Safe.wr W653 Sf490 C489.1 Sf490
          have N653 := Fr.snoc X653 N488 ge_ta
          have V653 : Arv Z h653 ta k1 .char (6 : Int32) [(.int 102), (.int 97), (.int 108), (.int (nar .char d5)), (.int 101), (.int d5)] (.int 0) := Arv.set Ar653 q653 S653 M653 H653 G653 (fits_nar_char _) W653 3 rfl (Nat.le_of_ble_eq_true rfl)
          refine Go.by st653 ?_
          show Go _ _ _ _ T653 (mkF m 257 #[iv p0, iv p1, iv p2, iv d0, iv d1, iv d2, iv d3, iv d4, iv d5, rv ta, iv 5, iv 1, iv 5, iv 1, un] [])
          rw [own_ncb (t := d5) q_d5.1 q_d5.2] at V653
          refine Go.goto 340 X653 hx (hb hby at_257) (by decide) (by decide) ?_
          have F656 : n0 ≤ h1.size := Nat.le_trans Z0 E1.1
          have F657 : n0 ≤ h4.size := Nat.le_trans F656 (Nat.le_of_eq (Wr.size W4).symm)
          have F658 : n0 ≤ h7.size := Nat.le_trans F657 (Nat.le_of_eq (Wr.size W7).symm)
          have F659 : n0 ≤ h10.size := Nat.le_trans F658 (Nat.le_of_eq (Wr.size W10).symm)
          have F660 : n0 ≤ h13.size := Nat.le_trans F659 (Nat.le_of_eq (Wr.size W13).symm)
          have F661 : n0 ≤ h16.size := Nat.le_trans F660 (Nat.le_of_eq (Wr.size W16).symm)
          have F662 : n0 ≤ h19.size := Nat.le_trans F661 (Nat.le_of_eq (Wr.size W19).symm)
          have F663 : n0 ≤ h476.size := Nat.le_trans F662 (Nat.le_of_eq (Wr.size W476).symm)
          have F664 : n0 ≤ h479.size := Nat.le_trans F663 (Nat.le_of_eq (Wr.size W479).symm)
          have F665 : n0 ≤ h482.size := Nat.le_trans F664 (Nat.le_of_eq (Wr.size W482).symm)
          have F666 : n0 ≤ h485.size := Nat.le_trans F665 (Nat.le_of_eq (Wr.size W485).symm)
          have F667 : n0 ≤ h488.size := Nat.le_trans F666 (Nat.le_of_eq (Wr.size W488).symm)
          have F668 : n0 ≤ h653.size := Nat.le_trans F667 (Nat.le_of_eq (Wr.size W653).symm)
          have F669 : Old Z n0 h1 := O0.ext E1
          have F670 : Old Z n0 h4 := F669.wr W4 ge_ta
          have F671 : Old Z n0 h7 := F670.wr W7 ge_ta
          have F672 : Old Z n0 h10 := F671.wr W10 ge_ta
          have F673 : Old Z n0 h13 := F672.wr W13 ge_ta
          have F674 : Old Z n0 h16 := F673.wr W16 ge_ta
          have F675 : Old Z n0 h19 := F674.wr W19 ge_ta
          have F676 : Old Z n0 h476 := F675.wr W476 ge_ta
          have F677 : Old Z n0 h479 := F676.wr W479 ge_ta
          have F678 : Old Z n0 h482 := F677.wr W482 ge_ta
          have F679 : Old Z n0 h485 := F678.wr W485 ge_ta
          have F680 : Old Z n0 h488 := F679.wr W488 ge_ta
          have F681 : Old Z n0 h653 := F680.wr W653 ge_ta
          have F682 : s.heap.size ≤ h1.size := Nat.le_trans hk0 E1.1
          have F683 : s.heap.size ≤ h4.size := Nat.le_trans F682 (Nat.le_of_eq (Wr.size W4).symm)
          have F684 : s.heap.size ≤ h7.size := Nat.le_trans F683 (Nat.le_of_eq (Wr.size W7).symm)
          have F685 : s.heap.size ≤ h10.size := Nat.le_trans F684 (Nat.le_of_eq (Wr.size W10).symm)
          have F686 : s.heap.size ≤ h13.size := Nat.le_trans F685 (Nat.le_of_eq (Wr.size W13).symm)
          have F687 : s.heap.size ≤ h16.size := Nat.le_trans F686 (Nat.le_of_eq (Wr.size W16).symm)
          have F688 : s.heap.size ≤ h19.size := Nat.le_trans F687 (Nat.le_of_eq (Wr.size W19).symm)
          have F689 : s.heap.size ≤ h476.size := Nat.le_trans F688 (Nat.le_of_eq (Wr.size W476).symm)
          have F690 : s.heap.size ≤ h479.size := Nat.le_trans F689 (Nat.le_of_eq (Wr.size W479).symm)
          have F691 : s.heap.size ≤ h482.size := Nat.le_trans F690 (Nat.le_of_eq (Wr.size W482).symm)
          have F692 : s.heap.size ≤ h485.size := Nat.le_trans F691 (Nat.le_of_eq (Wr.size W485).symm)
          have F693 : s.heap.size ≤ h488.size := Nat.le_trans F692 (Nat.le_of_eq (Wr.size W488).symm)
          have F694 : s.heap.size ≤ h653.size := Nat.le_trans F693 (Nat.le_of_eq (Wr.size W653).symm)
          exact J22 _ _ _ (102 : Int32) (97 : Int32) (108 : Int32) d5 (101 : Int32) d5 (5 : Int32) (iv 1) (iv 5) (iv 1) X653 e653 N653 F668 F681 C654 F694 V653 (⟨by decide, by decide⟩) (⟨by decide, by decide⟩) (⟨by decide, by decide⟩) q_d5 (⟨by decide, by decide⟩) q_d5 (Or.inr (Or.inr (Or.inr (Or.inr (Or.inr (Or.inl rfl)))))) (Or.inr ⟨_, rfl, rfl⟩) (Or.inr ⟨_, rfl, rfl⟩) (Or.inr ⟨_, rfl, rfl⟩)
        · show Go _ _ _ _ T488 (mkF m 256 #[iv p0, iv p1, iv p2, iv d0, iv d1, iv d2, iv d3, iv d4, iv d5, rv ta, iv 5, iv 1, iv 5, iv 1, un] [(.int d5), (.int 4), (.ref ta)])
          obtain ⟨cl695, Ar695, q695, S695, M695, H695, G695⟩ := id V488
          have hin695 : ¬ ((4 : Int32) < 0 ∨ cl695.slots.size ≤ (4 : Int32).toNatClampNeg) := inb_of S695 ⟨by decide, by decide⟩
          obtain ⟨T695, h695, X695, e695, W695, st695⟩ := stC X488 hx hZ e488 Ar695 (j := (4 : Int32)) hin695 (g := (mkF m 256 #[iv p0, iv p1, iv p2, iv d0, iv d1, iv d2, iv d3, iv d4, iv d5, rv ta, iv 5, iv 1, iv 5, iv 1, un] [(.int d5), (.int 4), (.ref ta)])) rfl rfl (hb hby at_256)
          have C696 : CHr Z own_EL s.vm h0 s.vm h695 := C489.trans (CHr.wr W695 Sf490 C489.1)
          have Sf697 : Safe Z own_EL s.vm h695 ta := Safe.wr W695 Sf490 C489.1 Sf490
          have N695 := Fr.snoc X695 N488 ge_ta
          have V695 : Arv Z h695 ta k1 .char (6 : Int32) [(.int 102), (.int 97), (.int 108), (.int 115), (.int (nar .char d5)), (.int d5)] (.int 0) := Arv.set Ar695 q695 S695 M695 H695 G695 (fits_nar_char _) W695 4 rfl (Nat.le_of_ble_eq_true rfl)
          refine Go.by st695 ?_
          show Go _ _ _ _ T695 (mkF m 257 #[iv p0, iv p1, iv p2, iv d0, iv d1, iv d2, iv d3, iv d4, iv d5, rv ta, iv 5, iv 1, iv 5, iv 1, un] [])
          rw [own_ncb (t := d5) q_d5.1 q_d5.2] at V695
          refine Go.goto 340 X695 hx (hb hby at_257) (by decide) (by decide) ?_
          have F698 : n0 ≤ h1.size := Nat.le_trans Z0 E1.1
          have F699 : n0 ≤ h4.size := Nat.le_trans F698 (Nat.le_of_eq (Wr.size W4).symm)
          have F700 : n0 ≤ h7.size := Nat.le_trans F699 (Nat.le_of_eq (Wr.size W7).symm)
          have F701 : n0 ≤ h10.size := Nat.le_trans F700 (Nat.le_of_eq (Wr.size W10).symm)
          have F702 : n0 ≤ h13.size := Nat.le_trans F701 (Nat.le_of_eq (Wr.size W13).symm)
          have F703 : n0 ≤ h16.size := Nat.le_trans F702 (Nat.le_of_eq (Wr.size W16).symm)
          have F704 : n0 ≤ h19.size := Nat.le_trans F703 (Nat.le_of_eq (Wr.size W19).symm)
          have F705 : n0 ≤ h476.size := Nat.le_trans F704 (Nat.le_of_eq (Wr.size W476).symm)
          have F706 : n0 ≤ h479.size := Nat.le_trans F705 (Nat.le_of_eq (Wr.size W479).symm)
          have F707 : n0 ≤ h482.size := Nat.le_trans F706 (Nat.le_of_eq (Wr.size W482).symm)
          have F708 : n0 ≤ h485.size := Nat.le_trans F707 (Nat.le_of_eq (Wr.size W485).symm)
          have F709 : n0 ≤ h488.size := Nat.le_trans F708 (Nat.le_of_eq (Wr.size W488).symm)
          have F710 : n0 ≤ h695.size := Nat.le_trans F709 (Nat.le_of_eq (Wr.size W695).symm)
          have F711 : Old Z n0 h1 := O0.ext E1
          have F712 : Old Z n0 h4 := F711.wr W4 ge_ta
          have F713 : Old Z n0 h7 := F712.wr W7 ge_ta
          have F714 : Old Z n0 h10 := F713.wr W10 ge_ta
          have F715 : Old Z n0 h13 := F714.wr W13 ge_ta
          have F716 : Old Z n0 h16 := F715.wr W16 ge_ta
          have F717 : Old Z n0 h19 := F716.wr W19 ge_ta
          have F718 : Old Z n0 h476 := F717.wr W476 ge_ta
          have F719 : Old Z n0 h479 := F718.wr W479 ge_ta
          have F720 : Old Z n0 h482 := F719.wr W482 ge_ta
          have F721 : Old Z n0 h485 := F720.wr W485 ge_ta
          have F722 : Old Z n0 h488 := F721.wr W488 ge_ta
          have F723 : Old Z n0 h695 := F722.wr W695 ge_ta
          have F724 : s.heap.size ≤ h1.size := Nat.le_trans hk0 E1.1
          have F725 : s.heap.size ≤ h4.size := Nat.le_trans F724 (Nat.le_of_eq (Wr.size W4).symm)
          have F726 : s.heap.size ≤ h7.size := Nat.le_trans F725 (Nat.le_of_eq (Wr.size W7).symm)
          have F727 : s.heap.size ≤ h10.size := Nat.le_trans F726 (Nat.le_of_eq (Wr.size W10).symm)
          have F728 : s.heap.size ≤ h13.size := Nat.le_trans F727 (Nat.le_of_eq (Wr.size W13).symm)
          have F729 : s.heap.size ≤ h16.size := Nat.le_trans F728 (Nat.le_of_eq (Wr.size W16).symm)
          have F730 : s.heap.size ≤ h19.size := Nat.le_trans F729 (Nat.le_of_eq (Wr.size W19).symm)
          have F731 : s.heap.size ≤ h476.size := Nat.le_trans F730 (Nat.le_of_eq (Wr.size W476).symm)
          have F732 : s.heap.size ≤ h479.size := Nat.le_trans F731 (Nat.le_of_eq (Wr.size W479).symm)
          have F733 : s.heap.size ≤ h482.size := Nat.le_trans F732 (Nat.le_of_eq (Wr.size W482).symm)
          have F734 : s.heap.size ≤ h485.size := Nat.le_trans F733 (Nat.le_of_eq (Wr.size W485).symm)
          have F735 : s.heap.size ≤ h488.size := Nat.le_trans F734 (Nat.le_of_eq (Wr.size W488).symm)
          have F736 : s.heap.size ≤ h695.size := Nat.le_trans F735 (Nat.le_of_eq (Wr.size W695).symm)
          exact J22 _ _ _ (102 : Int32) (97 : Int32) (108 : Int32) (115 : Int32) d5 d5 (5 : Int32) (iv 1) (iv 5) (iv 1) X695 e695 N695 F710 F723 C696 F736 V695 (⟨by decide, by decide⟩) (⟨by decide, by decide⟩) (⟨by decide, by decide⟩) (⟨by decide, by decide⟩) q_d5 q_d5 (Or.inr (Or.inr (Or.inr (Or.inr (Or.inr (Or.inl rfl)))))) (Or.inr ⟨_, rfl, rfl⟩) (Or.inr ⟨_, rfl, rfl⟩) (Or.inr ⟨_, rfl, rfl⟩)
      · obtain rfl : ed = 2 := h_ed.trans he
        show Go _ _ _ _ T488 (mkF m 236 #[iv p0, iv p1, iv p2, iv d0, iv d1, iv d2, iv d3, iv d4, iv d5, rv ta, iv 5, iv 1, iv 5, iv 2, un] [])
        refine Go.iload2 238 X488 hx (hb hby at_236) rfl rfl ?_
        refine Go.iconst 239 X488 hx (1 : Int32) (hb hby at_238) (by decide) rfl ?_
        refine Go.icmpY 260 X488 hx (hb hby at_239) (XT.ii_ne_t (by decide)) (by decide) (by decide) ?_
        refine Go.iload2 262 X488 hx (hb hby at_260) rfl rfl ?_
        refine Go.iconst 263 X488 hx (2 : Int32) (hb hby at_262) (by decide) rfl ?_
        refine Go.icmpN 266 X488 hx (hb hby at_263) (XT.ii_ne_f rfl) rfl ?_
        refine Go.aload2 268 X488 hx (hb hby at_266) rfl rfl rfl ?_
        refine Go.iload2 270 X488 hx (hb hby at_268) rfl rfl ?_
        refine Go.iload2 272 X488 hx (hb hby at_270) rfl rfl ?_
        obtain ⟨cl737, Ar737, q737, S737, M737, H737, G737⟩ := id V488
        have hin737 : ¬ ((5 : Int32) < 0 ∨ cl737.slots.size ≤ (5 : Int32).toNatClampNeg) := inb_of S737 ⟨by decide, by decide⟩
        obtain ⟨T737, h737, X737, e737, W737, st737⟩ := stC X488 hx hZ e488 Ar737 (j := (5 : Int32)) hin737 (g := (mkF m 272 #[iv p0, iv p1, iv p2, iv d0, iv d1, iv d2, iv d3, iv d4, iv d5, rv ta, iv 5, iv 1, iv 5, iv 2, un] [(.int d5), (.int 5), (.ref ta)])) rfl rfl (hb hby at_272)
        have C738 : CHr Z own_EL s.vm h0 s.vm h737 := C489.trans (CHr.wr W737 Sf490 C489.1)
        have Sf739 : Safe Z own_EL s.vm h737 ta := Safe.wr W737 Sf490 C489.1 Sf490
        have N737 := Fr.snoc X737 N488 ge_ta
        have V737 : Arv Z h737 ta k1 .char (6 : Int32) [(.int 102), (.int 97), (.int 108), (.int 115), (.int 101), (.int (nar .char d5))] (.int 0) := Arv.set Ar737 q737 S737 M737 H737 G737 (fits_nar_char _) W737 5 rfl (Nat.le_of_ble_eq_true rfl)
        refine Go.by st737 ?_
        show Go _ _ _ _ T737 (mkF m 273 #[iv p0, iv p1, iv p2, iv d0, iv d1, iv d2, iv d3, iv d4, iv d5, rv ta, iv 5, iv 1, iv 5, iv 2, un] [])
        rw [own_ncb (t := d5) q_d5.1 q_d5.2] at V737
        refine Go.iload2 275 X737 hx (hb hby at_273) rfl rfl ?_
        refine Go.iconst 276 X737 hx (1 : Int32) (hb hby at_275) (by decide) rfl ?_
        refine Go.iadd 277 X737 hx (hb hby at_276) rfl ?_
        rw [(by decide : ((5 : Int32) + (1 : Int32)) = (6 : Int32))]
        refine Go.istore2 279 X737 hx (L' := #[iv p0, iv p1, iv p2, iv d0, iv d1, iv d2, iv d3, iv d4, iv d5, rv ta, iv 6, iv 1, iv 5, iv 2, un]) (hb hby at_277) rfl rfl ?_
        refine Go.goto 340 X737 hx (hb hby at_279) (by decide) (by decide) ?_
        have F740 : n0 ≤ h1.size := Nat.le_trans Z0 E1.1
        have F741 : n0 ≤ h4.size := Nat.le_trans F740 (Nat.le_of_eq (Wr.size W4).symm)
        have F742 : n0 ≤ h7.size := Nat.le_trans F741 (Nat.le_of_eq (Wr.size W7).symm)
        have F743 : n0 ≤ h10.size := Nat.le_trans F742 (Nat.le_of_eq (Wr.size W10).symm)
        have F744 : n0 ≤ h13.size := Nat.le_trans F743 (Nat.le_of_eq (Wr.size W13).symm)
        have F745 : n0 ≤ h16.size := Nat.le_trans F744 (Nat.le_of_eq (Wr.size W16).symm)
        have F746 : n0 ≤ h19.size := Nat.le_trans F745 (Nat.le_of_eq (Wr.size W19).symm)
        have F747 : n0 ≤ h476.size := Nat.le_trans F746 (Nat.le_of_eq (Wr.size W476).symm)
        have F748 : n0 ≤ h479.size := Nat.le_trans F747 (Nat.le_of_eq (Wr.size W479).symm)
        have F749 : n0 ≤ h482.size := Nat.le_trans F748 (Nat.le_of_eq (Wr.size W482).symm)
        have F750 : n0 ≤ h485.size := Nat.le_trans F749 (Nat.le_of_eq (Wr.size W485).symm)
        have F751 : n0 ≤ h488.size := Nat.le_trans F750 (Nat.le_of_eq (Wr.size W488).symm)
        have F752 : n0 ≤ h737.size := Nat.le_trans F751 (Nat.le_of_eq (Wr.size W737).symm)
        have F753 : Old Z n0 h1 := O0.ext E1
        have F754 : Old Z n0 h4 := F753.wr W4 ge_ta
        have F755 : Old Z n0 h7 := F754.wr W7 ge_ta
        have F756 : Old Z n0 h10 := F755.wr W10 ge_ta
        have F757 : Old Z n0 h13 := F756.wr W13 ge_ta
        have F758 : Old Z n0 h16 := F757.wr W16 ge_ta
        have F759 : Old Z n0 h19 := F758.wr W19 ge_ta
        have F760 : Old Z n0 h476 := F759.wr W476 ge_ta
        have F761 : Old Z n0 h479 := F760.wr W479 ge_ta
        have F762 : Old Z n0 h482 := F761.wr W482 ge_ta
        have F763 : Old Z n0 h485 := F762.wr W485 ge_ta
        have F764 : Old Z n0 h488 := F763.wr W488 ge_ta
        have F765 : Old Z n0 h737 := F764.wr W737 ge_ta
        have F766 : s.heap.size ≤ h1.size := Nat.le_trans hk0 E1.1
        have F767 : s.heap.size ≤ h4.size := Nat.le_trans F766 (Nat.le_of_eq (Wr.size W4).symm)
        have F768 : s.heap.size ≤ h7.size := Nat.le_trans F767 (Nat.le_of_eq (Wr.size W7).symm)
        have F769 : s.heap.size ≤ h10.size := Nat.le_trans F768 (Nat.le_of_eq (Wr.size W10).symm)
        have F770 : s.heap.size ≤ h13.size := Nat.le_trans F769 (Nat.le_of_eq (Wr.size W13).symm)
        have F771 : s.heap.size ≤ h16.size := Nat.le_trans F770 (Nat.le_of_eq (Wr.size W16).symm)
        have F772 : s.heap.size ≤ h19.size := Nat.le_trans F771 (Nat.le_of_eq (Wr.size W19).symm)
        have F773 : s.heap.size ≤ h476.size := Nat.le_trans F772 (Nat.le_of_eq (Wr.size W476).symm)
        have F774 : s.heap.size ≤ h479.size := Nat.le_trans F773 (Nat.le_of_eq (Wr.size W479).symm)
        have F775 : s.heap.size ≤ h482.size := Nat.le_trans F774 (Nat.le_of_eq (Wr.size W482).symm)
        have F776 : s.heap.size ≤ h485.size := Nat.le_trans F775 (Nat.le_of_eq (Wr.size W485).symm)
        have F777 : s.heap.size ≤ h488.size := Nat.le_trans F776 (Nat.le_of_eq (Wr.size W488).symm)
        have F778 : s.heap.size ≤ h737.size := Nat.le_trans F777 (Nat.le_of_eq (Wr.size W737).symm)
        exact J22 _ _ _ (102 : Int32) (97 : Int32) (108 : Int32) (115 : Int32) (101 : Int32) d5 (6 : Int32) (iv 1) (iv 5) (iv 2) X737 e737 N737 F752 F765 C738 F778 V737 (⟨by decide, by decide⟩) (⟨by decide, by decide⟩) (⟨by decide, by decide⟩) (⟨by decide, by decide⟩) (⟨by decide, by decide⟩) q_d5 (Or.inr (Or.inr (Or.inr (Or.inr (Or.inr (Or.inr (rfl))))))) (Or.inr ⟨_, rfl, rfl⟩) (Or.inr ⟨_, rfl, rfl⟩) (Or.inr ⟨_, rfl, rfl⟩)
      · obtain rfl : ed = 3 := h_ed.trans he
        show Go _ _ _ _ T488 (mkF m 236 #[iv p0, iv p1, iv p2, iv d0, iv d1, iv d2, iv d3, iv d4, iv d5, rv ta, iv 5, iv 1, iv 5, iv 3, un] [])
        refine Go.iload2 238 X488 hx (hb hby at_236) rfl rfl ?_
        refine Go.iconst 239 X488 hx (1 : Int32) (hb hby at_238) (by decide) rfl ?_
        refine Go.icmpY 260 X488 hx (hb hby at_239) (XT.ii_ne_t (by decide)) (by decide) (by decide) ?_
        refine Go.iload2 262 X488 hx (hb hby at_260) rfl rfl ?_
        refine Go.iconst 263 X488 hx (2 : Int32) (hb hby at_262) (by decide) rfl ?_
        refine Go.icmpY 282 X488 hx (hb hby at_263) (XT.ii_ne_t (by decide)) (by decide) (by decide) ?_
        refine Go.iload2 284 X488 hx (hb hby at_282) rfl rfl ?_
        refine Go.iconst 285 X488 hx (3 : Int32) (hb hby at_284) (by decide) rfl ?_
        refine Go.icmpN 288 X488 hx (hb hby at_285) (XT.ii_ne_f rfl) rfl ?_
        refine Go.aload2 290 X488 hx (hb hby at_288) rfl rfl rfl ?_
        refine Go.iconst 291 X488 hx (5 : Int32) (hb hby at_290) (by decide) rfl ?_
        refine Go.aload2 293 X488 hx (hb hby at_291) rfl rfl rfl ?_
        refine Go.iconst 294 X488 hx (4 : Int32) (hb hby at_293) (by decide) rfl ?_
        obtain ⟨cl779, Ar779, -, S779, M779, H779, -⟩ := id V488
        have hin779 : ¬ ((4 : Int32) < 0 ∨ cl779.slots.size ≤ (4 : Int32).toNatClampNeg) := inb_of S779 ⟨by decide, by decide⟩
        refine Go.by (fun _ gk => X488.caload hx (j := (4 : Int32)) (v := (.int 101)) (by rw [e488]; exact Ar779.1) (State.isArrayOf_alike hZ.alike Ar779.2.1) Ar779.2.2 hin779 (Has.at H779 hin779 rfl) (g := (mkF m 294 #[iv p0, iv p1, iv p2, iv d0, iv d1, iv d2, iv d3, iv d4, iv d5, rv ta, iv 5, iv 1, iv 5, iv 3, un] [(.int 4), (.ref ta), (.int 5), (.ref ta)])) rfl rfl (hb hby at_294) _ gk) ?_
        show Go _ _ _ _ T488 (mkF m 295 #[iv p0, iv p1, iv p2, iv d0, iv d1, iv d2, iv d3, iv d4, iv d5, rv ta, iv 5, iv 1, iv 5, iv 3, un] [(.int 101), (.int 5), (.ref ta)])
        obtain ⟨cl780, Ar780, q780, S780, M780, H780, G780⟩ := id V488
        have hin780 : ¬ ((5 : Int32) < 0 ∨ cl780.slots.size ≤ (5 : Int32).toNatClampNeg) := inb_of S780 ⟨by decide, by decide⟩
        obtain ⟨T780, h780, X780, e780, W780, st780⟩ := stC X488 hx hZ e488 Ar780 (j := (5 : Int32)) hin780 (g := (mkF m 295 #[iv p0, iv p1, iv p2, iv d0, iv d1, iv d2, iv d3, iv d4, iv d5, rv ta, iv 5, iv 1, iv 5, iv 3, un] [(.int 101), (.int 5), (.ref ta)])) rfl rfl (hb hby at_295)
        have C781 : CHr Z own_EL s.vm h0 s.vm h780 := C489.trans (CHr.wr W780 Sf490 C489.1)
        have Sf782 : Safe Z own_EL s.vm h780 ta := Safe.wr W780 Sf490 C489.1 Sf490
        have N780 := Fr.snoc X780 N488 ge_ta
        have V780 : Arv Z h780 ta k1 .char (6 : Int32) [(.int 102), (.int 97), (.int 108), (.int 115), (.int 101), (.int (nar .char (101 : Int32)))] (.int 0) := Arv.set Ar780 q780 S780 M780 H780 G780 (fits_nar_char _) W780 5 rfl (Nat.le_of_ble_eq_true rfl)
        refine Go.by st780 ?_
        show Go _ _ _ _ T780 (mkF m 296 #[iv p0, iv p1, iv p2, iv d0, iv d1, iv d2, iv d3, iv d4, iv d5, rv ta, iv 5, iv 1, iv 5, iv 3, un] [])
        rw [own_ncb (t := (101 : Int32)) (⟨by decide, by decide⟩ : ¬ (101 : Int32) < 0 ∧ ¬ (255 : Int32) < (101 : Int32)).1 (⟨by decide, by decide⟩ : ¬ (101 : Int32) < 0 ∧ ¬ (255 : Int32) < (101 : Int32)).2] at V780
        refine Go.aload2 298 X780 hx (hb hby at_296) rfl rfl rfl ?_
        refine Go.iconst 299 X780 hx (4 : Int32) (hb hby at_298) (by decide) rfl ?_
        refine Go.aload2 301 X780 hx (hb hby at_299) rfl rfl rfl ?_
        refine Go.iconst 302 X780 hx (3 : Int32) (hb hby at_301) (by decide) rfl ?_
        obtain ⟨cl783, Ar783, -, S783, M783, H783, -⟩ := id V780
        have hin783 : ¬ ((3 : Int32) < 0 ∨ cl783.slots.size ≤ (3 : Int32).toNatClampNeg) := inb_of S783 ⟨by decide, by decide⟩
        refine Go.by (fun _ gk => X780.caload hx (j := (3 : Int32)) (v := (.int 115)) (by rw [e780]; exact Ar783.1) (State.isArrayOf_alike hZ.alike Ar783.2.1) Ar783.2.2 hin783 (Has.at H783 hin783 rfl) (g := (mkF m 302 #[iv p0, iv p1, iv p2, iv d0, iv d1, iv d2, iv d3, iv d4, iv d5, rv ta, iv 5, iv 1, iv 5, iv 3, un] [(.int 3), (.ref ta), (.int 4), (.ref ta)])) rfl rfl (hb hby at_302) _ gk) ?_
        show Go _ _ _ _ T780 (mkF m 303 #[iv p0, iv p1, iv p2, iv d0, iv d1, iv d2, iv d3, iv d4, iv d5, rv ta, iv 5, iv 1, iv 5, iv 3, un] [(.int 115), (.int 4), (.ref ta)])
        obtain ⟨cl784, Ar784, q784, S784, M784, H784, G784⟩ := id V780
        have hin784 : ¬ ((4 : Int32) < 0 ∨ cl784.slots.size ≤ (4 : Int32).toNatClampNeg) := inb_of S784 ⟨by decide, by decide⟩
        obtain ⟨T784, h784, X784, e784, W784, st784⟩ := stC X780 hx hZ e780 Ar784 (j := (4 : Int32)) hin784 (g := (mkF m 303 #[iv p0, iv p1, iv p2, iv d0, iv d1, iv d2, iv d3, iv d4, iv d5, rv ta, iv 5, iv 1, iv 5, iv 3, un] [(.int 115), (.int 4), (.ref ta)])) rfl rfl (hb hby at_303)
        have C785 : CHr Z own_EL s.vm h0 s.vm h784 := C781.trans (CHr.wr W784 Sf782 C781.1)
        have Sf786 : Safe Z own_EL s.vm h784 ta := Safe.wr W784 Sf782 C781.1 Sf782
        have N784 := Fr.snoc X784 N780 ge_ta
        have V784 : Arv Z h784 ta k1 .char (6 : Int32) [(.int 102), (.int 97), (.int 108), (.int 115), (.int (nar .char (115 : Int32))), (.int 101)] (.int 0) := Arv.set Ar784 q784 S784 M784 H784 G784 (fits_nar_char _) W784 4 rfl (Nat.le_of_ble_eq_true rfl)
        refine Go.by st784 ?_
        show Go _ _ _ _ T784 (mkF m 304 #[iv p0, iv p1, iv p2, iv d0, iv d1, iv d2, iv d3, iv d4, iv d5, rv ta, iv 5, iv 1, iv 5, iv 3, un] [])
        rw [own_ncb (t := (115 : Int32)) (⟨by decide, by decide⟩ : ¬ (115 : Int32) < 0 ∧ ¬ (255 : Int32) < (115 : Int32)).1 (⟨by decide, by decide⟩ : ¬ (115 : Int32) < 0 ∧ ¬ (255 : Int32) < (115 : Int32)).2] at V784
        refine Go.aload2 306 X784 hx (hb hby at_304) rfl rfl rfl ?_
        refine Go.iconst 307 X784 hx (3 : Int32) (hb hby at_306) (by decide) rfl ?_
        refine Go.aload2 309 X784 hx (hb hby at_307) rfl rfl rfl ?_
        refine Go.iconst 310 X784 hx (2 : Int32) (hb hby at_309) (by decide) rfl ?_
        obtain ⟨cl787, Ar787, -, S787, M787, H787, -⟩ := id V784
        have hin787 : ¬ ((2 : Int32) < 0 ∨ cl787.slots.size ≤ (2 : Int32).toNatClampNeg) := inb_of S787 ⟨by decide, by decide⟩
        refine Go.by (fun _ gk => X784.caload hx (j := (2 : Int32)) (v := (.int 108)) (by rw [e784]; exact Ar787.1) (State.isArrayOf_alike hZ.alike Ar787.2.1) Ar787.2.2 hin787 (Has.at H787 hin787 rfl) (g := (mkF m 310 #[iv p0, iv p1, iv p2, iv d0, iv d1, iv d2, iv d3, iv d4, iv d5, rv ta, iv 5, iv 1, iv 5, iv 3, un] [(.int 2), (.ref ta), (.int 3), (.ref ta)])) rfl rfl (hb hby at_310) _ gk) ?_
        show Go _ _ _ _ T784 (mkF m 311 #[iv p0, iv p1, iv p2, iv d0, iv d1, iv d2, iv d3, iv d4, iv d5, rv ta, iv 5, iv 1, iv 5, iv 3, un] [(.int 108), (.int 3), (.ref ta)])
        obtain ⟨cl788, Ar788, q788, S788, M788, H788, G788⟩ := id V784
        have hin788 : ¬ ((3 : Int32) < 0 ∨ cl788.slots.size ≤ (3 : Int32).toNatClampNeg) := inb_of S788 ⟨by decide, by decide⟩
        obtain ⟨T788, h788, X788, e788, W788, st788⟩ := stC X784 hx hZ e784 Ar788 (j := (3 : Int32)) hin788 (g := (mkF m 311 #[iv p0, iv p1, iv p2, iv d0, iv d1, iv d2, iv d3, iv d4, iv d5, rv ta, iv 5, iv 1, iv 5, iv 3, un] [(.int 108), (.int 3), (.ref ta)])) rfl rfl (hb hby at_311)
        have C789 : CHr Z own_EL s.vm h0 s.vm h788 := C785.trans (CHr.wr W788 Sf786 C785.1)
        have Sf790 : Safe Z own_EL s.vm h788 ta := Safe.wr W788 Sf786 C785.1 Sf786
        have N788 := Fr.snoc X788 N784 ge_ta
        have V788 : Arv Z h788 ta k1 .char (6 : Int32) [(.int 102), (.int 97), (.int 108), (.int (nar .char (108 : Int32))), (.int 115), (.int 101)] (.int 0) := Arv.set Ar788 q788 S788 M788 H788 G788 (fits_nar_char _) W788 3 rfl (Nat.le_of_ble_eq_true rfl)
        refine Go.by st788 ?_
        show Go _ _ _ _ T788 (mkF m 312 #[iv p0, iv p1, iv p2, iv d0, iv d1, iv d2, iv d3, iv d4, iv d5, rv ta, iv 5, iv 1, iv 5, iv 3, un] [])
        rw [own_ncb (t := (108 : Int32)) (⟨by decide, by decide⟩ : ¬ (108 : Int32) < 0 ∧ ¬ (255 : Int32) < (108 : Int32)).1 (⟨by decide, by decide⟩ : ¬ (108 : Int32) < 0 ∧ ¬ (255 : Int32) < (108 : Int32)).2] at V788
        refine Go.aload2 314 X788 hx (hb hby at_312) rfl rfl rfl ?_
        refine Go.iconst 315 X788 hx (2 : Int32) (hb hby at_314) (by decide) rfl ?_
        refine Go.aload2 317 X788 hx (hb hby at_315) rfl rfl rfl ?_
        refine Go.iconst 318 X788 hx (1 : Int32) (hb hby at_317) (by decide) rfl ?_
        obtain ⟨cl791, Ar791, -, S791, M791, H791, -⟩ := id V788
        have hin791 : ¬ ((1 : Int32) < 0 ∨ cl791.slots.size ≤ (1 : Int32).toNatClampNeg) := inb_of S791 ⟨by decide, by decide⟩
        refine Go.by (fun _ gk => X788.caload hx (j := (1 : Int32)) (v := (.int 97)) (by rw [e788]; exact Ar791.1) (State.isArrayOf_alike hZ.alike Ar791.2.1) Ar791.2.2 hin791 (Has.at H791 hin791 rfl) (g := (mkF m 318 #[iv p0, iv p1, iv p2, iv d0, iv d1, iv d2, iv d3, iv d4, iv d5, rv ta, iv 5, iv 1, iv 5, iv 3, un] [(.int 1), (.ref ta), (.int 2), (.ref ta)])) rfl rfl (hb hby at_318) _ gk) ?_
        show Go _ _ _ _ T788 (mkF m 319 #[iv p0, iv p1, iv p2, iv d0, iv d1, iv d2, iv d3, iv d4, iv d5, rv ta, iv 5, iv 1, iv 5, iv 3, un] [(.int 97), (.int 2), (.ref ta)])
        obtain ⟨cl792, Ar792, q792, S792, M792, H792, G792⟩ := id V788
        have hin792 : ¬ ((2 : Int32) < 0 ∨ cl792.slots.size ≤ (2 : Int32).toNatClampNeg) := inb_of S792 ⟨by decide, by decide⟩
        obtain ⟨T792, h792, X792, e792, W792, st792⟩ := stC X788 hx hZ e788 Ar792 (j := (2 : Int32)) hin792 (g := (mkF m 319 #[iv p0, iv p1, iv p2, iv d0, iv d1, iv d2, iv d3, iv d4, iv d5, rv ta, iv 5, iv 1, iv 5, iv 3, un] [(.int 97), (.int 2), (.ref ta)])) rfl rfl (hb hby at_319)
        have C793 : CHr Z own_EL s.vm h0 s.vm h792 := C789.trans (CHr.wr W792 Sf790 C789.1)
        have Sf794 : Safe Z own_EL s.vm h792 ta := Safe.wr W792 Sf790 C789.1 Sf790
        have N792 := Fr.snoc X792 N788 ge_ta
        have V792 : Arv Z h792 ta k1 .char (6 : Int32) [(.int 102), (.int 97), (.int (nar .char (97 : Int32))), (.int 108), (.int 115), (.int 101)] (.int 0) := Arv.set Ar792 q792 S792 M792 H792 G792 (fits_nar_char _) W792 2 rfl (Nat.le_of_ble_eq_true rfl)
        refine Go.by st792 ?_
        show Go _ _ _ _ T792 (mkF m 320 #[iv p0, iv p1, iv p2, iv d0, iv d1, iv d2, iv d3, iv d4, iv d5, rv ta, iv 5, iv 1, iv 5, iv 3, un] [])
        rw [own_ncb (t := (97 : Int32)) (⟨by decide, by decide⟩ : ¬ (97 : Int32) < 0 ∧ ¬ (255 : Int32) < (97 : Int32)).1 (⟨by decide, by decide⟩ : ¬ (97 : Int32) < 0 ∧ ¬ (255 : Int32) < (97 : Int32)).2] at V792
        refine Go.aload2 322 X792 hx (hb hby at_320) rfl rfl rfl ?_
        refine Go.iconst 323 X792 hx (1 : Int32) (hb hby at_322) (by decide) rfl ?_
        refine Go.aload2 325 X792 hx (hb hby at_323) rfl rfl rfl ?_
        refine Go.iconst 326 X792 hx (0 : Int32) (hb hby at_325) (by decide) rfl ?_
        obtain ⟨cl795, Ar795, -, S795, M795, H795, -⟩ := id V792
        have hin795 : ¬ ((0 : Int32) < 0 ∨ cl795.slots.size ≤ (0 : Int32).toNatClampNeg) := inb_of S795 ⟨by decide, by decide⟩
        refine Go.by (fun _ gk => X792.caload hx (j := (0 : Int32)) (v := (.int 102)) (by rw [e792]; exact Ar795.1) (State.isArrayOf_alike hZ.alike Ar795.2.1) Ar795.2.2 hin795 (Has.at H795 hin795 rfl) (g := (mkF m 326 #[iv p0, iv p1, iv p2, iv d0, iv d1, iv d2, iv d3, iv d4, iv d5, rv ta, iv 5, iv 1, iv 5, iv 3, un] [(.int 0), (.ref ta), (.int 1), (.ref ta)])) rfl rfl (hb hby at_326) _ gk) ?_
        show Go _ _ _ _ T792 (mkF m 327 #[iv p0, iv p1, iv p2, iv d0, iv d1, iv d2, iv d3, iv d4, iv d5, rv ta, iv 5, iv 1, iv 5, iv 3, un] [(.int 102), (.int 1), (.ref ta)])
        obtain ⟨cl796, Ar796, q796, S796, M796, H796, G796⟩ := id V792
        have hin796 : ¬ ((1 : Int32) < 0 ∨ cl796.slots.size ≤ (1 : Int32).toNatClampNeg) := inb_of S796 ⟨by decide, by decide⟩
        obtain ⟨T796, h796, X796, e796, W796, st796⟩ := stC X792 hx hZ e792 Ar796 (j := (1 : Int32)) hin796 (g := (mkF m 327 #[iv p0, iv p1, iv p2, iv d0, iv d1, iv d2, iv d3, iv d4, iv d5, rv ta, iv 5, iv 1, iv 5, iv 3, un] [(.int 102), (.int 1), (.ref ta)])) rfl rfl (hb hby at_327)
        have C797 : CHr Z own_EL s.vm h0 s.vm h796 := C793.trans (CHr.wr W796 Sf794 C793.1)
        have Sf798 : Safe Z own_EL s.vm h796 ta := Safe.wr W796 Sf794 C793.1 Sf794
        have N796 := Fr.snoc X796 N792 ge_ta
        have V796 : Arv Z h796 ta k1 .char (6 : Int32) [(.int 102), (.int (nar .char (102 : Int32))), (.int 97), (.int 108), (.int 115), (.int 101)] (.int 0) := Arv.set Ar796 q796 S796 M796 H796 G796 (fits_nar_char _) W796 1 rfl (Nat.le_of_ble_eq_true rfl)
        refine Go.by st796 ?_
        show Go _ _ _ _ T796 (mkF m 328 #[iv p0, iv p1, iv p2, iv d0, iv d1, iv d2, iv d3, iv d4, iv d5, rv ta, iv 5, iv 1, iv 5, iv 3, un] [])
        rw [own_ncb (t := (102 : Int32)) (⟨by decide, by decide⟩ : ¬ (102 : Int32) < 0 ∧ ¬ (255 : Int32) < (102 : Int32)).1 (⟨by decide, by decide⟩ : ¬ (102 : Int32) < 0 ∧ ¬ (255 : Int32) < (102 : Int32)).2] at V796
        refine Go.aload2 330 X796 hx (hb hby at_328) rfl rfl rfl ?_
        refine Go.iconst 331 X796 hx (0 : Int32) (hb hby at_330) (by decide) rfl ?_
        refine Go.iload2 333 X796 hx (hb hby at_331) rfl rfl ?_
        obtain ⟨cl799, Ar799, q799, S799, M799, H799, G799⟩ := id V796
        have hin799 : ¬ ((0 : Int32) < 0 ∨ cl799.slots.size ≤ (0 : Int32).toNatClampNeg) := inb_of S799 ⟨by decide, by decide⟩
        obtain ⟨T799, h799, X799, e799, W799, st799⟩ := stC X796 hx hZ e796 Ar799 (j := (0 : Int32)) hin799 (g := (mkF m 333 #[iv p0, iv p1, iv p2, iv d0, iv d1, iv d2, iv d3, iv d4, iv d5, rv ta, iv 5, iv 1, iv 5, iv 3, un] [(.int d5), (.int 0), (.ref ta)])) rfl rfl (hb hby at_333)
        have C800 : CHr Z own_EL s.vm h0 s.vm h799 := C797.trans (CHr.wr W799 Sf798 C797.1)
        have Sf801 : Safe Z own_EL s.vm h799 ta := Safe.wr W799 Sf798 C797.1 Sf798
        have N799 := Fr.snoc X799 N796 ge_ta
        have V799 : Arv Z h799 ta k1 .char (6 : Int32) [(.int (nar .char d5)), (.int 102), (.int 97), (.int 108), (.int 115), (.int 101)] (.int 0) := Arv.set Ar799 q799 S799 M799 H799 G799 (fits_nar_char _) W799 0 rfl (Nat.le_of_ble_eq_true rfl)
        refine Go.by st799 ?_
        show Go _ _ _ _ T799 (mkF m 334 #[iv p0, iv p1, iv p2, iv d0, iv d1, iv d2, iv d3, iv d4, iv d5, rv ta, iv 5, iv 1, iv 5, iv 3, un] [])
        rw [own_ncb (t := d5) q_d5.1 q_d5.2] at V799
        refine Go.iload2 336 X799 hx (hb hby at_334) rfl rfl ?_
        refine Go.iconst 337 X799 hx (1 : Int32) (hb hby at_336) (by decide) rfl ?_
        refine Go.iadd 338 X799 hx (hb hby at_337) rfl ?_
        rw [(by decide : ((5 : Int32) + (1 : Int32)) = (6 : Int32))]
        refine Go.istore2 340 X799 hx (L' := #[iv p0, iv p1, iv p2, iv d0, iv d1, iv d2, iv d3, iv d4, iv d5, rv ta, iv 6, iv 1, iv 5, iv 3, un]) (hb hby at_338) rfl rfl ?_
        have F802 : n0 ≤ h1.size := Nat.le_trans Z0 E1.1
        have F803 : n0 ≤ h4.size := Nat.le_trans F802 (Nat.le_of_eq (Wr.size W4).symm)
        have F804 : n0 ≤ h7.size := Nat.le_trans F803 (Nat.le_of_eq (Wr.size W7).symm)
        have F805 : n0 ≤ h10.size := Nat.le_trans F804 (Nat.le_of_eq (Wr.size W10).symm)
        have F806 : n0 ≤ h13.size := Nat.le_trans F805 (Nat.le_of_eq (Wr.size W13).symm)
        have F807 : n0 ≤ h16.size := Nat.le_trans F806 (Nat.le_of_eq (Wr.size W16).symm)
        have F808 : n0 ≤ h19.size := Nat.le_trans F807 (Nat.le_of_eq (Wr.size W19).symm)
        have F809 : n0 ≤ h476.size := Nat.le_trans F808 (Nat.le_of_eq (Wr.size W476).symm)
        have F810 : n0 ≤ h479.size := Nat.le_trans F809 (Nat.le_of_eq (Wr.size W479).symm)
        have F811 : n0 ≤ h482.size := Nat.le_trans F810 (Nat.le_of_eq (Wr.size W482).symm)
        have F812 : n0 ≤ h485.size := Nat.le_trans F811 (Nat.le_of_eq (Wr.size W485).symm)
        have F813 : n0 ≤ h488.size := Nat.le_trans F812 (Nat.le_of_eq (Wr.size W488).symm)
        have F814 : n0 ≤ h780.size := Nat.le_trans F813 (Nat.le_of_eq (Wr.size W780).symm)
        have F815 : n0 ≤ h784.size := Nat.le_trans F814 (Nat.le_of_eq (Wr.size W784).symm)
        have F816 : n0 ≤ h788.size := Nat.le_trans F815 (Nat.le_of_eq (Wr.size W788).symm)
        have F817 : n0 ≤ h792.size := Nat.le_trans F816 (Nat.le_of_eq (Wr.size W792).symm)
        have F818 : n0 ≤ h796.size := Nat.le_trans F817 (Nat.le_of_eq (Wr.size W796).symm)
        have F819 : n0 ≤ h799.size := Nat.le_trans F818 (Nat.le_of_eq (Wr.size W799).symm)
        have F820 : Old Z n0 h1 := O0.ext E1
        have F821 : Old Z n0 h4 := F820.wr W4 ge_ta
        have F822 : Old Z n0 h7 := F821.wr W7 ge_ta
        have F823 : Old Z n0 h10 := F822.wr W10 ge_ta
        have F824 : Old Z n0 h13 := F823.wr W13 ge_ta
        have F825 : Old Z n0 h16 := F824.wr W16 ge_ta
        have F826 : Old Z n0 h19 := F825.wr W19 ge_ta
        have F827 : Old Z n0 h476 := F826.wr W476 ge_ta
        have F828 : Old Z n0 h479 := F827.wr W479 ge_ta
        have F829 : Old Z n0 h482 := F828.wr W482 ge_ta
        have F830 : Old Z n0 h485 := F829.wr W485 ge_ta
        have F831 : Old Z n0 h488 := F830.wr W488 ge_ta
        have F832 : Old Z n0 h780 := F831.wr W780 ge_ta
        have F833 : Old Z n0 h784 := F832.wr W784 ge_ta
        have F834 : Old Z n0 h788 := F833.wr W788 ge_ta
        have F835 : Old Z n0 h792 := F834.wr W792 ge_ta
        have F836 : Old Z n0 h796 := F835.wr W796 ge_ta
        have F837 : Old Z n0 h799 := F836.wr W799 ge_ta
        have F838 : s.heap.size ≤ h1.size := Nat.le_trans hk0 E1.1
        have F839 : s.heap.size ≤ h4.size := Nat.le_trans F838 (Nat.le_of_eq (Wr.size W4).symm)
        have F840 : s.heap.size ≤ h7.size := Nat.le_trans F839 (Nat.le_of_eq (Wr.size W7).symm)
        have F841 : s.heap.size ≤ h10.size := Nat.le_trans F840 (Nat.le_of_eq (Wr.size W10).symm)
        have F842 : s.heap.size ≤ h13.size := Nat.le_trans F841 (Nat.le_of_eq (Wr.size W13).symm)
        have F843 : s.heap.size ≤ h16.size := Nat.le_trans F842 (Nat.le_of_eq (Wr.size W16).symm)
        have F844 : s.heap.size ≤ h19.size := Nat.le_trans F843 (Nat.le_of_eq (Wr.size W19).symm)
        have F845 : s.heap.size ≤ h476.size := Nat.le_trans F844 (Nat.le_of_eq (Wr.size W476).symm)
        have F846 : s.heap.size ≤ h479.size := Nat.le_trans F845 (Nat.le_of_eq (Wr.size W479).symm)
        have F847 : s.heap.size ≤ h482.size := Nat.le_trans F846 (Nat.le_of_eq (Wr.size W482).symm)
        have F848 : s.heap.size ≤ h485.size := Nat.le_trans F847 (Nat.le_of_eq (Wr.size W485).symm)
        have F849 : s.heap.size ≤ h488.size := Nat.le_trans F848 (Nat.le_of_eq (Wr.size W488).symm)
        have F850 : s.heap.size ≤ h780.size := Nat.le_trans F849 (Nat.le_of_eq (Wr.size W780).symm)
        have F851 : s.heap.size ≤ h784.size := Nat.le_trans F850 (Nat.le_of_eq (Wr.size W784).symm)
        have F852 : s.heap.size ≤ h788.size := Nat.le_trans F851 (Nat.le_of_eq (Wr.size W788).symm)
        have F853 : s.heap.size ≤ h792.size := Nat.le_trans F852 (Nat.le_of_eq (Wr.size W792).symm)
        have F854 : s.heap.size ≤ h796.size := Nat.le_trans F853 (Nat.le_of_eq (Wr.size W796).symm)
        have F855 : s.heap.size ≤ h799.size := Nat.le_trans F854 (Nat.le_of_eq (Wr.size W799).symm)
        exact J22 _ _ _ d5 (102 : Int32) (97 : Int32) (108 : Int32) (115 : Int32) (101 : Int32) (6 : Int32) (iv 1) (iv 5) (iv 3) X799 e799 N799 F819 F837 C800 F855 V799 q_d5 (⟨by decide, by decide⟩) (⟨by decide, by decide⟩) (⟨by decide, by decide⟩) (⟨by decide, by decide⟩) (⟨by decide, by decide⟩) (Or.inr (Or.inr (Or.inr (Or.inr (Or.inr (Or.inr (rfl))))))) (Or.inr ⟨_, rfl, rfl⟩) (Or.inr ⟨_, rfl, rfl⟩) (Or.inr ⟨_, rfl, rfl⟩)
    · obtain rfl : kw = 2 := h_kw.trans hk
      show Go _ _ _ _ T19 (mkF m 121 #[iv p0, iv p1, iv p2, iv d0, iv d1, iv d2, iv d3, iv d4, iv d5, rv ta, un, iv 2, un, un, un] [])
      refine Go.iload2 123 X19 hx (hb hby at_121) rfl rfl ?_
      refine Go.ifY 156 X19 hx (hb hby at_123) (XT.i0_ne_t (by decide)) (by decide) (by decide) ?_
      refine Go.iload2 158 X19 hx (hb hby at_156) rfl rfl ?_
      refine Go.iconst 159 X19 hx (1 : Int32) (hb hby at_158) (by decide) rfl ?_
      refine Go.icmpY 198 X19 hx (hb hby at_159) (XT.ii_ne_t (by decide)) (by decide) (by decide) ?_
      refine Go.iload2 200 X19 hx (hb hby at_198) rfl rfl ?_
      refine Go.iconst 201 X19 hx (2 : Int32) (hb hby at_200) (by decide) rfl ?_
      refine Go.icmpN 204 X19 hx (hb hby at_201) (XT.ii_ne_f rfl) rfl ?_
      refine Go.aload2 206 X19 hx (hb hby at_204) rfl rfl rfl ?_
      refine Go.iconst 207 X19 hx (0 : Int32) (hb hby at_206) (by decide) rfl ?_
      refine Go.bipush 209 X19 hx (49 : Int32) (hb hby at_207) (by decide) rfl ?_
      obtain ⟨cl856, Ar856, q856, S856, M856, H856, G856⟩ := id V19
      have hin856 : ¬ ((0 : Int32) < 0 ∨ cl856.slots.size ≤ (0 : Int32).toNatClampNeg) := inb_of S856 ⟨by decide, by decide⟩
      obtain ⟨T856, h856, X856, e856, W856, st856⟩ := stC X19 hx hZ e19 Ar856 (j := (0 : Int32)) hin856 (g := (mkF m 209 #[iv p0, iv p1, iv p2, iv d0, iv d1, iv d2, iv d3, iv d4, iv d5, rv ta, un, iv 2, un, un, un] [(.int 49), (.int 0), (.ref ta)])) rfl rfl (hb hby at_209)
      have C857 : CHr Z own_EL s.vm h0 s.vm h856 := C20.trans (CHr.wr W856 Sf21 C20.1)
      have Sf858 : Safe Z own_EL s.vm h856 ta := Safe.wr W856 Sf21 C20.1 Sf21
      have N856 := Fr.snoc X856 N19 ge_ta
      have V856 : Arv Z h856 ta k1 .char (6 : Int32) [(.int (nar .char (49 : Int32))), (.int d1), (.int d2), (.int d3), (.int d4), (.int d5)] (.int 0) := Arv.set Ar856 q856 S856 M856 H856 G856 (fits_nar_char _) W856 0 rfl (Nat.le_of_ble_eq_true rfl)
      refine Go.by st856 ?_
      show Go _ _ _ _ T856 (mkF m 210 #[iv p0, iv p1, iv p2, iv d0, iv d1, iv d2, iv d3, iv d4, iv d5, rv ta, un, iv 2, un, un, un] [])
      rw [own_ncb (t := (49 : Int32)) (⟨by decide, by decide⟩ : ¬ (49 : Int32) < 0 ∧ ¬ (255 : Int32) < (49 : Int32)).1 (⟨by decide, by decide⟩ : ¬ (49 : Int32) < 0 ∧ ¬ (255 : Int32) < (49 : Int32)).2] at V856
      refine Go.iconst 211 X856 hx (1 : Int32) (hb hby at_210) (by decide) rfl ?_
      refine Go.istore2 213 X856 hx (L' := #[iv p0, iv p1, iv p2, iv d0, iv d1, iv d2, iv d3, iv d4, iv d5, rv ta, un, iv 2, iv 1, un, un]) (hb hby at_211) rfl rfl ?_
      refine Go.goto 225 X856 hx (hb hby at_213) (by decide) (by decide) ?_
      refine Go.iload2 227 X856 hx (hb hby at_225) rfl rfl ?_
      refine Go.istore2 229 X856 hx (L' := #[iv p0, iv p1, iv p2, iv d0, iv d1, iv d2, iv d3, iv d4, iv d5, rv ta, iv 1, iv 2, iv 1, un, un]) (hb hby at_227) rfl rfl ?_
      refine Go.iload1 230 X856 hx (hb hby at_229) rfl rfl ?_
      refine Go.iconst 231 X856 hx (4 : Int32) (hb hby at_230) (by decide) rfl ?_
      refine Go.iushr 232 X856 hx (hb hby at_231) rfl ?_
      refine Go.iconst 233 X856 hx (3 : Int32) (hb hby at_232) (by decide) rfl ?_
      refine Go.iand 234 X856 hx (hb hby at_233) rfl ?_
      refine Go.istore2 236 X856 hx (L' := #[iv p0, iv p1, iv p2, iv d0, iv d1, iv d2, iv d3, iv d4, iv d5, rv ta, iv 1, iv 2, iv 1, iv ((XT.ushr p0 (4 : Int32)) &&& (3 : Int32)), un]) (hb hby at_234) rfl rfl ?_
      obtain ⟨ed, h_ed⟩ : ∃ z, z = ((XT.ushr p0 (4 : Int32)) &&& (3 : Int32)) := ⟨_, rfl⟩
      rw [← h_ed]
      show Go _ _ _ _ T856 (mkF m 236 #[iv p0, iv p1, iv p2, iv d0, iv d1, iv d2, iv d3, iv d4, iv d5, rv ta, iv 1, iv 2, iv 1, iv ed, un] [])
      rcases own_a3 (XT.ushr p0 4) with he | he | he | he
      · obtain rfl : ed = 0 := h_ed.trans he
        show Go _ _ _ _ T856 (mkF m 236 #[iv p0, iv p1, iv p2, iv d0, iv d1, iv d2, iv d3, iv d4, iv d5, rv ta, iv 1, iv 2, iv 1, iv 0, un] [])
        refine Go.iload2 238 X856 hx (hb hby at_236) rfl rfl ?_
        refine Go.iconst 239 X856 hx (1 : Int32) (hb hby at_238) (by decide) rfl ?_
        refine Go.icmpY 260 X856 hx (hb hby at_239) (XT.ii_ne_t (by decide)) (by decide) (by decide) ?_
        refine Go.iload2 262 X856 hx (hb hby at_260) rfl rfl ?_
        refine Go.iconst 263 X856 hx (2 : Int32) (hb hby at_262) (by decide) rfl ?_
        refine Go.icmpY 282 X856 hx (hb hby at_263) (XT.ii_ne_t (by decide)) (by decide) (by decide) ?_
        refine Go.iload2 284 X856 hx (hb hby at_282) rfl rfl ?_
        refine Go.iconst 285 X856 hx (3 : Int32) (hb hby at_284) (by decide) rfl ?_
        refine Go.icmpY 340 X856 hx (hb hby at_285) (XT.ii_ne_t (by decide)) (by decide) (by decide) ?_
        have F859 : n0 ≤ h1.size := Nat.le_trans Z0 E1.1
        have F860 : n0 ≤ h4.size := Nat.le_trans F859 (Nat.le_of_eq (Wr.size W4).symm)
        have F861 : n0 ≤ h7.size := Nat.le_trans F860 (Nat.le_of_eq (Wr.size W7).symm)
        have F862 : n0 ≤ h10.size := Nat.le_trans F861 (Nat.le_of_eq (Wr.size W10).symm)
        have F863 : n0 ≤ h13.size := Nat.le_trans F862 (Nat.le_of_eq (Wr.size W13).symm)
        have F864 : n0 ≤ h16.size := Nat.le_trans F863 (Nat.le_of_eq (Wr.size W16).symm)
        have F865 : n0 ≤ h19.size := Nat.le_trans F864 (Nat.le_of_eq (Wr.size W19).symm)
        have F866 : n0 ≤ h856.size := Nat.le_trans F865 (Nat.le_of_eq (Wr.size W856).symm)
        have F867 : Old Z n0 h1 := O0.ext E1
        have F868 : Old Z n0 h4 := F867.wr W4 ge_ta
        have F869 : Old Z n0 h7 := F868.wr W7 ge_ta
        have F870 : Old Z n0 h10 := F869.wr W10 ge_ta
        have F871 : Old Z n0 h13 := F870.wr W13 ge_ta
        have F872 : Old Z n0 h16 := F871.wr W16 ge_ta
        have F873 : Old Z n0 h19 := F872.wr W19 ge_ta
        have F874 : Old Z n0 h856 := F873.wr W856 ge_ta
        have F875 : s.heap.size ≤ h1.size := Nat.le_trans hk0 E1.1
        have F876 : s.heap.size ≤ h4.size := Nat.le_trans F875 (Nat.le_of_eq (Wr.size W4).symm)
        have F877 : s.heap.size ≤ h7.size := Nat.le_trans F876 (Nat.le_of_eq (Wr.size W7).symm)
        have F878 : s.heap.size ≤ h10.size := Nat.le_trans F877 (Nat.le_of_eq (Wr.size W10).symm)
        have F879 : s.heap.size ≤ h13.size := Nat.le_trans F878 (Nat.le_of_eq (Wr.size W13).symm)
        have F880 : s.heap.size ≤ h16.size := Nat.le_trans F879 (Nat.le_of_eq (Wr.size W16).symm)
        have F881 : s.heap.size ≤ h19.size := Nat.le_trans F880 (Nat.le_of_eq (Wr.size W19).symm)
        have F882 : s.heap.size ≤ h856.size := Nat.le_trans F881 (Nat.le_of_eq (Wr.size W856).symm)
        exact J22 _ _ _ (49 : Int32) d1 d2 d3 d4 d5 (1 : Int32) (iv 2) (iv 1) (iv 0) X856 e856 N856 F866 F874 C857 F882 V856 (⟨by decide, by decide⟩) q_d1 q_d2 q_d3 q_d4 q_d5 (Or.inr (Or.inl rfl)) (Or.inr ⟨_, rfl, rfl⟩) (Or.inr ⟨_, rfl, rfl⟩) (Or.inr ⟨_, rfl, rfl⟩)
      · obtain rfl : ed = 1 := h_ed.trans he
        show Go _ _ _ _ T856 (mkF m 236 #[iv p0, iv p1, iv p2, iv d0, iv d1, iv d2, iv d3, iv d4, iv d5, rv ta, iv 1, iv 2, iv 1, iv 1, un] [])
        refine Go.iload2 238 X856 hx (hb hby at_236) rfl rfl ?_
        refine Go.iconst 239 X856 hx (1 : Int32) (hb hby at_238) (by decide) rfl ?_
        refine Go.icmpN 242 X856 hx (hb hby at_239) (XT.ii_ne_f rfl) rfl ?_
        refine Go.aload2 244 X856 hx (hb hby at_242) rfl rfl rfl ?_
        refine Go.iload1 245 X856 hx (hb hby at_244) rfl rfl ?_
        refine Go.bipush 247 X856 hx (6 : Int32) (hb hby at_245) (by decide) rfl ?_
        refine Go.iushr 248 X856 hx (hb hby at_247) rfl ?_
        refine Go.bipush 250 X856 hx (7 : Int32) (hb hby at_248) (by decide) rfl ?_
        refine Go.iand 251 X856 hx (hb hby at_250) rfl ?_
        refine Go.iload2 253 X856 hx (hb hby at_251) rfl rfl ?_
        refine Go.irem 254 X856 hx (hb hby at_253) (by decide) rfl ?_
        refine Go.iload2 256 X856 hx (hb hby at_254) rfl rfl ?_
        obtain ⟨ix, h_ix⟩ : ∃ z, z = (((XT.ushr p0 (6 : Int32)) &&& (7 : Int32)) - ((XT.ushr p0 (6 : Int32)) &&& (7 : Int32)) / (1 : Int32) * (1 : Int32)) := ⟨_, rfl⟩
        rw [← h_ix]
        show Go _ _ _ _ T856 (mkF m 256 #[iv p0, iv p1, iv p2, iv d0, iv d1, iv d2, iv d3, iv d4, iv d5, rv ta, iv 1, iv 2, iv 1, iv 1, un] [(.int d5), (.int ix), (.ref ta)])
        obtain rfl := own_m1 h_ix
        show Go _ _ _ _ T856 (mkF m 256 #[iv p0, iv p1, iv p2, iv d0, iv d1, iv d2, iv d3, iv d4, iv d5, rv ta, iv 1, iv 2, iv 1, iv 1, un] [(.int d5), (.int 0), (.ref ta)])
        obtain ⟨cl883, Ar883, q883, S883, M883, H883, G883⟩ := id V856
        have hin883 : ¬ ((0 : Int32) < 0 ∨ cl883.slots.size ≤ (0 : Int32).toNatClampNeg) := inb_of S883 ⟨by decide, by decide⟩
        obtain ⟨T883, h883, X883, e883, W883, st883⟩ := stC X856 hx hZ e856 Ar883 (j := (0 : Int32)) hin883 (g := (mkF m 256 #[iv p0, iv p1, iv p2, iv d0, iv d1, iv d2, iv d3, iv d4, iv d5, rv ta, iv 1, iv 2, iv 1, iv 1, un] [(.int d5), (.int 0), (.ref ta)])) rfl rfl (hb hby at_256)
        have C884 : CHr Z own_EL s.vm h0 s.vm h883 := C857.trans (CHr.wr W883 Sf858 C857.1)
        have Sf885 : Safe Z own_EL s.vm h883 ta := Safe.wr W883 Sf858 C857.1 Sf858
        have N883 := Fr.snoc X883 N856 ge_ta
        have V883 : Arv Z h883 ta k1 .char (6 : Int32) [(.int (nar .char d5)), (.int d1), (.int d2), (.int d3), (.int d4), (.int d5)] (.int 0) := Arv.set Ar883 q883 S883 M883 H883 G883 (fits_nar_char _) W883 0 rfl (Nat.le_of_ble_eq_true rfl)
        refine Go.by st883 ?_
        show Go _ _ _ _ T883 (mkF m 257 #[iv p0, iv p1, iv p2, iv d0, iv d1, iv d2, iv d3, iv d4, iv d5, rv ta, iv 1, iv 2, iv 1, iv 1, un] [])
        rw [own_ncb (t := d5) q_d5.1 q_d5.2] at V883
        refine Go.goto 340 X883 hx (hb hby at_257) (by decide) (by decide) ?_
        have F886 : n0 ≤ h1.size := Nat.le_trans Z0 E1.1
        have F887 : n0 ≤ h4.size := Nat.le_trans F886 (Nat.le_of_eq (Wr.size W4).symm)
        have F888 : n0 ≤ h7.size := Nat.le_trans F887 (Nat.le_of_eq (Wr.size W7).symm)
        have F889 : n0 ≤ h10.size := Nat.le_trans F888 (Nat.le_of_eq (Wr.size W10).symm)
        have F890 : n0 ≤ h13.size := Nat.le_trans F889 (Nat.le_of_eq (Wr.size W13).symm)
        have F891 : n0 ≤ h16.size := Nat.le_trans F890 (Nat.le_of_eq (Wr.size W16).symm)
        have F892 : n0 ≤ h19.size := Nat.le_trans F891 (Nat.le_of_eq (Wr.size W19).symm)
        have F893 : n0 ≤ h856.size := Nat.le_trans F892 (Nat.le_of_eq (Wr.size W856).symm)
        have F894 : n0 ≤ h883.size := Nat.le_trans F893 (Nat.le_of_eq (Wr.size W883).symm)
        have F895 : Old Z n0 h1 := O0.ext E1
        have F896 : Old Z n0 h4 := F895.wr W4 ge_ta
        have F897 : Old Z n0 h7 := F896.wr W7 ge_ta
        have F898 : Old Z n0 h10 := F897.wr W10 ge_ta
        have F899 : Old Z n0 h13 := F898.wr W13 ge_ta
        have F900 : Old Z n0 h16 := F899.wr W16 ge_ta
        have F901 : Old Z n0 h19 := F900.wr W19 ge_ta
        have F902 : Old Z n0 h856 := F901.wr W856 ge_ta
        have F903 : Old Z n0 h883 := F902.wr W883 ge_ta
        have F904 : s.heap.size ≤ h1.size := Nat.le_trans hk0 E1.1
        have F905 : s.heap.size ≤ h4.size := Nat.le_trans F904 (Nat.le_of_eq (Wr.size W4).symm)
        have F906 : s.heap.size ≤ h7.size := Nat.le_trans F905 (Nat.le_of_eq (Wr.size W7).symm)
        have F907 : s.heap.size ≤ h10.size := Nat.le_trans F906 (Nat.le_of_eq (Wr.size W10).symm)
        have F908 : s.heap.size ≤ h13.size := Nat.le_trans F907 (Nat.le_of_eq (Wr.size W13).symm)
        have F909 : s.heap.size ≤ h16.size := Nat.le_trans F908 (Nat.le_of_eq (Wr.size W16).symm)
        have F910 : s.heap.size ≤ h19.size := Nat.le_trans F909 (Nat.le_of_eq (Wr.size W19).symm)
        have F911 : s.heap.size ≤ h856.size := Nat.le_trans F910 (Nat.le_of_eq (Wr.size W856).symm)
        have F912 : s.heap.size ≤ h883.size := Nat.le_trans F911 (Nat.le_of_eq (Wr.size W883).symm)
        exact J22 _ _ _ d5 d1 d2 d3 d4 d5 (1 : Int32) (iv 2) (iv 1) (iv 1) X883 e883 N883 F894 F903 C884 F912 V883 q_d5 q_d1 q_d2 q_d3 q_d4 q_d5 (Or.inr (Or.inl rfl)) (Or.inr ⟨_, rfl, rfl⟩) (Or.inr ⟨_, rfl, rfl⟩) (Or.inr ⟨_, rfl, rfl⟩)
      · obtain rfl : ed = 2 := h_ed.trans he
        show Go _ _ _ _ T856 (mkF m 236 #[iv p0, iv p1, iv p2, iv d0, iv d1, iv d2, iv d3, iv d4, iv d5, rv ta, iv 1, iv 2, iv 1, iv 2, un] [])
        refine Go.iload2 238 X856 hx (hb hby at_236) rfl rfl ?_
        refine Go.iconst 239 X856 hx (1 : Int32) (hb hby at_238) (by decide) rfl ?_
        refine Go.icmpY 260 X856 hx (hb hby at_239) (XT.ii_ne_t (by decide)) (by decide) (by decide) ?_
        refine Go.iload2 262 X856 hx (hb hby at_260) rfl rfl ?_
        refine Go.iconst 263 X856 hx (2 : Int32) (hb hby at_262) (by decide) rfl ?_
        refine Go.icmpN 266 X856 hx (hb hby at_263) (XT.ii_ne_f rfl) rfl ?_
        refine Go.aload2 268 X856 hx (hb hby at_266) rfl rfl rfl ?_
        refine Go.iload2 270 X856 hx (hb hby at_268) rfl rfl ?_
        refine Go.iload2 272 X856 hx (hb hby at_270) rfl rfl ?_
        obtain ⟨cl913, Ar913, q913, S913, M913, H913, G913⟩ := id V856
        have hin913 : ¬ ((1 : Int32) < 0 ∨ cl913.slots.size ≤ (1 : Int32).toNatClampNeg) := inb_of S913 ⟨by decide, by decide⟩
        obtain ⟨T913, h913, X913, e913, W913, st913⟩ := stC X856 hx hZ e856 Ar913 (j := (1 : Int32)) hin913 (g := (mkF m 272 #[iv p0, iv p1, iv p2, iv d0, iv d1, iv d2, iv d3, iv d4, iv d5, rv ta, iv 1, iv 2, iv 1, iv 2, un] [(.int d5), (.int 1), (.ref ta)])) rfl rfl (hb hby at_272)
        have C914 : CHr Z own_EL s.vm h0 s.vm h913 := C857.trans (CHr.wr W913 Sf858 C857.1)
        have Sf915 : Safe Z own_EL s.vm h913 ta := Safe.wr W913 Sf858 C857.1 Sf858
        have N913 := Fr.snoc X913 N856 ge_ta
        have V913 : Arv Z h913 ta k1 .char (6 : Int32) [(.int 49), (.int (nar .char d5)), (.int d2), (.int d3), (.int d4), (.int d5)] (.int 0) := Arv.set Ar913 q913 S913 M913 H913 G913 (fits_nar_char _) W913 1 rfl (Nat.le_of_ble_eq_true rfl)
        refine Go.by st913 ?_
        show Go _ _ _ _ T913 (mkF m 273 #[iv p0, iv p1, iv p2, iv d0, iv d1, iv d2, iv d3, iv d4, iv d5, rv ta, iv 1, iv 2, iv 1, iv 2, un] [])
        rw [own_ncb (t := d5) q_d5.1 q_d5.2] at V913
        refine Go.iload2 275 X913 hx (hb hby at_273) rfl rfl ?_
        refine Go.iconst 276 X913 hx (1 : Int32) (hb hby at_275) (by decide) rfl ?_
        refine Go.iadd 277 X913 hx (hb hby at_276) rfl ?_
        rw [(by decide : ((1 : Int32) + (1 : Int32)) = (2 : Int32))]
        refine Go.istore2 279 X913 hx (L' := #[iv p0, iv p1, iv p2, iv d0, iv d1, iv d2, iv d3, iv d4, iv d5, rv ta, iv 2, iv 2, iv 1, iv 2, un]) (hb hby at_277) rfl rfl ?_
        refine Go.goto 340 X913 hx (hb hby at_279) (by decide) (by decide) ?_
        have F916 : n0 ≤ h1.size := Nat.le_trans Z0 E1.1
        have F917 : n0 ≤ h4.size := Nat.le_trans F916 (Nat.le_of_eq (Wr.size W4).symm)
        have F918 : n0 ≤ h7.size := Nat.le_trans F917 (Nat.le_of_eq (Wr.size W7).symm)
        have F919 : n0 ≤ h10.size := Nat.le_trans F918 (Nat.le_of_eq (Wr.size W10).symm)
        have F920 : n0 ≤ h13.size := Nat.le_trans F919 (Nat.le_of_eq (Wr.size W13).symm)
        have F921 : n0 ≤ h16.size := Nat.le_trans F920 (Nat.le_of_eq (Wr.size W16).symm)
        have F922 : n0 ≤ h19.size := Nat.le_trans F921 (Nat.le_of_eq (Wr.size W19).symm)
        have F923 : n0 ≤ h856.size := Nat.le_trans F922 (Nat.le_of_eq (Wr.size W856).symm)
        have F924 : n0 ≤ h913.size := Nat.le_trans F923 (Nat.le_of_eq (Wr.size W913).symm)
        have F925 : Old Z n0 h1 := O0.ext E1
        have F926 : Old Z n0 h4 := F925.wr W4 ge_ta
        have F927 : Old Z n0 h7 := F926.wr W7 ge_ta
        have F928 : Old Z n0 h10 := F927.wr W10 ge_ta
        have F929 : Old Z n0 h13 := F928.wr W13 ge_ta
        have F930 : Old Z n0 h16 := F929.wr W16 ge_ta
        have F931 : Old Z n0 h19 := F930.wr W19 ge_ta
        have F932 : Old Z n0 h856 := F931.wr W856 ge_ta
        have F933 : Old Z n0 h913 := F932.wr W913 ge_ta
        have F934 : s.heap.size ≤ h1.size := Nat.le_trans hk0 E1.1
        have F935 : s.heap.size ≤ h4.size := Nat.le_trans F934 (Nat.le_of_eq (Wr.size W4).symm)
        have F936 : s.heap.size ≤ h7.size := Nat.le_trans F935 (Nat.le_of_eq (Wr.size W7).symm)
        have F937 : s.heap.size ≤ h10.size := Nat.le_trans F936 (Nat.le_of_eq (Wr.size W10).symm)
        have F938 : s.heap.size ≤ h13.size := Nat.le_trans F937 (Nat.le_of_eq (Wr.size W13).symm)
        have F939 : s.heap.size ≤ h16.size := Nat.le_trans F938 (Nat.le_of_eq (Wr.size W16).symm)
        have F940 : s.heap.size ≤ h19.size := Nat.le_trans F939 (Nat.le_of_eq (Wr.size W19).symm)
        have F941 : s.heap.size ≤ h856.size := Nat.le_trans F940 (Nat.le_of_eq (Wr.size W856).symm)
        have F942 : s.heap.size ≤ h913.size := Nat.le_trans F941 (Nat.le_of_eq (Wr.size W913).symm)
        exact J22 _ _ _ (49 : Int32) d5 d2 d3 d4 d5 (2 : Int32) (iv 2) (iv 1) (iv 2) X913 e913 N913 F924 F933 C914 F942 V913 (⟨by decide, by decide⟩) q_d5 q_d2 q_d3 q_d4 q_d5 (Or.inr (Or.inr (Or.inl rfl))) (Or.inr ⟨_, rfl, rfl⟩) (Or.inr ⟨_, rfl, rfl⟩) (Or.inr ⟨_, rfl, rfl⟩)
      · obtain rfl : ed = 3 := h_ed.trans he
        show Go _ _ _ _ T856 (mkF m 236 #[iv p0, iv p1, iv p2, iv d0, iv d1, iv d2, iv d3, iv d4, iv d5, rv ta, iv 1, iv 2, iv 1, iv 3, un] [])
        refine Go.iload2 238 X856 hx (hb hby at_236) rfl rfl ?_
        refine Go.iconst 239 X856 hx (1 : Int32) (hb hby at_238) (by decide) rfl ?_
        refine Go.icmpY 260 X856 hx (hb hby at_239) (XT.ii_ne_t (by decide)) (by decide) (by decide) ?_
        refine Go.iload2 262 X856 hx (hb hby at_260) rfl rfl ?_
        refine Go.iconst 263 X856 hx (2 : Int32) (hb hby at_262) (by decide) rfl ?_
        refine Go.icmpY 282 X856 hx (hb hby at_263) (XT.ii_ne_t (by decide)) (by decide) (by decide) ?_
        refine Go.iload2 284 X856 hx (hb hby at_282) rfl rfl ?_
        refine Go.iconst 285 X856 hx (3 : Int32) (hb hby at_284) (by decide) rfl ?_
        refine Go.icmpN 288 X856 hx (hb hby at_285) (XT.ii_ne_f rfl) rfl ?_
        refine Go.aload2 290 X856 hx (hb hby at_288) rfl rfl rfl ?_
        refine Go.iconst 291 X856 hx (5 : Int32) (hb hby at_290) (by decide) rfl ?_
        refine Go.aload2 293 X856 hx (hb hby at_291) rfl rfl rfl ?_
        refine Go.iconst 294 X856 hx (4 : Int32) (hb hby at_293) (by decide) rfl ?_
        obtain ⟨cl943, Ar943, -, S943, M943, H943, -⟩ := id V856
        have hin943 : ¬ ((4 : Int32) < 0 ∨ cl943.slots.size ≤ (4 : Int32).toNatClampNeg) := inb_of S943 ⟨by decide, by decide⟩
        refine Go.by (fun _ gk => X856.caload hx (j := (4 : Int32)) (v := (.int d4)) (by rw [e856]; exact Ar943.1) (State.isArrayOf_alike hZ.alike Ar943.2.1) Ar943.2.2 hin943 (Has.at H943 hin943 rfl) (g := (mkF m 294 #[iv p0, iv p1, iv p2, iv d0, iv d1, iv d2, iv d3, iv d4, iv d5, rv ta, iv 1, iv 2, iv 1, iv 3, un] [(.int 4), (.ref ta), (.int 5), (.ref ta)])) rfl rfl (hb hby at_294) _ gk) ?_
        show Go _ _ _ _ T856 (mkF m 295 #[iv p0, iv p1, iv p2, iv d0, iv d1, iv d2, iv d3, iv d4, iv d5, rv ta, iv 1, iv 2, iv 1, iv 3, un] [(.int d4), (.int 5), (.ref ta)])
        obtain ⟨cl944, Ar944, q944, S944, M944, H944, G944⟩ := id V856
        have hin944 : ¬ ((5 : Int32) < 0 ∨ cl944.slots.size ≤ (5 : Int32).toNatClampNeg) := inb_of S944 ⟨by decide, by decide⟩
        obtain ⟨T944, h944, X944, e944, W944, st944⟩ := stC X856 hx hZ e856 Ar944 (j := (5 : Int32)) hin944 (g := (mkF m 295 #[iv p0, iv p1, iv p2, iv d0, iv d1, iv d2, iv d3, iv d4, iv d5, rv ta, iv 1, iv 2, iv 1, iv 3, un] [(.int d4), (.int 5), (.ref ta)])) rfl rfl (hb hby at_295)
        have C945 : CHr Z own_EL s.vm h0 s.vm h944 := C857.trans (CHr.wr W944 Sf858 C857.1)
        have Sf946 : Safe Z own_EL s.vm h944 ta := Safe.wr W944 Sf858 C857.1 Sf858
        have N944 := Fr.snoc X944 N856 ge_ta
        have V944 : Arv Z h944 ta k1 .char (6 : Int32) [(.int 49), (.int d1), (.int d2), (.int d3), (.int d4), (.int (nar .char d4))] (.int 0) := Arv.set Ar944 q944 S944 M944 H944 G944 (fits_nar_char _) W944 5 rfl (Nat.le_of_ble_eq_true rfl)
        refine Go.by st944 ?_
        show Go _ _ _ _ T944 (mkF m 296 #[iv p0, iv p1, iv p2, iv d0, iv d1, iv d2, iv d3, iv d4, iv d5, rv ta, iv 1, iv 2, iv 1, iv 3, un] [])
        rw [own_ncb (t := d4) q_d4.1 q_d4.2] at V944
        refine Go.aload2 298 X944 hx (hb hby at_296) rfl rfl rfl ?_
        refine Go.iconst 299 X944 hx (4 : Int32) (hb hby at_298) (by decide) rfl ?_
        refine Go.aload2 301 X944 hx (hb hby at_299) rfl rfl rfl ?_
        refine Go.iconst 302 X944 hx (3 : Int32) (hb hby at_301) (by decide) rfl ?_
        obtain ⟨cl947, Ar947, -, S947, M947, H947, -⟩ := id V944
        have hin947 : ¬ ((3 : Int32) < 0 ∨ cl947.slots.size ≤ (3 : Int32).toNatClampNeg) := inb_of S947 ⟨by decide, by decide⟩
        refine Go.by (fun _ gk => X944.caload hx (j := (3 : Int32)) (v := (.int d3)) (by rw [e944]; exact Ar947.1) (State.isArrayOf_alike hZ.alike Ar947.2.1) Ar947.2.2 hin947 (Has.at H947 hin947 rfl) (g := (mkF m 302 #[iv p0, iv p1, iv p2, iv d0, iv d1, iv d2, iv d3, iv d4, iv d5, rv ta, iv 1, iv 2, iv 1, iv 3, un] [(.int 3), (.ref ta), (.int 4), (.ref ta)])) rfl rfl (hb hby at_302) _ gk) ?_
        show Go _ _ _ _ T944 (mkF m 303 #[iv p0, iv p1, iv p2, iv d0, iv d1, iv d2, iv d3, iv d4, iv d5, rv ta, iv 1, iv 2, iv 1, iv 3, un] [(.int d3), (.int 4), (.ref ta)])
        obtain ⟨cl948, Ar948, q948, S948, M948, H948, G948⟩ := id V944
        have hin948 : ¬ ((4 : Int32) < 0 ∨ cl948.slots.size ≤ (4 : Int32).toNatClampNeg) := inb_of S948 ⟨by decide, by decide⟩
        obtain ⟨T948, h948, X948, e948, W948, st948⟩ := stC X944 hx hZ e944 Ar948 (j := (4 : Int32)) hin948 (g := (mkF m 303 #[iv p0, iv p1, iv p2, iv d0, iv d1, iv d2, iv d3, iv d4, iv d5, rv ta, iv 1, iv 2, iv 1, iv 3, un] [(.int d3), (.int 4), (.ref ta)])) rfl rfl (hb hby at_303)
        have C949 : CHr Z own_EL s.vm h0 s.vm h948 := C945.trans (CHr.wr W948 Sf946 C945.1)
        have Sf950 : Safe Z own_EL s.vm h948 ta := Safe.wr W948 Sf946 C945.1 Sf946
        have N948 := Fr.snoc X948 N944 ge_ta
        have V948 : Arv Z h948 ta k1 .char (6 : Int32) [(.int 49), (.int d1), (.int d2), (.int d3), (.int (nar .char d3)), (.int d4)] (.int 0) := Arv.set Ar948 q948 S948 M948 H948 G948 (fits_nar_char _) W948 4 rfl (Nat.le_of_ble_eq_true rfl)
        refine Go.by st948 ?_
        show Go _ _ _ _ T948 (mkF m 304 #[iv p0, iv p1, iv p2, iv d0, iv d1, iv d2, iv d3, iv d4, iv d5, rv ta, iv 1, iv 2, iv 1, iv 3, un] [])
        rw [own_ncb (t := d3) q_d3.1 q_d3.2] at V948
        refine Go.aload2 306 X948 hx (hb hby at_304) rfl rfl rfl ?_
        refine Go.iconst 307 X948 hx (3 : Int32) (hb hby at_306) (by decide) rfl ?_
        refine Go.aload2 309 X948 hx (hb hby at_307) rfl rfl rfl ?_
        refine Go.iconst 310 X948 hx (2 : Int32) (hb hby at_309) (by decide) rfl ?_
        obtain ⟨cl951, Ar951, -, S951, M951, H951, -⟩ := id V948
        have hin951 : ¬ ((2 : Int32) < 0 ∨ cl951.slots.size ≤ (2 : Int32).toNatClampNeg) := inb_of S951 ⟨by decide, by decide⟩
        refine Go.by (fun _ gk => X948.caload hx (j := (2 : Int32)) (v := (.int d2)) (by rw [e948]; exact Ar951.1) (State.isArrayOf_alike hZ.alike Ar951.2.1) Ar951.2.2 hin951 (Has.at H951 hin951 rfl) (g := (mkF m 310 #[iv p0, iv p1, iv p2, iv d0, iv d1, iv d2, iv d3, iv d4, iv d5, rv ta, iv 1, iv 2, iv 1, iv 3, un] [(.int 2), (.ref ta), (.int 3), (.ref ta)])) rfl rfl (hb hby at_310) _ gk) ?_
        show Go _ _ _ _ T948 (mkF m 311 #[iv p0, iv p1, iv p2, iv d0, iv d1, iv d2, iv d3, iv d4, iv d5, rv ta, iv 1, iv 2, iv 1, iv 3, un] [(.int d2), (.int 3), (.ref ta)])
        obtain ⟨cl952, Ar952, q952, S952, M952, H952, G952⟩ := id V948
        have hin952 : ¬ ((3 : Int32) < 0 ∨ cl952.slots.size ≤ (3 : Int32).toNatClampNeg) := inb_of S952 ⟨by decide, by decide⟩
        obtain ⟨T952, h952, X952, e952, W952, st952⟩ := stC X948 hx hZ e948 Ar952 (j := (3 : Int32)) hin952 (g := (mkF m 311 #[iv p0, iv p1, iv p2, iv d0, iv d1, iv d2, iv d3, iv d4, iv d5, rv ta, iv 1, iv 2, iv 1, iv 3, un] [(.int d2), (.int 3), (.ref ta)])) rfl rfl (hb hby at_311)
        have C953 : CHr Z own_EL s.vm h0 s.vm h952 := C949.trans (CHr.wr W952 Sf950 C949.1)
        have Sf954 : Safe Z own_EL s.vm h952 ta := Safe.wr W952 Sf950 C949.1 Sf950
        have N952 := Fr.snoc X952 N948 ge_ta
        have V952 : Arv Z h952 ta k1 .char (6 : Int32) [(.int 49), (.int d1), (.int d2), (.int (nar .char d2)), (.int d3), (.int d4)] (.int 0) := Arv.set Ar952 q952 S952 M952 H952 G952 (fits_nar_char _) W952 3 rfl (Nat.le_of_ble_eq_true rfl)
        refine Go.by st952 ?_
        show Go _ _ _ _ T952 (mkF m 312 #[iv p0, iv p1, iv p2, iv d0, iv d1, iv d2, iv d3, iv d4, iv d5, rv ta, iv 1, iv 2, iv 1, iv 3, un] [])
        rw [own_ncb (t := d2) q_d2.1 q_d2.2] at V952
        refine Go.aload2 314 X952 hx (hb hby at_312) rfl rfl rfl ?_
        refine Go.iconst 315 X952 hx (2 : Int32) (hb hby at_314) (by decide) rfl ?_
        refine Go.aload2 317 X952 hx (hb hby at_315) rfl rfl rfl ?_
        refine Go.iconst 318 X952 hx (1 : Int32) (hb hby at_317) (by decide) rfl ?_
        obtain ⟨cl955, Ar955, -, S955, M955, H955, -⟩ := id V952
        have hin955 : ¬ ((1 : Int32) < 0 ∨ cl955.slots.size ≤ (1 : Int32).toNatClampNeg) := inb_of S955 ⟨by decide, by decide⟩
        refine Go.by (fun _ gk => X952.caload hx (j := (1 : Int32)) (v := (.int d1)) (by rw [e952]; exact Ar955.1) (State.isArrayOf_alike hZ.alike Ar955.2.1) Ar955.2.2 hin955 (Has.at H955 hin955 rfl) (g := (mkF m 318 #[iv p0, iv p1, iv p2, iv d0, iv d1, iv d2, iv d3, iv d4, iv d5, rv ta, iv 1, iv 2, iv 1, iv 3, un] [(.int 1), (.ref ta), (.int 2), (.ref ta)])) rfl rfl (hb hby at_318) _ gk) ?_
        show Go _ _ _ _ T952 (mkF m 319 #[iv p0, iv p1, iv p2, iv d0, iv d1, iv d2, iv d3, iv d4, iv d5, rv ta, iv 1, iv 2, iv 1, iv 3, un] [(.int d1), (.int 2), (.ref ta)])
        obtain ⟨cl956, Ar956, q956, S956, M956, H956, G956⟩ := id V952
        have hin956 : ¬ ((2 : Int32) < 0 ∨ cl956.slots.size ≤ (2 : Int32).toNatClampNeg) := inb_of S956 ⟨by decide, by decide⟩
        obtain ⟨T956, h956, X956, e956, W956, st956⟩ := stC X952 hx hZ e952 Ar956 (j := (2 : Int32)) hin956 (g := (mkF m 319 #[iv p0, iv p1, iv p2, iv d0, iv d1, iv d2, iv d3, iv d4, iv d5, rv ta, iv 1, iv 2, iv 1, iv 3, un] [(.int d1), (.int 2), (.ref ta)])) rfl rfl (hb hby at_319)
        have C957 : CHr Z own_EL s.vm h0 s.vm h956 := C953.trans (CHr.wr W956 Sf954 C953.1)
        have Sf958 : Safe Z own_EL s.vm h956 ta := Safe.wr W956 Sf954 C953.1 Sf954
        have N956 := Fr.snoc X956 N952 ge_ta
        have V956 : Arv Z h956 ta k1 .char (6 : Int32) [(.int 49), (.int d1), (.int (nar .char d1)), (.int d2), (.int d3), (.int d4)] (.int 0) := Arv.set Ar956 q956 S956 M956 H956 G956 (fits_nar_char _) W956 2 rfl (Nat.le_of_ble_eq_true rfl)
        refine Go.by st956 ?_
        show Go _ _ _ _ T956 (mkF m 320 #[iv p0, iv p1, iv p2, iv d0, iv d1, iv d2, iv d3, iv d4, iv d5, rv ta, iv 1, iv 2, iv 1, iv 3, un] [])
        rw [own_ncb (t := d1) q_d1.1 q_d1.2] at V956
        refine Go.aload2 322 X956 hx (hb hby at_320) rfl rfl rfl ?_
        refine Go.iconst 323 X956 hx (1 : Int32) (hb hby at_322) (by decide) rfl ?_
        refine Go.aload2 325 X956 hx (hb hby at_323) rfl rfl rfl ?_
        refine Go.iconst 326 X956 hx (0 : Int32) (hb hby at_325) (by decide) rfl ?_
        obtain ⟨cl959, Ar959, -, S959, M959, H959, -⟩ := id V956
        have hin959 : ¬ ((0 : Int32) < 0 ∨ cl959.slots.size ≤ (0 : Int32).toNatClampNeg) := inb_of S959 ⟨by decide, by decide⟩
        refine Go.by (fun _ gk => X956.caload hx (j := (0 : Int32)) (v := (.int 49)) (by rw [e956]; exact Ar959.1) (State.isArrayOf_alike hZ.alike Ar959.2.1) Ar959.2.2 hin959 (Has.at H959 hin959 rfl) (g := (mkF m 326 #[iv p0, iv p1, iv p2, iv d0, iv d1, iv d2, iv d3, iv d4, iv d5, rv ta, iv 1, iv 2, iv 1, iv 3, un] [(.int 0), (.ref ta), (.int 1), (.ref ta)])) rfl rfl (hb hby at_326) _ gk) ?_
        show Go _ _ _ _ T956 (mkF m 327 #[iv p0, iv p1, iv p2, iv d0, iv d1, iv d2, iv d3, iv d4, iv d5, rv ta, iv 1, iv 2, iv 1, iv 3, un] [(.int 49), (.int 1), (.ref ta)])
        obtain ⟨cl960, Ar960, q960, S960, M960, H960, G960⟩ := id V956
        have hin960 : ¬ ((1 : Int32) < 0 ∨ cl960.slots.size ≤ (1 : Int32).toNatClampNeg) := inb_of S960 ⟨by decide, by decide⟩
        obtain ⟨T960, h960, X960, e960, W960, st960⟩ := stC X956 hx hZ e956 Ar960 (j := (1 : Int32)) hin960 (g := (mkF m 327 #[iv p0, iv p1, iv p2, iv d0, iv d1, iv d2, iv d3, iv d4, iv d5, rv ta, iv 1, iv 2, iv 1, iv 3, un] [(.int 49), (.int 1), (.ref ta)])) rfl rfl (hb hby at_327)
        have C961 : CHr Z own_EL s.vm h0 s.vm h960 := C957.trans (CHr.wr W960 Sf958 C957.1)
        have Sf962 : Safe Z own_EL s.vm h960 ta := Safe.wr W960 Sf958 C957.1 Sf958
        have N960 := Fr.snoc X960 N956 ge_ta
        have V960 : Arv Z h960 ta k1 .char (6 : Int32) [(.int 49), (.int (nar .char (49 : Int32))), (.int d1), (.int d2), (.int d3), (.int d4)] (.int 0) := Arv.set Ar960 q960 S960 M960 H960 G960 (fits_nar_char _) W960 1 rfl (Nat.le_of_ble_eq_true rfl)
        refine Go.by st960 ?_
        show Go _ _ _ _ T960 (mkF m 328 #[iv p0, iv p1, iv p2, iv d0, iv d1, iv d2, iv d3, iv d4, iv d5, rv ta, iv 1, iv 2, iv 1, iv 3, un] [])
        rw [own_ncb (t := (49 : Int32)) (⟨by decide, by decide⟩ : ¬ (49 : Int32) < 0 ∧ ¬ (255 : Int32) < (49 : Int32)).1 (⟨by decide, by decide⟩ : ¬ (49 : Int32) < 0 ∧ ¬ (255 : Int32) < (49 : Int32)).2] at V960
        refine Go.aload2 330 X960 hx (hb hby at_328) rfl rfl rfl ?_
        refine Go.iconst 331 X960 hx (0 : Int32) (hb hby at_330) (by decide) rfl ?_
        refine Go.iload2 333 X960 hx (hb hby at_331) rfl rfl ?_
        obtain ⟨cl963, Ar963, q963, S963, M963, H963, G963⟩ := id V960
        have hin963 : ¬ ((0 : Int32) < 0 ∨ cl963.slots.size ≤ (0 : Int32).toNatClampNeg) := inb_of S963 ⟨by decide, by decide⟩
        obtain ⟨T963, h963, X963, e963, W963, st963⟩ := stC X960 hx hZ e960 Ar963 (j := (0 : Int32)) hin963 (g := (mkF m 333 #[iv p0, iv p1, iv p2, iv d0, iv d1, iv d2, iv d3, iv d4, iv d5, rv ta, iv 1, iv 2, iv 1, iv 3, un] [(.int d5), (.int 0), (.ref ta)])) rfl rfl (hb hby at_333)
        have C964 : CHr Z own_EL s.vm h0 s.vm h963 := C961.trans (CHr.wr W963 Sf962 C961.1)
        have Sf965 : Safe Z own_EL s.vm h963 ta := Safe.wr W963 Sf962 C961.1 Sf962
        have N963 := Fr.snoc X963 N960 ge_ta
        have V963 : Arv Z h963 ta k1 .char (6 : Int32) [(.int (nar .char d5)), (.int 49), (.int d1), (.int d2), (.int d3), (.int d4)] (.int 0) := Arv.set Ar963 q963 S963 M963 H963 G963 (fits_nar_char _) W963 0 rfl (Nat.le_of_ble_eq_true rfl)
        refine Go.by st963 ?_
        show Go _ _ _ _ T963 (mkF m 334 #[iv p0, iv p1, iv p2, iv d0, iv d1, iv d2, iv d3, iv d4, iv d5, rv ta, iv 1, iv 2, iv 1, iv 3, un] [])
        rw [own_ncb (t := d5) q_d5.1 q_d5.2] at V963
        refine Go.iload2 336 X963 hx (hb hby at_334) rfl rfl ?_
        refine Go.iconst 337 X963 hx (1 : Int32) (hb hby at_336) (by decide) rfl ?_
        refine Go.iadd 338 X963 hx (hb hby at_337) rfl ?_
        rw [(by decide : ((1 : Int32) + (1 : Int32)) = (2 : Int32))]
        refine Go.istore2 340 X963 hx (L' := #[iv p0, iv p1, iv p2, iv d0, iv d1, iv d2, iv d3, iv d4, iv d5, rv ta, iv 2, iv 2, iv 1, iv 3, un]) (hb hby at_338) rfl rfl ?_
        have F966 : n0 ≤ h1.size := Nat.le_trans Z0 E1.1
        have F967 : n0 ≤ h4.size := Nat.le_trans F966 (Nat.le_of_eq (Wr.size W4).symm)
        have F968 : n0 ≤ h7.size := Nat.le_trans F967 (Nat.le_of_eq (Wr.size W7).symm)
        have F969 : n0 ≤ h10.size := Nat.le_trans F968 (Nat.le_of_eq (Wr.size W10).symm)
        have F970 : n0 ≤ h13.size := Nat.le_trans F969 (Nat.le_of_eq (Wr.size W13).symm)
        have F971 : n0 ≤ h16.size := Nat.le_trans F970 (Nat.le_of_eq (Wr.size W16).symm)
        have F972 : n0 ≤ h19.size := Nat.le_trans F971 (Nat.le_of_eq (Wr.size W19).symm)
        have F973 : n0 ≤ h856.size := Nat.le_trans F972 (Nat.le_of_eq (Wr.size W856).symm)
        have F974 : n0 ≤ h944.size := Nat.le_trans F973 (Nat.le_of_eq (Wr.size W944).symm)
        have F975 : n0 ≤ h948.size := Nat.le_trans F974 (Nat.le_of_eq (Wr.size W948).symm)
        have F976 : n0 ≤ h952.size := Nat.le_trans F975 (Nat.le_of_eq (Wr.size W952).symm)
        have F977 : n0 ≤ h956.size := Nat.le_trans F976 (Nat.le_of_eq (Wr.size W956).symm)
        have F978 : n0 ≤ h960.size := Nat.le_trans F977 (Nat.le_of_eq (Wr.size W960).symm)
        have F979 : n0 ≤ h963.size := Nat.le_trans F978 (Nat.le_of_eq (Wr.size W963).symm)
        have F980 : Old Z n0 h1 := O0.ext E1
        have F981 : Old Z n0 h4 := F980.wr W4 ge_ta
        have F982 : Old Z n0 h7 := F981.wr W7 ge_ta
        have F983 : Old Z n0 h10 := F982.wr W10 ge_ta
        have F984 : Old Z n0 h13 := F983.wr W13 ge_ta
        have F985 : Old Z n0 h16 := F984.wr W16 ge_ta
        have F986 : Old Z n0 h19 := F985.wr W19 ge_ta
        have F987 : Old Z n0 h856 := F986.wr W856 ge_ta
        have F988 : Old Z n0 h944 := F987.wr W944 ge_ta
        have F989 : Old Z n0 h948 := F988.wr W948 ge_ta
        have F990 : Old Z n0 h952 := F989.wr W952 ge_ta
        have F991 : Old Z n0 h956 := F990.wr W956 ge_ta
        have F992 : Old Z n0 h960 := F991.wr W960 ge_ta
        have F993 : Old Z n0 h963 := F992.wr W963 ge_ta
        have F994 : s.heap.size ≤ h1.size := Nat.le_trans hk0 E1.1
        have F995 : s.heap.size ≤ h4.size := Nat.le_trans F994 (Nat.le_of_eq (Wr.size W4).symm)
        have F996 : s.heap.size ≤ h7.size := Nat.le_trans F995 (Nat.le_of_eq (Wr.size W7).symm)
        have F997 : s.heap.size ≤ h10.size := Nat.le_trans F996 (Nat.le_of_eq (Wr.size W10).symm)
        have F998 : s.heap.size ≤ h13.size := Nat.le_trans F997 (Nat.le_of_eq (Wr.size W13).symm)
        have F999 : s.heap.size ≤ h16.size := Nat.le_trans F998 (Nat.le_of_eq (Wr.size W16).symm)
        have F1000 : s.heap.size ≤ h19.size := Nat.le_trans F999 (Nat.le_of_eq (Wr.size W19).symm)
        have F1001 : s.heap.size ≤ h856.size := Nat.le_trans F1000 (Nat.le_of_eq (Wr.size W856).symm)
        have F1002 : s.heap.size ≤ h944.size := Nat.le_trans F1001 (Nat.le_of_eq (Wr.size W944).symm)
        have F1003 : s.heap.size ≤ h948.size := Nat.le_trans F1002 (Nat.le_of_eq (Wr.size W948).symm)
        have F1004 : s.heap.size ≤ h952.size := Nat.le_trans F1003 (Nat.le_of_eq (Wr.size W952).symm)
        have F1005 : s.heap.size ≤ h956.size := Nat.le_trans F1004 (Nat.le_of_eq (Wr.size W956).symm)
        have F1006 : s.heap.size ≤ h960.size := Nat.le_trans F1005 (Nat.le_of_eq (Wr.size W960).symm)
        have F1007 : s.heap.size ≤ h963.size := Nat.le_trans F1006 (Nat.le_of_eq (Wr.size W963).symm)
        exact J22 _ _ _ d5 (49 : Int32) d1 d2 d3 d4 (2 : Int32) (iv 2) (iv 1) (iv 3) X963 e963 N963 F979 F993 C964 F1007 V963 q_d5 (⟨by decide, by decide⟩) q_d1 q_d2 q_d3 q_d4 (Or.inr (Or.inr (Or.inl rfl))) (Or.inr ⟨_, rfl, rfl⟩) (Or.inr ⟨_, rfl, rfl⟩) (Or.inr ⟨_, rfl, rfl⟩)
    · obtain rfl : kw = 3 := h_kw.trans hk
      show Go _ _ _ _ T19 (mkF m 121 #[iv p0, iv p1, iv p2, iv d0, iv d1, iv d2, iv d3, iv d4, iv d5, rv ta, un, iv 3, un, un, un] [])
      refine Go.iload2 123 X19 hx (hb hby at_121) rfl rfl ?_
      refine Go.ifY 156 X19 hx (hb hby at_123) (XT.i0_ne_t (by decide)) (by decide) (by decide) ?_
      refine Go.iload2 158 X19 hx (hb hby at_156) rfl rfl ?_
      refine Go.iconst 159 X19 hx (1 : Int32) (hb hby at_158) (by decide) rfl ?_
      refine Go.icmpY 198 X19 hx (hb hby at_159) (XT.ii_ne_t (by decide)) (by decide) (by decide) ?_
      refine Go.iload2 200 X19 hx (hb hby at_198) rfl rfl ?_
      refine Go.iconst 201 X19 hx (2 : Int32) (hb hby at_200) (by decide) rfl ?_
      refine Go.icmpY 216 X19 hx (hb hby at_201) (XT.ii_ne_t (by decide)) (by decide) (by decide) ?_
      refine Go.aload2 218 X19 hx (hb hby at_216) rfl rfl rfl ?_
      refine Go.iconst 219 X19 hx (0 : Int32) (hb hby at_218) (by decide) rfl ?_
      refine Go.bipush 221 X19 hx (48 : Int32) (hb hby at_219) (by decide) rfl ?_
      obtain ⟨cl1008, Ar1008, q1008, S1008, M1008, H1008, G1008⟩ := id V19
      have hin1008 : ¬ ((0 : Int32) < 0 ∨ cl1008.slots.size ≤ (0 : Int32).toNatClampNeg) := inb_of S1008 ⟨by decide, by decide⟩
      obtain ⟨T1008, h1008, X1008, e1008, W1008, st1008⟩ := stC X19 hx hZ e19 Ar1008 (j := (0 : Int32)) hin1008 (g := (mkF m 221 #[iv p0, iv p1, iv p2, iv d0, iv d1, iv d2, iv d3, iv d4, iv d5, rv ta, un, iv 3, un, un, un] [(.int 48), (.int 0), (.ref ta)])) rfl rfl (hb hby at_221)
      have C1009 : CHr Z own_EL s.vm h0 s.vm h1008 := C20.trans (CHr.wr W1008 Sf21 C20.1)
      have Sf1010 : Safe Z own_EL s.vm h1008 ta := Safe.wr W1008 Sf21 C20.1 Sf21
      have N1008 := Fr.snoc X1008 N19 ge_ta
      have V1008 : Arv Z h1008 ta k1 .char (6 : Int32) [(.int (nar .char (48 : Int32))), (.int d1), (.int d2), (.int d3), (.int d4), (.int d5)] (.int 0) := Arv.set Ar1008 q1008 S1008 M1008 H1008 G1008 (fits_nar_char _) W1008 0 rfl (Nat.le_of_ble_eq_true rfl)
      refine Go.by st1008 ?_
      show Go _ _ _ _ T1008 (mkF m 222 #[iv p0, iv p1, iv p2, iv d0, iv d1, iv d2, iv d3, iv d4, iv d5, rv ta, un, iv 3, un, un, un] [])
      rw [own_ncb (t := (48 : Int32)) (⟨by decide, by decide⟩ : ¬ (48 : Int32) < 0 ∧ ¬ (255 : Int32) < (48 : Int32)).1 (⟨by decide, by decide⟩ : ¬ (48 : Int32) < 0 ∧ ¬ (255 : Int32) < (48 : Int32)).2] at V1008
      refine Go.iconst 223 X1008 hx (1 : Int32) (hb hby at_222) (by decide) rfl ?_
      refine Go.istore2 225 X1008 hx (L' := #[iv p0, iv p1, iv p2, iv d0, iv d1, iv d2, iv d3, iv d4, iv d5, rv ta, un, iv 3, iv 1, un, un]) (hb hby at_223) rfl rfl ?_
      refine Go.iload2 227 X1008 hx (hb hby at_225) rfl rfl ?_
      refine Go.istore2 229 X1008 hx (L' := #[iv p0, iv p1, iv p2, iv d0, iv d1, iv d2, iv d3, iv d4, iv d5, rv ta, iv 1, iv 3, iv 1, un, un]) (hb hby at_227) rfl rfl ?_
      refine Go.iload1 230 X1008 hx (hb hby at_229) rfl rfl ?_
      refine Go.iconst 231 X1008 hx (4 : Int32) (hb hby at_230) (by decide) rfl ?_
      refine Go.iushr 232 X1008 hx (hb hby at_231) rfl ?_
      refine Go.iconst 233 X1008 hx (3 : Int32) (hb hby at_232) (by decide) rfl ?_
      refine Go.iand 234 X1008 hx (hb hby at_233) rfl ?_
      refine Go.istore2 236 X1008 hx (L' := #[iv p0, iv p1, iv p2, iv d0, iv d1, iv d2, iv d3, iv d4, iv d5, rv ta, iv 1, iv 3, iv 1, iv ((XT.ushr p0 (4 : Int32)) &&& (3 : Int32)), un]) (hb hby at_234) rfl rfl ?_
      obtain ⟨ed, h_ed⟩ : ∃ z, z = ((XT.ushr p0 (4 : Int32)) &&& (3 : Int32)) := ⟨_, rfl⟩
      rw [← h_ed]
      show Go _ _ _ _ T1008 (mkF m 236 #[iv p0, iv p1, iv p2, iv d0, iv d1, iv d2, iv d3, iv d4, iv d5, rv ta, iv 1, iv 3, iv 1, iv ed, un] [])
      rcases own_a3 (XT.ushr p0 4) with he | he | he | he
      · obtain rfl : ed = 0 := h_ed.trans he
        show Go _ _ _ _ T1008 (mkF m 236 #[iv p0, iv p1, iv p2, iv d0, iv d1, iv d2, iv d3, iv d4, iv d5, rv ta, iv 1, iv 3, iv 1, iv 0, un] [])
        refine Go.iload2 238 X1008 hx (hb hby at_236) rfl rfl ?_
        refine Go.iconst 239 X1008 hx (1 : Int32) (hb hby at_238) (by decide) rfl ?_
        refine Go.icmpY 260 X1008 hx (hb hby at_239) (XT.ii_ne_t (by decide)) (by decide) (by decide) ?_
        refine Go.iload2 262 X1008 hx (hb hby at_260) rfl rfl ?_
        refine Go.iconst 263 X1008 hx (2 : Int32) (hb hby at_262) (by decide) rfl ?_
        refine Go.icmpY 282 X1008 hx (hb hby at_263) (XT.ii_ne_t (by decide)) (by decide) (by decide) ?_
        refine Go.iload2 284 X1008 hx (hb hby at_282) rfl rfl ?_
        refine Go.iconst 285 X1008 hx (3 : Int32) (hb hby at_284) (by decide) rfl ?_
        refine Go.icmpY 340 X1008 hx (hb hby at_285) (XT.ii_ne_t (by decide)) (by decide) (by decide) ?_
        have F1011 : n0 ≤ h1.size := Nat.le_trans Z0 E1.1
        have F1012 : n0 ≤ h4.size := Nat.le_trans F1011 (Nat.le_of_eq (Wr.size W4).symm)
        have F1013 : n0 ≤ h7.size := Nat.le_trans F1012 (Nat.le_of_eq (Wr.size W7).symm)
        have F1014 : n0 ≤ h10.size := Nat.le_trans F1013 (Nat.le_of_eq (Wr.size W10).symm)
        have F1015 : n0 ≤ h13.size := Nat.le_trans F1014 (Nat.le_of_eq (Wr.size W13).symm)
        have F1016 : n0 ≤ h16.size := Nat.le_trans F1015 (Nat.le_of_eq (Wr.size W16).symm)
        have F1017 : n0 ≤ h19.size := Nat.le_trans F1016 (Nat.le_of_eq (Wr.size W19).symm)
        have F1018 : n0 ≤ h1008.size := Nat.le_trans F1017 (Nat.le_of_eq (Wr.size W1008).symm)
        have F1019 : Old Z n0 h1 := O0.ext E1
        have F1020 : Old Z n0 h4 := F1019.wr W4 ge_ta
        have F1021 : Old Z n0 h7 := F1020.wr W7 ge_ta
        have F1022 : Old Z n0 h10 := F1021.wr W10 ge_ta
        have F1023 : Old Z n0 h13 := F1022.wr W13 ge_ta
        have F1024 : Old Z n0 h16 := F1023.wr W16 ge_ta
        have F1025 : Old Z n0 h19 := F1024.wr W19 ge_ta
        have F1026 : Old Z n0 h1008 := F1025.wr W1008 ge_ta
        have F1027 : s.heap.size ≤ h1.size := Nat.le_trans hk0 E1.1
        have F1028 : s.heap.size ≤ h4.size := Nat.le_trans F1027 (Nat.le_of_eq (Wr.size W4).symm)
        have F1029 : s.heap.size ≤ h7.size := Nat.le_trans F1028 (Nat.le_of_eq (Wr.size W7).symm)
        have F1030 : s.heap.size ≤ h10.size := Nat.le_trans F1029 (Nat.le_of_eq (Wr.size W10).symm)
        have F1031 : s.heap.size ≤ h13.size := Nat.le_trans F1030 (Nat.le_of_eq (Wr.size W13).symm)
        have F1032 : s.heap.size ≤ h16.size := Nat.le_trans F1031 (Nat.le_of_eq (Wr.size W16).symm)
        have F1033 : s.heap.size ≤ h19.size := Nat.le_trans F1032 (Nat.le_of_eq (Wr.size W19).symm)
        have F1034 : s.heap.size ≤ h1008.size := Nat.le_trans F1033 (Nat.le_of_eq (Wr.size W1008).symm)
        exact J22 _ _ _ (48 : Int32) d1 d2 d3 d4 d5 (1 : Int32) (iv 3) (iv 1) (iv 0) X1008 e1008 N1008 F1018 F1026 C1009 F1034 V1008 (⟨by decide, by decide⟩) q_d1 q_d2 q_d3 q_d4 q_d5 (Or.inr (Or.inl rfl)) (Or.inr ⟨_, rfl, rfl⟩) (Or.inr ⟨_, rfl, rfl⟩) (Or.inr ⟨_, rfl, rfl⟩)
      · obtain rfl : ed = 1 := h_ed.trans he
        show Go _ _ _ _ T1008 (mkF m 236 #[iv p0, iv p1, iv p2, iv d0, iv d1, iv d2, iv d3, iv d4, iv d5, rv ta, iv 1, iv 3, iv 1, iv 1, un] [])
        refine Go.iload2 238 X1008 hx (hb hby at_236) rfl rfl ?_
        refine Go.iconst 239 X1008 hx (1 : Int32) (hb hby at_238) (by decide) rfl ?_
        refine Go.icmpN 242 X1008 hx (hb hby at_239) (XT.ii_ne_f rfl) rfl ?_
        refine Go.aload2 244 X1008 hx (hb hby at_242) rfl rfl rfl ?_
        refine Go.iload1 245 X1008 hx (hb hby at_244) rfl rfl ?_
        refine Go.bipush 247 X1008 hx (6 : Int32) (hb hby at_245) (by decide) rfl ?_
        refine Go.iushr 248 X1008 hx (hb hby at_247) rfl ?_
        refine Go.bipush 250 X1008 hx (7 : Int32) (hb hby at_248) (by decide) rfl ?_
        refine Go.iand 251 X1008 hx (hb hby at_250) rfl ?_
        refine Go.iload2 253 X1008 hx (hb hby at_251) rfl rfl ?_
        refine Go.irem 254 X1008 hx (hb hby at_253) (by decide) rfl ?_
        refine Go.iload2 256 X1008 hx (hb hby at_254) rfl rfl ?_
        obtain ⟨ix, h_ix⟩ : ∃ z, z = (((XT.ushr p0 (6 : Int32)) &&& (7 : Int32)) - ((XT.ushr p0 (6 : Int32)) &&& (7 : Int32)) / (1 : Int32) * (1 : Int32)) := ⟨_, rfl⟩
        rw [← h_ix]
        show Go _ _ _ _ T1008 (mkF m 256 #[iv p0, iv p1, iv p2, iv d0, iv d1, iv d2, iv d3, iv d4, iv d5, rv ta, iv 1, iv 3, iv 1, iv 1, un] [(.int d5), (.int ix), (.ref ta)])
        obtain rfl := own_m1 h_ix
        show Go _ _ _ _ T1008 (mkF m 256 #[iv p0, iv p1, iv p2, iv d0, iv d1, iv d2, iv d3, iv d4, iv d5, rv ta, iv 1, iv 3, iv 1, iv 1, un] [(.int d5), (.int 0), (.ref ta)])
        obtain ⟨cl1035, Ar1035, q1035, S1035, M1035, H1035, G1035⟩ := id V1008
        have hin1035 : ¬ ((0 : Int32) < 0 ∨ cl1035.slots.size ≤ (0 : Int32).toNatClampNeg) := inb_of S1035 ⟨by decide, by decide⟩
        obtain ⟨T1035, h1035, X1035, e1035, W1035, st1035⟩ := stC X1008 hx hZ e1008 Ar1035 (j := (0 : Int32)) hin1035 (g := (mkF m 256 #[iv p0, iv p1, iv p2, iv d0, iv d1, iv d2, iv d3, iv d4, iv d5, rv ta, iv 1, iv 3, iv 1, iv 1, un] [(.int d5), (.int 0), (.ref ta)])) rfl rfl (hb hby at_256)
        have C1036 : CHr Z own_EL s.vm h0 s.vm h1035 := C1009.trans (CHr.wr W1035 Sf1010 C1009.1)
        have Sf1037 : Safe Z own_EL s.vm h1035 ta := Safe.wr W1035 Sf1010 C1009.1 Sf1010
        have N1035 := Fr.snoc X1035 N1008 ge_ta
        have V1035 : Arv Z h1035 ta k1 .char (6 : Int32) [(.int (nar .char d5)), (.int d1), (.int d2), (.int d3), (.int d4), (.int d5)] (.int 0) := Arv.set Ar1035 q1035 S1035 M1035 H1035 G1035 (fits_nar_char _) W1035 0 rfl (Nat.le_of_ble_eq_true rfl)
        refine Go.by st1035 ?_
        show Go _ _ _ _ T1035 (mkF m 257 #[iv p0, iv p1, iv p2, iv d0, iv d1, iv d2, iv d3, iv d4, iv d5, rv ta, iv 1, iv 3, iv 1, iv 1, un] [])
        rw [own_ncb (t := d5) q_d5.1 q_d5.2] at V1035
        refine Go.goto 340 X1035 hx (hb hby at_257) (by decide) (by decide) ?_
        have F1038 : n0 ≤ h1.size := Nat.le_trans Z0 E1.1
        have F1039 : n0 ≤ h4.size := Nat.le_trans F1038 (Nat.le_of_eq (Wr.size W4).symm)
        have F1040 : n0 ≤ h7.size := Nat.le_trans F1039 (Nat.le_of_eq (Wr.size W7).symm)
        have F1041 : n0 ≤ h10.size := Nat.le_trans F1040 (Nat.le_of_eq (Wr.size W10).symm)
        have F1042 : n0 ≤ h13.size := Nat.le_trans F1041 (Nat.le_of_eq (Wr.size W13).symm)
        have F1043 : n0 ≤ h16.size := Nat.le_trans F1042 (Nat.le_of_eq (Wr.size W16).symm)
        have F1044 : n0 ≤ h19.size := Nat.le_trans F1043 (Nat.le_of_eq (Wr.size W19).symm)
        have F1045 : n0 ≤ h1008.size := Nat.le_trans F1044 (Nat.le_of_eq (Wr.size W1008).symm)
        have F1046 : n0 ≤ h1035.size := Nat.le_trans F1045 (Nat.le_of_eq (Wr.size W1035).symm)
        have F1047 : Old Z n0 h1 := O0.ext E1
        have F1048 : Old Z n0 h4 := F1047.wr W4 ge_ta
        have F1049 : Old Z n0 h7 := F1048.wr W7 ge_ta
        have F1050 : Old Z n0 h10 := F1049.wr W10 ge_ta
        have F1051 : Old Z n0 h13 := F1050.wr W13 ge_ta
        have F1052 : Old Z n0 h16 := F1051.wr W16 ge_ta
        have F1053 : Old Z n0 h19 := F1052.wr W19 ge_ta
        have F1054 : Old Z n0 h1008 := F1053.wr W1008 ge_ta
        have F1055 : Old Z n0 h1035 := F1054.wr W1035 ge_ta
        have F1056 : s.heap.size ≤ h1.size := Nat.le_trans hk0 E1.1
        have F1057 : s.heap.size ≤ h4.size := Nat.le_trans F1056 (Nat.le_of_eq (Wr.size W4).symm)
        have F1058 : s.heap.size ≤ h7.size := Nat.le_trans F1057 (Nat.le_of_eq (Wr.size W7).symm)
        have F1059 : s.heap.size ≤ h10.size := Nat.le_trans F1058 (Nat.le_of_eq (Wr.size W10).symm)
        have F1060 : s.heap.size ≤ h13.size := Nat.le_trans F1059 (Nat.le_of_eq (Wr.size W13).symm)
        have F1061 : s.heap.size ≤ h16.size := Nat.le_trans F1060 (Nat.le_of_eq (Wr.size W16).symm)
        have F1062 : s.heap.size ≤ h19.size := Nat.le_trans F1061 (Nat.le_of_eq (Wr.size W19).symm)
        have F1063 : s.heap.size ≤ h1008.size := Nat.le_trans F1062 (Nat.le_of_eq (Wr.size W1008).symm)
        have F1064 : s.heap.size ≤ h1035.size := Nat.le_trans F1063 (Nat.le_of_eq (Wr.size W1035).symm)
        exact J22 _ _ _ d5 d1 d2 d3 d4 d5 (1 : Int32) (iv 3) (iv 1) (iv 1) X1035 e1035 N1035 F1046 F1055 C1036 F1064 V1035 q_d5 q_d1 q_d2 q_d3 q_d4 q_d5 (Or.inr (Or.inl rfl)) (Or.inr ⟨_, rfl, rfl⟩) (Or.inr ⟨_, rfl, rfl⟩) (Or.inr ⟨_, rfl, rfl⟩)
      · obtain rfl : ed = 2 := h_ed.trans he
        show Go _ _ _ _ T1008 (mkF m 236 #[iv p0, iv p1, iv p2, iv d0, iv d1, iv d2, iv d3, iv d4, iv d5, rv ta, iv 1, iv 3, iv 1, iv 2, un] [])
        refine Go.iload2 238 X1008 hx (hb hby at_236) rfl rfl ?_
        refine Go.iconst 239 X1008 hx (1 : Int32) (hb hby at_238) (by decide) rfl ?_
        refine Go.icmpY 260 X1008 hx (hb hby at_239) (XT.ii_ne_t (by decide)) (by decide) (by decide) ?_
        refine Go.iload2 262 X1008 hx (hb hby at_260) rfl rfl ?_
        refine Go.iconst 263 X1008 hx (2 : Int32) (hb hby at_262) (by decide) rfl ?_
        refine Go.icmpN 266 X1008 hx (hb hby at_263) (XT.ii_ne_f rfl) rfl ?_
        refine Go.aload2 268 X1008 hx (hb hby at_266) rfl rfl rfl ?_
        refine Go.iload2 270 X1008 hx (hb hby at_268) rfl rfl ?_
        refine Go.iload2 272 X1008 hx (hb hby at_270) rfl rfl ?_
        obtain ⟨cl1065, Ar1065, q1065, S1065, M1065, H1065, G1065⟩ := id V1008
        have hin1065 : ¬ ((1 : Int32) < 0 ∨ cl1065.slots.size ≤ (1 : Int32).toNatClampNeg) := inb_of S1065 ⟨by decide, by decide⟩
        obtain ⟨T1065, h1065, X1065, e1065, W1065, st1065⟩ := stC X1008 hx hZ e1008 Ar1065 (j := (1 : Int32)) hin1065 (g := (mkF m 272 #[iv p0, iv p1, iv p2, iv d0, iv d1, iv d2, iv d3, iv d4, iv d5, rv ta, iv 1, iv 3, iv 1, iv 2, un] [(.int d5), (.int 1), (.ref ta)])) rfl rfl (hb hby at_272)
        have C1066 : CHr Z own_EL s.vm h0 s.vm h1065 := C1009.trans (CHr.wr W1065 Sf1010 C1009.1)
        have Sf1067 : Safe Z own_EL s.vm h1065 ta := Safe.wr W1065 Sf1010 C1009.1 Sf1010
        have N1065 := Fr.snoc X1065 N1008 ge_ta
        have V1065 : Arv Z h1065 ta k1 .char (6 : Int32) [(.int 48), (.int (nar .char d5)), (.int d2), (.int d3), (.int d4), (.int d5)] (.int 0) := Arv.set Ar1065 q1065 S1065 M1065 H1065 G1065 (fits_nar_char _) W1065 1 rfl (Nat.le_of_ble_eq_true rfl)
        refine Go.by st1065 ?_
        show Go _ _ _ _ T1065 (mkF m 273 #[iv p0, iv p1, iv p2, iv d0, iv d1, iv d2, iv d3, iv d4, iv d5, rv ta, iv 1, iv 3, iv 1, iv 2, un] [])
        rw [own_ncb (t := d5) q_d5.1 q_d5.2] at V1065
        refine Go.iload2 275 X1065 hx (hb hby at_273) rfl rfl ?_
        refine Go.iconst 276 X1065 hx (1 : Int32) (hb hby at_275) (by decide) rfl ?_
        refine Go.iadd 277 X1065 hx (hb hby at_276) rfl ?_
        rw [(by decide : ((1 : Int32) + (1 : Int32)) = (2 : Int32))]
        refine Go.istore2 279 X1065 hx (L' := #[iv p0, iv p1, iv p2, iv d0, iv d1, iv d2, iv d3, iv d4, iv d5, rv ta, iv 2, iv 3, iv 1, iv 2, un]) (hb hby at_277) rfl rfl ?_
        refine Go.goto 340 X1065 hx (hb hby at_279) (by decide) (by decide) ?_
        have F1068 : n0 ≤ h1.size := Nat.le_trans Z0 E1.1
        have F1069 : n0 ≤ h4.size := Nat.le_trans F1068 (Nat.le_of_eq (Wr.size W4).symm)
        have F1070 : n0 ≤ h7.size := Nat.le_trans F1069 (Nat.le_of_eq (Wr.size W7).symm)
        have F1071 : n0 ≤ h10.size := Nat.le_trans F1070 (Nat.le_of_eq (Wr.size W10).symm)
        have F1072 : n0 ≤ h13.size := Nat.le_trans F1071 (Nat.le_of_eq (Wr.size W13).symm)
        have F1073 : n0 ≤ h16.size := Nat.le_trans F1072 (Nat.le_of_eq (Wr.size W16).symm)
        have F1074 : n0 ≤ h19.size := Nat.le_trans F1073 (Nat.le_of_eq (Wr.size W19).symm)
        have F1075 : n0 ≤ h1008.size := Nat.le_trans F1074 (Nat.le_of_eq (Wr.size W1008).symm)
        have F1076 : n0 ≤ h1065.size := Nat.le_trans F1075 (Nat.le_of_eq (Wr.size W1065).symm)
        have F1077 : Old Z n0 h1 := O0.ext E1
        have F1078 : Old Z n0 h4 := F1077.wr W4 ge_ta
        have F1079 : Old Z n0 h7 := F1078.wr W7 ge_ta
        have F1080 : Old Z n0 h10 := F1079.wr W10 ge_ta
        have F1081 : Old Z n0 h13 := F1080.wr W13 ge_ta
        have F1082 : Old Z n0 h16 := F1081.wr W16 ge_ta
        have F1083 : Old Z n0 h19 := F1082.wr W19 ge_ta
        have F1084 : Old Z n0 h1008 := F1083.wr W1008 ge_ta
        have F1085 : Old Z n0 h1065 := F1084.wr W1065 ge_ta
        have F1086 : s.heap.size ≤ h1.size := Nat.le_trans hk0 E1.1
        have F1087 : s.heap.size ≤ h4.size := Nat.le_trans F1086 (Nat.le_of_eq (Wr.size W4).symm)
        have F1088 : s.heap.size ≤ h7.size := Nat.le_trans F1087 (Nat.le_of_eq (Wr.size W7).symm)
        have F1089 : s.heap.size ≤ h10.size := Nat.le_trans F1088 (Nat.le_of_eq (Wr.size W10).symm)
        have F1090 : s.heap.size ≤ h13.size := Nat.le_trans F1089 (Nat.le_of_eq (Wr.size W13).symm)
        have F1091 : s.heap.size ≤ h16.size := Nat.le_trans F1090 (Nat.le_of_eq (Wr.size W16).symm)
        have F1092 : s.heap.size ≤ h19.size := Nat.le_trans F1091 (Nat.le_of_eq (Wr.size W19).symm)
        have F1093 : s.heap.size ≤ h1008.size := Nat.le_trans F1092 (Nat.le_of_eq (Wr.size W1008).symm)
        have F1094 : s.heap.size ≤ h1065.size := Nat.le_trans F1093 (Nat.le_of_eq (Wr.size W1065).symm)
        exact J22 _ _ _ (48 : Int32) d5 d2 d3 d4 d5 (2 : Int32) (iv 3) (iv 1) (iv 2) X1065 e1065 N1065 F1076 F1085 C1066 F1094 V1065 (⟨by decide, by decide⟩) q_d5 q_d2 q_d3 q_d4 q_d5 (Or.inr (Or.inr (Or.inl rfl))) (Or.inr ⟨_, rfl, rfl⟩) (Or.inr ⟨_, rfl, rfl⟩) (Or.inr ⟨_, rfl, rfl⟩)
      · obtain rfl : ed = 3 := h_ed.trans he
        show Go _ _ _ _ T1008 (mkF m 236 #[iv p0, iv p1, iv p2, iv d0, iv d1, iv d2, iv d3, iv d4, iv d5, rv ta, iv 1, iv 3, iv 1, iv 3, un] [])
        refine Go.iload2 238 X1008 hx (hb hby at_236) rfl rfl ?_
        refine Go.iconst 239 X1008 hx (1 : Int32) (hb hby at_238) (by decide) rfl ?_
        refine Go.icmpY 260 X1008 hx (hb hby at_239) (XT.ii_ne_t (by decide)) (by decide) (by decide) ?_
        refine Go.iload2 262 X1008 hx (hb hby at_260) rfl rfl ?_
        refine Go.iconst 263 X1008 hx (2 : Int32) (hb hby at_262) (by decide) rfl ?_
        refine Go.icmpY 282 X1008 hx (hb hby at_263) (XT.ii_ne_t (by decide)) (by decide) (by decide) ?_
        refine Go.iload2 284 X1008 hx (hb hby at_282) rfl rfl ?_
        refine Go.iconst 285 X1008 hx (3 : Int32) (hb hby at_284) (by decide) rfl ?_
        refine Go.icmpN 288 X1008 hx (hb hby at_285) (XT.ii_ne_f rfl) rfl ?_
        refine Go.aload2 290 X1008 hx (hb hby at_288) rfl rfl rfl ?_
        refine Go.iconst 291 X1008 hx (5 : Int32) (hb hby at_290) (by decide) rfl ?_
        refine Go.aload2 293 X1008 hx (hb hby at_291) rfl rfl rfl ?_
        refine Go.iconst 294 X1008 hx (4 : Int32) (hb hby at_293) (by decide) rfl ?_
        obtain ⟨cl1095, Ar1095, -, S1095, M1095, H1095, -⟩ := id V1008
        have hin1095 : ¬ ((4 : Int32) < 0 ∨ cl1095.slots.size ≤ (4 : Int32).toNatClampNeg) := inb_of S1095 ⟨by decide, by decide⟩
        refine Go.by (fun _ gk => X1008.caload hx (j := (4 : Int32)) (v := (.int d4)) (by rw [e1008]; exact Ar1095.1) (State.isArrayOf_alike hZ.alike Ar1095.2.1) Ar1095.2.2 hin1095 (Has.at H1095 hin1095 rfl) (g := (mkF m 294 #[iv p0, iv p1, iv p2, iv d0, iv d1, iv d2, iv d3, iv d4, iv d5, rv ta, iv 1, iv 3, iv 1, iv 3, un] [(.int 4), (.ref ta), (.int 5), (.ref ta)])) rfl rfl (hb hby at_294) _ gk) ?_
        show Go _ _ _ _ T1008 (mkF m 295 #[iv p0, iv p1, iv p2, iv d0, iv d1, iv d2, iv d3, iv d4, iv d5, rv ta, iv 1, iv 3, iv 1, iv 3, un] [(.int d4), (.int 5), (.ref ta)])
        obtain ⟨cl1096, Ar1096, q1096, S1096, M1096, H1096, G1096⟩ := id V1008
        have hin1096 : ¬ ((5 : Int32) < 0 ∨ cl1096.slots.size ≤ (5 : Int32).toNatClampNeg) := inb_of S1096 ⟨by decide, by decide⟩
        obtain ⟨T1096, h1096, X1096, e1096, W1096, st1096⟩ := stC X1008 hx hZ e1008 Ar1096 (j := (5 : Int32)) hin1096 (g := (mkF m 295 #[iv p0, iv p1, iv p2, iv d0, iv d1, iv d2, iv d3, iv d4, iv d5, rv ta, iv 1, iv 3, iv 1, iv 3, un] [(.int d4), (.int 5), (.ref ta)])) rfl rfl (hb hby at_295)
        have C1097 : CHr Z own_EL s.vm h0 s.vm h1096 := C1009.trans (CHr.wr W1096 Sf1010 C1009.1)
        have Sf1098 : Safe Z own_EL s.vm h1096 ta := Safe.wr W1096 Sf1010 C1009.1 Sf1010
        have N1096 := Fr.snoc X1096 N1008 ge_ta
        have V1096 : Arv Z h1096 ta k1 .char (6 : Int32) [(.int 48), (.int d1), (.int d2), (.int d3), (.int d4), (.int (nar .char d4))] (.int 0) := Arv.set Ar1096 q1096 S1096 M1096 H1096 G1096 (fits_nar_char _) W1096 5 rfl (Nat.le_of_ble_eq_true rfl)
        refine Go.by st1096 ?_
        show Go _ _ _ _ T1096 (mkF m 296 #[iv p0, iv p1, iv p2, iv d0, iv d1, iv d2, iv d3, iv d4, iv d5, rv ta, iv 1, iv 3, iv 1, iv 3, un] [])
        rw [own_ncb (t := d4) q_d4.1 q_d4.2] at V1096
        refine Go.aload2 298 X1096 hx (hb hby at_296) rfl rfl rfl ?_
        refine Go.iconst 299 X1096 hx (4 : Int32) (hb hby at_298) (by decide) rfl ?_
        refine Go.aload2 301 X1096 hx (hb hby at_299) rfl rfl rfl ?_
        refine Go.iconst 302 X1096 hx (3 : Int32) (hb hby at_301) (by decide) rfl ?_
        obtain ⟨cl1099, Ar1099, -, S1099, M1099, H1099, -⟩ := id V1096
        have hin1099 : ¬ ((3 : Int32) < 0 ∨ cl1099.slots.size ≤ (3 : Int32).toNatClampNeg) := inb_of S1099 ⟨by decide, by decide⟩
        refine Go.by (fun _ gk => X1096.caload hx (j := (3 : Int32)) (v := (.int d3)) (by rw [e1096]; exact Ar1099.1) (State.isArrayOf_alike hZ.alike Ar1099.2.1) Ar1099.2.2 hin1099 (Has.at H1099 hin1099 rfl) (g := (mkF m 302 #[iv p0, iv p1, iv p2, iv d0, iv d1, iv d2, iv d3, iv d4, iv d5, rv ta, iv 1, iv 3, iv 1, iv 3, un] [(.int 3), (.ref ta), (.int 4), (.ref ta)])) rfl rfl (hb hby at_302) _ gk) ?_
        show Go _ _ _ _ T1096 (mkF m 303 #[iv p0, iv p1, iv p2, iv d0, iv d1, iv d2, iv d3, iv d4, iv d5, rv ta, iv 1, iv 3, iv 1, iv 3, un] [(.int d3), (.int 4), (.ref ta)])
        obtain ⟨cl1100, Ar1100, q1100, S1100, M1100, H1100, G1100⟩ := id V1096
        have hin1100 : ¬ ((4 : Int32) < 0 ∨ cl1100.slots.size ≤ (4 : Int32).toNatClampNeg) := inb_of S1100 ⟨by decide, by decide⟩
        obtain ⟨T1100, h1100, X1100, e1100, W1100, st1100⟩ := stC X1096 hx hZ e1096 Ar1100 (j := (4 : Int32)) hin1100 (g := (mkF m 303 #[iv p0, iv p1, iv p2, iv d0, iv d1, iv d2, iv d3, iv d4, iv d5, rv ta, iv 1, iv 3, iv 1, iv 3, un] [(.int d3), (.int 4), (.ref ta)])) rfl rfl (hb hby at_303)
        have C1101 : CHr Z own_EL s.vm h0 s.vm h1100 := C1097.trans (CHr.wr W1100 Sf1098 C1097.1)
        have Sf1102 : Safe Z own_EL s.vm h1100 ta := Safe.wr W1100 Sf1098 C1097.1 Sf1098
        have N1100 := Fr.snoc X1100 N1096 ge_ta
        have V1100 : Arv Z h1100 ta k1 .char (6 : Int32) [(.int 48), (.int d1), (.int d2), (.int d3), (.int (nar .char d3)), (.int d4)] (.int 0) := Arv.set Ar1100 q1100 S1100 M1100 H1100 G1100 (fits_nar_char _) W1100 4 rfl (Nat.le_of_ble_eq_true rfl)
        refine Go.by st1100 ?_
        show Go _ _ _ _ T1100 (mkF m 304 #[iv p0, iv p1, iv p2, iv d0, iv d1, iv d2, iv d3, iv d4, iv d5, rv ta, iv 1, iv 3, iv 1, iv 3, un] [])
        rw [own_ncb (t := d3) q_d3.1 q_d3.2] at V1100
        refine Go.aload2 306 X1100 hx (hb hby at_304) rfl rfl rfl ?_
        refine Go.iconst 307 X1100 hx (3 : Int32) (hb hby at_306) (by decide) rfl ?_
        refine Go.aload2 309 X1100 hx (hb hby at_307) rfl rfl rfl ?_
        refine Go.iconst 310 X1100 hx (2 : Int32) (hb hby at_309) (by decide) rfl ?_
        obtain ⟨cl1103, Ar1103, -, S1103, M1103, H1103, -⟩ := id V1100
        have hin1103 : ¬ ((2 : Int32) < 0 ∨ cl1103.slots.size ≤ (2 : Int32).toNatClampNeg) := inb_of S1103 ⟨by decide, by decide⟩
        refine Go.by (fun _ gk => X1100.caload hx (j := (2 : Int32)) (v := (.int d2)) (by rw [e1100]; exact Ar1103.1) (State.isArrayOf_alike hZ.alike Ar1103.2.1) Ar1103.2.2 hin1103 (Has.at H1103 hin1103 rfl) (g := (mkF m 310 #[iv p0, iv p1, iv p2, iv d0, iv d1, iv d2, iv d3, iv d4, iv d5, rv ta, iv 1, iv 3, iv 1, iv 3, un] [(.int 2), (.ref ta), (.int 3), (.ref ta)])) rfl rfl (hb hby at_310) _ gk) ?_
        show Go _ _ _ _ T1100 (mkF m 311 #[iv p0, iv p1, iv p2, iv d0, iv d1, iv d2, iv d3, iv d4, iv d5, rv ta, iv 1, iv 3, iv 1, iv 3, un] [(.int d2), (.int 3), (.ref ta)])
        obtain ⟨cl1104, Ar1104, q1104, S1104, M1104, H1104, G1104⟩ := id V1100
        have hin1104 : ¬ ((3 : Int32) < 0 ∨ cl1104.slots.size ≤ (3 : Int32).toNatClampNeg) := inb_of S1104 ⟨by decide, by decide⟩
        obtain ⟨T1104, h1104, X1104, e1104, W1104, st1104⟩ := stC X1100 hx hZ e1100 Ar1104 (j := (3 : Int32)) hin1104 (g := (mkF m 311 #[iv p0, iv p1, iv p2, iv d0, iv d1, iv d2, iv d3, iv d4, iv d5, rv ta, iv 1, iv 3, iv 1, iv 3, un] [(.int d2), (.int 3), (.ref ta)])) rfl rfl (hb hby at_311)
        have C1105 : CHr Z own_EL s.vm h0 s.vm h1104 := C1101.trans (CHr.wr W1104 Sf1102 C1101.1)
        have Sf1106 : Safe Z own_EL s.vm h1104 ta := Safe.wr W1104 Sf1102 C1101.1 Sf1102
        have N1104 := Fr.snoc X1104 N1100 ge_ta
        have V1104 : Arv Z h1104 ta k1 .char (6 : Int32) [(.int 48), (.int d1), (.int d2), (.int (nar .char d2)), (.int d3), (.int d4)] (.int 0) := Arv.set Ar1104 q1104 S1104 M1104 H1104 G1104 (fits_nar_char _) W1104 3 rfl (Nat.le_of_ble_eq_true rfl)
        refine Go.by st1104 ?_
        show Go _ _ _ _ T1104 (mkF m 312 #[iv p0, iv p1, iv p2, iv d0, iv d1, iv d2, iv d3, iv d4, iv d5, rv ta, iv 1, iv 3, iv 1, iv 3, un] [])
        rw [own_ncb (t := d2) q_d2.1 q_d2.2] at V1104
        refine Go.aload2 314 X1104 hx (hb hby at_312) rfl rfl rfl ?_
        refine Go.iconst 315 X1104 hx (2 : Int32) (hb hby at_314) (by decide) rfl ?_
        refine Go.aload2 317 X1104 hx (hb hby at_315) rfl rfl rfl ?_
        refine Go.iconst 318 X1104 hx (1 : Int32) (hb hby at_317) (by decide) rfl ?_
        obtain ⟨cl1107, Ar1107, -, S1107, M1107, H1107, -⟩ := id V1104
        have hin1107 : ¬ ((1 : Int32) < 0 ∨ cl1107.slots.size ≤ (1 : Int32).toNatClampNeg) := inb_of S1107 ⟨by decide, by decide⟩
        refine Go.by (fun _ gk => X1104.caload hx (j := (1 : Int32)) (v := (.int d1)) (by rw [e1104]; exact Ar1107.1) (State.isArrayOf_alike hZ.alike Ar1107.2.1) Ar1107.2.2 hin1107 (Has.at H1107 hin1107 rfl) (g := (mkF m 318 #[iv p0, iv p1, iv p2, iv d0, iv d1, iv d2, iv d3, iv d4, iv d5, rv ta, iv 1, iv 3, iv 1, iv 3, un] [(.int 1), (.ref ta), (.int 2), (.ref ta)])) rfl rfl (hb hby at_318) _ gk) ?_
        show Go _ _ _ _ T1104 (mkF m 319 #[iv p0, iv p1, iv p2, iv d0, iv d1, iv d2, iv d3, iv d4, iv d5, rv ta, iv 1, iv 3, iv 1, iv 3, un] [(.int d1), (.int 2), (.ref ta)])
        obtain ⟨cl1108, Ar1108, q1108, S1108, M1108, H1108, G1108⟩ := id V1104
        have hin1108 : ¬ ((2 : Int32) < 0 ∨ cl1108.slots.size ≤ (2 : Int32).toNatClampNeg) := inb_of S1108 ⟨by decide, by decide⟩
        obtain ⟨T1108, h1108, X1108, e1108, W1108, st1108⟩ := stC X1104 hx hZ e1104 Ar1108 (j := (2 : Int32)) hin1108 (g := (mkF m 319 #[iv p0, iv p1, iv p2, iv d0, iv d1, iv d2, iv d3, iv d4, iv d5, rv ta, iv 1, iv 3, iv 1, iv 3, un] [(.int d1), (.int 2), (.ref ta)])) rfl rfl (hb hby at_319)
        have C1109 : CHr Z own_EL s.vm h0 s.vm h1108 := C1105.trans (CHr.wr W1108 Sf1106 C1105.1)
        have Sf1110 : Safe Z own_EL s.vm h1108 ta := Safe.wr W1108 Sf1106 C1105.1 Sf1106
        have N1108 := Fr.snoc X1108 N1104 ge_ta
        have V1108 : Arv Z h1108 ta k1 .char (6 : Int32) [(.int 48), (.int d1), (.int (nar .char d1)), (.int d2), (.int d3), (.int d4)] (.int 0) := Arv.set Ar1108 q1108 S1108 M1108 H1108 G1108 (fits_nar_char _) W1108 2 rfl (Nat.le_of_ble_eq_true rfl)
        refine Go.by st1108 ?_
        show Go _ _ _ _ T1108 (mkF m 320 #[iv p0, iv p1, iv p2, iv d0, iv d1, iv d2, iv d3, iv d4, iv d5, rv ta, iv 1, iv 3, iv 1, iv 3, un] [])
        rw [own_ncb (t := d1) q_d1.1 q_d1.2] at V1108
        refine Go.aload2 322 X1108 hx (hb hby at_320) rfl rfl rfl ?_
        refine Go.iconst 323 X1108 hx (1 : Int32) (hb hby at_322) (by decide) rfl ?_
        refine Go.aload2 325 X1108 hx (hb hby at_323) rfl rfl rfl ?_
        refine Go.iconst 326 X1108 hx (0 : Int32) (hb hby at_325) (by decide) rfl ?_
        obtain ⟨cl1111, Ar1111, -, S1111, M1111, H1111, -⟩ := id V1108
        have hin1111 : ¬ ((0 : Int32) < 0 ∨ cl1111.slots.size ≤ (0 : Int32).toNatClampNeg) := inb_of S1111 ⟨by decide, by decide⟩
        refine Go.by (fun _ gk => X1108.caload hx (j := (0 : Int32)) (v := (.int 48)) (by rw [e1108]; exact Ar1111.1) (State.isArrayOf_alike hZ.alike Ar1111.2.1) Ar1111.2.2 hin1111 (Has.at H1111 hin1111 rfl) (g := (mkF m 326 #[iv p0, iv p1, iv p2, iv d0, iv d1, iv d2, iv d3, iv d4, iv d5, rv ta, iv 1, iv 3, iv 1, iv 3, un] [(.int 0), (.ref ta), (.int 1), (.ref ta)])) rfl rfl (hb hby at_326) _ gk) ?_
        show Go _ _ _ _ T1108 (mkF m 327 #[iv p0, iv p1, iv p2, iv d0, iv d1, iv d2, iv d3, iv d4, iv d5, rv ta, iv 1, iv 3, iv 1, iv 3, un] [(.int 48), (.int 1), (.ref ta)])
        obtain ⟨cl1112, Ar1112, q1112, S1112, M1112, H1112, G1112⟩ := id V1108
        have hin1112 : ¬ ((1 : Int32) < 0 ∨ cl1112.slots.size ≤ (1 : Int32).toNatClampNeg) := inb_of S1112 ⟨by decide, by decide⟩
        obtain ⟨T1112, h1112, X1112, e1112, W1112, st1112⟩ := stC X1108 hx hZ e1108 Ar1112 (j := (1 : Int32)) hin1112 (g := (mkF m 327 #[iv p0, iv p1, iv p2, iv d0, iv d1, iv d2, iv d3, iv d4, iv d5, rv ta, iv 1, iv 3, iv 1, iv 3, un] [(.int 48), (.int 1), (.ref ta)])) rfl rfl (hb hby at_327)
        have C1113 : CHr Z own_EL s.vm h0 s.vm h1112 := C1109.trans (CHr.wr W1112 Sf1110 C1109.1)
        have Sf1114 : Safe Z own_EL s.vm h1112 ta := Safe.wr W1112 Sf1110 C1109.1 Sf1110
        have N1112 := Fr.snoc X1112 N1108 ge_ta
        have V1112 : Arv Z h1112 ta k1 .char (6 : Int32) [(.int 48), (.int (nar .char (48 : Int32))), (.int d1), (.int d2), (.int d3), (.int d4)] (.int 0) := Arv.set Ar1112 q1112 S1112 M1112 H1112 G1112 (fits_nar_char _) W1112 1 rfl (Nat.le_of_ble_eq_true rfl)
        refine Go.by st1112 ?_
        show Go _ _ _ _ T1112 (mkF m 328 #[iv p0, iv p1, iv p2, iv d0, iv d1, iv d2, iv d3, iv d4, iv d5, rv ta, iv 1, iv 3, iv 1, iv 3, un] [])
        rw [own_ncb (t := (48 : Int32)) (⟨by decide, by decide⟩ : ¬ (48 : Int32) < 0 ∧ ¬ (255 : Int32) < (48 : Int32)).1 (⟨by decide, by decide⟩ : ¬ (48 : Int32) < 0 ∧ ¬ (255 : Int32) < (48 : Int32)).2] at V1112
        refine Go.aload2 330 X1112 hx (hb hby at_328) rfl rfl rfl ?_
        refine Go.iconst 331 X1112 hx (0 : Int32) (hb hby at_330) (by decide) rfl ?_
        refine Go.iload2 333 X1112 hx (hb hby at_331) rfl rfl ?_
        obtain ⟨cl1115, Ar1115, q1115, S1115, M1115, H1115, G1115⟩ := id V1112
        have hin1115 : ¬ ((0 : Int32) < 0 ∨ cl1115.slots.size ≤ (0 : Int32).toNatClampNeg) := inb_of S1115 ⟨by decide, by decide⟩
        obtain ⟨T1115, h1115, X1115, e1115, W1115, st1115⟩ := stC X1112 hx hZ e1112 Ar1115 (j := (0 : Int32)) hin1115 (g := (mkF m 333 #[iv p0, iv p1, iv p2, iv d0, iv d1, iv d2, iv d3, iv d4, iv d5, rv ta, iv 1, iv 3, iv 1, iv 3, un] [(.int d5), (.int 0), (.ref ta)])) rfl rfl (hb hby at_333)
        have C1116 : CHr Z own_EL s.vm h0 s.vm h1115 := C1113.trans (CHr.wr W1115 Sf1114 C1113.1)
        have Sf1117 : Safe Z own_EL s.vm h1115 ta := Safe.wr W1115 Sf1114 C1113.1 Sf1114
        have N1115 := Fr.snoc X1115 N1112 ge_ta
        have V1115 : Arv Z h1115 ta k1 .char (6 : Int32) [(.int (nar .char d5)), (.int 48), (.int d1), (.int d2), (.int d3), (.int d4)] (.int 0) := Arv.set Ar1115 q1115 S1115 M1115 H1115 G1115 (fits_nar_char _) W1115 0 rfl (Nat.le_of_ble_eq_true rfl)
        refine Go.by st1115 ?_
        show Go _ _ _ _ T1115 (mkF m 334 #[iv p0, iv p1, iv p2, iv d0, iv d1, iv d2, iv d3, iv d4, iv d5, rv ta, iv 1, iv 3, iv 1, iv 3, un] [])
        rw [own_ncb (t := d5) q_d5.1 q_d5.2] at V1115
        refine Go.iload2 336 X1115 hx (hb hby at_334) rfl rfl ?_
        refine Go.iconst 337 X1115 hx (1 : Int32) (hb hby at_336) (by decide) rfl ?_
        refine Go.iadd 338 X1115 hx (hb hby at_337) rfl ?_
        rw [(by decide : ((1 : Int32) + (1 : Int32)) = (2 : Int32))]
        refine Go.istore2 340 X1115 hx (L' := #[iv p0, iv p1, iv p2, iv d0, iv d1, iv d2, iv d3, iv d4, iv d5, rv ta, iv 2, iv 3, iv 1, iv 3, un]) (hb hby at_338) rfl rfl ?_
        have F1118 : n0 ≤ h1.size := Nat.le_trans Z0 E1.1
        have F1119 : n0 ≤ h4.size := Nat.le_trans F1118 (Nat.le_of_eq (Wr.size W4).symm)
        have F1120 : n0 ≤ h7.size := Nat.le_trans F1119 (Nat.le_of_eq (Wr.size W7).symm)
        have F1121 : n0 ≤ h10.size := Nat.le_trans F1120 (Nat.le_of_eq (Wr.size W10).symm)
        have F1122 : n0 ≤ h13.size := Nat.le_trans F1121 (Nat.le_of_eq (Wr.size W13).symm)
        have F1123 : n0 ≤ h16.size := Nat.le_trans F1122 (Nat.le_of_eq (Wr.size W16).symm)
        have F1124 : n0 ≤ h19.size := Nat.le_trans F1123 (Nat.le_of_eq (Wr.size W19).symm)
        have F1125 : n0 ≤ h1008.size := Nat.le_trans F1124 (Nat.le_of_eq (Wr.size W1008).symm)
        have F1126 : n0 ≤ h1096.size := Nat.le_trans F1125 (Nat.le_of_eq (Wr.size W1096).symm)
        have F1127 : n0 ≤ h1100.size := Nat.le_trans F1126 (Nat.le_of_eq (Wr.size W1100).symm)
        have F1128 : n0 ≤ h1104.size := Nat.le_trans F1127 (Nat.le_of_eq (Wr.size W1104).symm)
        have F1129 : n0 ≤ h1108.size := Nat.le_trans F1128 (Nat.le_of_eq (Wr.size W1108).symm)
        have F1130 : n0 ≤ h1112.size := Nat.le_trans F1129 (Nat.le_of_eq (Wr.size W1112).symm)
        have F1131 : n0 ≤ h1115.size := Nat.le_trans F1130 (Nat.le_of_eq (Wr.size W1115).symm)
        have F1132 : Old Z n0 h1 := O0.ext E1
        have F1133 : Old Z n0 h4 := F1132.wr W4 ge_ta
        have F1134 : Old Z n0 h7 := F1133.wr W7 ge_ta
        have F1135 : Old Z n0 h10 := F1134.wr W10 ge_ta
        have F1136 : Old Z n0 h13 := F1135.wr W13 ge_ta
        have F1137 : Old Z n0 h16 := F1136.wr W16 ge_ta
        have F1138 : Old Z n0 h19 := F1137.wr W19 ge_ta
        have F1139 : Old Z n0 h1008 := F1138.wr W1008 ge_ta
        have F1140 : Old Z n0 h1096 := F1139.wr W1096 ge_ta
        have F1141 : Old Z n0 h1100 := F1140.wr W1100 ge_ta
        have F1142 : Old Z n0 h1104 := F1141.wr W1104 ge_ta
        have F1143 : Old Z n0 h1108 := F1142.wr W1108 ge_ta
        have F1144 : Old Z n0 h1112 := F1143.wr W1112 ge_ta
        have F1145 : Old Z n0 h1115 := F1144.wr W1115 ge_ta
        have F1146 : s.heap.size ≤ h1.size := Nat.le_trans hk0 E1.1
        have F1147 : s.heap.size ≤ h4.size := Nat.le_trans F1146 (Nat.le_of_eq (Wr.size W4).symm)
        have F1148 : s.heap.size ≤ h7.size := Nat.le_trans F1147 (Nat.le_of_eq (Wr.size W7).symm)
        have F1149 : s.heap.size ≤ h10.size := Nat.le_trans F1148 (Nat.le_of_eq (Wr.size W10).symm)
        have F1150 : s.heap.size ≤ h13.size := Nat.le_trans F1149 (Nat.le_of_eq (Wr.size W13).symm)
        have F1151 : s.heap.size ≤ h16.size := Nat.le_trans F1150 (Nat.le_of_eq (Wr.size W16).symm)
        have F1152 : s.heap.size ≤ h19.size := Nat.le_trans F1151 (Nat.le_of_eq (Wr.size W19).symm)
        have F1153 : s.heap.size ≤ h1008.size := Nat.le_trans F1152 (Nat.le_of_eq (Wr.size W1008).symm)
        have F1154 : s.heap.size ≤ h1096.size := Nat.le_trans F1153 (Nat.le_of_eq (Wr.size W1096).symm)
        have F1155 : s.heap.size ≤ h1100.size := Nat.le_trans F1154 (Nat.le_of_eq (Wr.size W1100).symm)
        have F1156 : s.heap.size ≤ h1104.size := Nat.le_trans F1155 (Nat.le_of_eq (Wr.size W1104).symm)
        have F1157 : s.heap.size ≤ h1108.size := Nat.le_trans F1156 (Nat.le_of_eq (Wr.size W1108).symm)
        have F1158 : s.heap.size ≤ h1112.size := Nat.le_trans F1157 (Nat.le_of_eq (Wr.size W1112).symm)
        have F1159 : s.heap.size ≤ h1115.size := Nat.le_trans F1158 (Nat.le_of_eq (Wr.size W1115).symm)
        exact J22 _ _ _ d5 (48 : Int32) d1 d2 d3 d4 (2 : Int32) (iv 3) (iv 1) (iv 3) X1115 e1115 N1115 F1131 F1145 C1116 F1159 V1115 q_d5 (⟨by decide, by decide⟩) q_d1 q_d2 q_d3 q_d4 (Or.inr (Or.inr (Or.inl rfl))) (Or.inr ⟨_, rfl, rfl⟩) (Or.inr ⟨_, rfl, rfl⟩) (Or.inr ⟨_, rfl, rfl⟩)
set_option maxRecDepth 65536 in
set_option maxHeartbeats 40000000 in
theorem comes_1 {Post : Tables → Env → Array Value → State → Outcome → State → Prop} (hpost : ∀ tb e args s v u, (limb_1_1.after args s (.returned v) u = true ∧ limb_1_2.after args s (.returned v) u = true ∧ True) → ReturnedEndW s (.returned v) u (Jvm.fieldLocs frame_1_writes args s ++ Jvm.arrayLocs frame_1_arrays args s ++ Jvm.staticLocs frame_1_statics s) 32 5248 → Post tb e args s (.returned v) u) :
    ArmFor flags0 classFile x code maxLocals ret World_1 tables_1 room_1 Calls_1 rest_1 Pre_1 Post := by
  intro l hfl _ _ p e ha hc hk s m args below hf hA hF happ hP
  obtain ⟨hcalls, hrest, hpre⟩ := hP
  obtain ⟨-, -, -, hnamed, -, -, -, hat⟩ := (Spec.applies_iff hf).mp happ
  obtain ⟨hg, hn⟩ := and_e (Cond.before_iff.mp (show (Jvm.Cond.and given_1 narrow_1).before args s = true from hpre))
  obtain ⟨hcount, hg0⟩ := and_e hg
  obtain ⟨ha0, hg1⟩ := and_e hg0
  obtain ⟨ha1, hg2⟩ := and_e hg1
  have ha2 := hg2
  obtain ⟨w0, w1, w2, rfl⟩ : ∃ w0 w1 w2 : Value, args = #[w0, w1, w2] := by
    have hs : args.size = 3 := by simpa [Cond.value, given_1] using hcount
    obtain ⟨L⟩ := args
    match L, hs with
    | [w0, w1, w2], _ => exact ⟨w0, w1, w2, rfl⟩
  have hw := fun d (hd : d ∈ tables_1) => atoms_spec (ws := Jvm.Cond.code x code maxLocals ret :: tables_1) hat d (List.mem_cons_of_mem _ hd)
  obtain ⟨hsets, hown0⟩ := atoms_of _ (rest_1_c_eq ▸ (show rest_1_c.before _ s = true from hrest))
  have hr0 := Cond.before_iff.mp hown0
  have hfit : Fit s := fun {y c} hc i hi => by
    obtain ⟨ha, rfl⟩ := Array.getElem?_eq_some_iff.mp hc
    have q := List.all_eq_true.mp ((Array.all_eq_true_iff_forall_mem.mp hF) _ (Array.getElem_mem ha)) i (List.mem_range.mpr hi)
    simpa [Array.getElem?_eq_getElem hi] using q
  obtain ⟨i0, ei0⟩ := is_v ha0
  obtain rfl : w0 = (.int i0) := Option.some.inj ei0
  obtain ⟨i1, ei1⟩ := is_v ha1
  obtain rfl : w1 = (.int i1) := Option.some.inj ei1
  obtain ⟨i2, ei2⟩ := is_v ha2
  obtain rfl : w2 = (.int i2) := Option.some.inj ei2
  obtain ⟨cs, ev_cs⟩ := is_v (Cond.before_iff.mp (hsets _ (List.mem_of_getElem? (i := 1) rfl)))
  have S_cs := Sta.start ev_cs (Or.inl (hsets _ (List.mem_of_getElem? (i := 0) rfl)))
  have n_cs : ¬ (cs = (0 : Int32)) := gotF (Cond.eq_ints ev_cs (Term.int_eval (0))) (not_v (Cond.before_iff.mp (hsets _ (List.mem_of_getElem? (i := 2) rfl))))
  obtain ⟨bT, ev_bT⟩ := exa_v (Cond.before_iff.mp (hsets _ (List.mem_of_getElem? (i := 11) rfl)))
  have B0 := Sta.start ev_bT (Or.inl (hsets _ (List.mem_of_getElem? (i := 10) rfl)))
  have B1 := Exa.start ev_bT (Cond.before_iff.mp (hsets _ (List.mem_of_getElem? (i := 11) rfl)))
  have B2 := Fld.start ((fld_at ev_bT).symm.trans (eqv_i (Term.int_eval 1) (Cond.before_iff.mp (hsets _ (List.mem_of_getElem? (i := 12) rfl)))))
  obtain ⟨bF, ev_bF⟩ := exa_v (Cond.before_iff.mp (hsets _ (List.mem_of_getElem? (i := 15) rfl)))
  have B3 := Sta.start ev_bF (Or.inl (hsets _ (List.mem_of_getElem? (i := 14) rfl)))
  have B4 := Exa.start ev_bF (Cond.before_iff.mp (hsets _ (List.mem_of_getElem? (i := 15) rfl)))
  have B5 := Fld.start ((fld_at ev_bF).symm.trans (eqv_i (Term.int_eval 0) (Cond.before_iff.mp (hsets _ (List.mem_of_getElem? (i := 16) rfl)))))
  have hCH : CHv s own_EL s.vm s.heap := CHv.start (own_EW hw) hcalls.1 (a0 := _) (hsets _ (List.mem_of_getElem? (i := 2) rfl)) (own_SA hw _ (by simp [Bundle.stringAtoms])) (own_SA hw _ (by simp [Bundle.stringAtoms, Bundle.sN]))
  obtain ⟨n, o, h1, h2, h3, _, L, rfl, ⟨rfl, N⟩, -, hq⟩ := rm0 l s _ hw tables_1 i0 i1 i2 cs bT bF s.heap s.heap.size (Nat.le_refl _) (Old.start s) S_cs n_cs B0 B1 B2 B3 B4 B5 p e ha hc hk s m _ below hf ((Spec.applies_iff_loose hf).mp happ).1 ⟨rfl, State.Warmed39.refl s, rfl, hCH⟩ trivial
  refine ⟨n, _, h1, h2, h3, hpost _ _ _ _ _ _ ⟨Cond.after_iff.mpr rfl, Cond.after_iff.mpr (eq_i res_at (Term.int_eval (1)) rfl), trivial⟩ ⟨hq.1, hq.2.1, hq.2.2.1, (hq.2.2.2.sift fun y hy => Or.inr (N y hy)).mono (by decide) (by decide)⟩⟩
theorem main_1_1 : Claimed_1_1 := comes_1 fun _ _ _ _ _ _ h hF => ⟨h.1, hF⟩
theorem main_1_2 : Claimed_1_2 := comes_1 fun _ _ _ _ _ _ h hF => ⟨h.2.1, hF⟩
end Jvm.Pilot.@@N@@
namespace Jvm.Pilot.@@N@@
open Jvm Jvm.ClassFile Sem Op Lib Jvm.Free Jvm.Stand Jvm.Pilot.@@N@@.Jvm.D
/-! MADE BY PROGRAM (witnessworld.py) out of the Statement's table words and the real class files: 21 classes; the members and pool entries that the words name. The judged class is class 1, her method 1. -/
namespace start1
open Jvm.ClassFile
def u (s : String) : CpInfo := .utf8 (stringToUtf16 s)
/-- a pool by its gaps: so many unusable entries, then the entry; so many at the end -/
def gap : Nat → List CpInfo → List CpInfo
  | 0, r => r
  | n + 1, r => .unusable :: gap n r
def poolList (es : List (Nat × CpInfo)) (last : Nat) : List CpInfo := es.foldr (fun e r => gap e.1 (e.2 :: r)) (gap last [])
def pool (es : List (Nat × CpInfo)) (last : Nat) : Array CpInfo := ⟨poolList es last⟩
def fileOf (pool : Array CpInfo) (this : Nat) (attrs : Array Attribute := #[]) (ms : Array MethodInfo := #[]) (fl : Nat := 33) (sup : Nat := 0) (ifs : Array Nat := #[]) (fds : Array FieldInfo := #[]) : ClassFile where
  minorVersion := 0
  majorVersion := 65
  constantPool := pool
  accessFlags := fl
  thisClass := this
  superClass := sup
  interfaces := ifs
  fields := fds
  methods := ms
  attributes := attrs
def plain (name : String) (sup : Option ClassId) : Class where
  name := name
  kind := .ordinary
  loader := none
  accessFlags := 33
  super := sup
  interfaces := #[]
  cf := none
  fields := #[]
  methods := #[]
  instanceTypes := #[]
  staticTypes := #[]
  resolved := #[]
  callSites := []
  init := .initialized
  statics := none
  mirror := none

def pool0 : Array CpInfo := pool [(5, u "<init>"), (0, u "()V"), (1, .class_ 10), (1, u "java/lang/Object")] 113

def k0c0 : Code := { maxStack := 0, maxLocals := 1, code := object_method_1_code, exceptionTable := #[], attributes := #[] }
def k0m0 : Method := { name := "<init>", desc := "()V", sig := { parameters := [], returnType := none }, accessFlags := 1, code := some k0c0 }
/-- java/lang/Object -/
def k0 : Class := { plain "java/lang/Object" none with
  accessFlags := 33
  interfaces := #[]
  cf := some (fileOf pool0 8 #[] #[{ accessFlags := 1, nameIndex := 5, descriptorIndex := 6, attributes := #[] }] 33 0 #[] #[])
  fields := #[]
  methods := #[k0m0]
  instanceTypes := #[]
  staticTypes := #[]
  resolved := Array.replicate 124 none
  statics := none }

def pool1 : Array CpInfo := pool [(2, .class_ 4), (1, u "java/lang/Object"), (0, u "<init>"), (0, u "()V"), (0, .methodref 8 9), (0, .class_ 10), (0, .nameAndType 11 12), (0, u "com/example/entries_to_nodes/entriestonodes/xml/XsBooleanReadPinLaw"), (0, u "str"), (0, u "([CI)Ljava/lang/String;"), (0, .methodref 14 15), (0, .class_ 16), (0, .nameAndType 17 18), (0, u "com/example/entries_to_nodes/entriestonodes/xml/XsBoolean"), (0, u "read"), (0, u "(Ljava/lang/String;)Ljava/lang/Boolean;"), (0, .methodref 20 21), (0, .class_ 22), (0, .nameAndType 23 24), (0, u "java/lang/Boolean"), (0, u "booleanValue"), (0, u "()Z"), (0, .class_ 26), (0, u "java/lang/String"), (0, .methodref 25 28), (0, .nameAndType 5 29), (0, u "([C)V"), (2, u "law"), (0, u "(III)Z")] 5

def k1m0 : Method := { name := "<init>", desc := "()V", sig := { parameters := [], returnType := none }, accessFlags := 1, code := none }
def k1c1 : Code := { maxStack := 4, maxLocals := 15, code := code, exceptionTable := #[], attributes := #[] }
def k1m1 : Method := { name := "law", desc := "(III)Z", sig := { parameters := [.int, .int, .int], returnType := some .boolean }, accessFlags := 9, code := some k1c1 }
def k1c2 : Code := { maxStack := 7, maxLocals := 2, code := method_3_code, exceptionTable := #[], attributes := #[] }
def k1m2 : Method := { name := "str", desc := "([CI)Ljava/lang/String;", sig := { parameters := [(.array .char), .int], returnType := some (.object "java/lang/String") }, accessFlags := 10, code := some k1c2 }
/-- com/example/entries_to_nodes/entriestonodes/xml/XsBooleanReadPinLaw -/
def k1 : Class := { plain "com/example/entries_to_nodes/entriestonodes/xml/XsBooleanReadPinLaw" (some 0) with
  accessFlags := 49
  interfaces := #[]
  cf := some (fileOf pool1 8 #[] #[{ accessFlags := 1, nameIndex := 5, descriptorIndex := 6, attributes := #[] }, { accessFlags := 9, nameIndex := 32, descriptorIndex := 33, attributes := #[] }, { accessFlags := 10, nameIndex := 11, descriptorIndex := 12, attributes := #[] }] 49 2 #[] #[])
  fields := #[]
  methods := #[k1m0, k1m1, k1m2]
  instanceTypes := #[]
  staticTypes := #[]
  resolved := Array.replicate 39 none
  statics := none }

def pool2 : Array CpInfo := pool [(1, .class_ 2), (0, u "java/io/Serializable"), (0, .class_ 4), (0, u "java/lang/Object")] 2

/-- java/io/Serializable -/
def k2 : Class := { plain "java/io/Serializable" (some 0) with
  accessFlags := 1537
  interfaces := #[]
  cf := some (fileOf pool2 1 #[] #[] 1537 3 #[] #[])
  fields := #[]
  methods := #[]
  instanceTypes := #[]
  staticTypes := #[]
  resolved := Array.replicate 7 none
  statics := none }

def pool3 : Array CpInfo := pool [(1, .class_ 2), (0, u "java/lang/Comparable"), (0, .class_ 4), (0, u "java/lang/Object")] 7

/-- java/lang/Comparable -/
def k3 : Class := { plain "java/lang/Comparable" (some 0) with
  accessFlags := 1537
  interfaces := #[]
  cf := some (fileOf pool3 1 #[] #[] 1537 3 #[] #[])
  fields := #[]
  methods := #[]
  instanceTypes := #[]
  staticTypes := #[]
  resolved := Array.replicate 12 none
  statics := none }

def pool4 : Array CpInfo := pool [(2, .class_ 4), (1, u "java/lang/CharSequence"), (42, .class_ 48), (0, u "java/lang/CharSequence$1CodePointIterator"), (10, .class_ 60), (0, u "java/lang/CharSequence$1CharIterator"), (5, .class_ 67), (0, u "java/lang/Object")] 63

/-- java/lang/CharSequence -/
def k4 : Class := { plain "java/lang/CharSequence" (some 0) with
  accessFlags := 1537
  interfaces := #[]
  cf := some (fileOf pool4 2 #[.nestMembers #[47, 59]] #[] 1537 66 #[] #[])
  fields := #[]
  methods := #[]
  instanceTypes := #[]
  staticTypes := #[]
  resolved := Array.replicate 131 none
  statics := none }

def pool5 : Array CpInfo := pool [(1, .class_ 2), (0, u "java/lang/constant/Constable"), (0, .class_ 4), (0, u "java/lang/Object")] 6

/-- java/lang/constant/Constable -/
def k5 : Class := { plain "java/lang/constant/Constable" (some 0) with
  accessFlags := 1537
  interfaces := #[]
  cf := some (fileOf pool5 1 #[] #[] 1537 3 #[] #[])
  fields := #[]
  methods := #[]
  instanceTypes := #[]
  staticTypes := #[]
  resolved := Array.replicate 11 none
  statics := none }

def pool6 : Array CpInfo := pool [(1, .class_ 2), (0, u "java/lang/constant/ConstantDesc"), (0, .class_ 4), (0, u "java/lang/Object")] 32

/-- java/lang/constant/ConstantDesc -/
def k6 : Class := { plain "java/lang/constant/ConstantDesc" (some 0) with
  accessFlags := 1537
  interfaces := #[]
  cf := some (fileOf pool6 1 #[] #[] 1537 3 #[] #[])
  fields := #[]
  methods := #[]
  instanceTypes := #[]
  staticTypes := #[]
  resolved := Array.replicate 37 none
  statics := none }

def pool7 : Array CpInfo := pool [(1, .methodref 2 3), (0, .class_ 4), (0, .nameAndType 5 6), (0, u "java/lang/Object"), (0, u "<init>"), (0, u "()V"), (0, .string 8), (0, u ""), (0, .fieldref 10 11), (0, .class_ 12), (0, .nameAndType 13 14), (0, u "java/lang/String"), (0, u "value"), (0, u "[B"), (0, .fieldref 10 16), (0, .nameAndType 17 18), (0, u "coder"), (0, u "B"), (2, u "hash"), (0, u "I"), (2, u "hashIsZero"), (0, u "Z"), (0, .methodref 10 28), (0, .nameAndType 5 29), (0, u "([CIILjava/lang/Void;)V"), (8, .fieldref 10 39), (0, .nameAndType 40 26), (0, u "COMPACT_STRINGS"), (1, .class_ 44), (1, u "java/lang/StringUTF16"), (0, u "compress"), (1, .methodref 42 48), (0, .nameAndType 49 50), (0, u "coderFromArrayLen"), (0, u "([BI)B"), (56, .class_ 109), (1, u "java/lang/StringLatin1"), (67, .methodref 42 178), (0, .nameAndType 45 179), (0, u "([CII)[B"), (361, .methodref 107 542), (0, .nameAndType 543 544), (0, u "equals"), (0, u "([B[B)Z"), (28, u "(Ljava/lang/Object;)Z"), (1, .class_ 576), (0, u "java/lang/CharSequence"), (22, u "CASE_INSENSITIVE_ORDER"), (0, u "Ljava/util/Comparator;"), (409, u "([C)V"), (90, u "serialPersistentFields"), (0, u "[Ljava/io/ObjectStreamField;"), (0, .class_ 1104), (0, u "java/lang/String$CaseInsensitiveComparator"), (1, .class_ 1107), (0, u "java/io/Serializable"), (0, .class_ 1109), (0, u "java/lang/Comparable"), (0, .class_ 1111), (0, u "java/lang/constant/Constable"), (0, .class_ 1113), (0, u "java/lang/constant/ConstantDesc"), (2, u "serialVersionUID"), (0, u "J"), (3, u "REPL"), (0, u "C"), (2, u "LATIN1"), (1, u "UTF16")] 323

def k7m0 : Method := { name := "<init>", desc := "()V", sig := { parameters := [], returnType := none }, accessFlags := 1, code := none }
def k7c1 : Code := { maxStack := 5, maxLocals := 2, code := jdk_42_method_3_code, exceptionTable := #[], attributes := #[] }
def k7m1 : Method := { name := "<init>", desc := "([C)V", sig := { parameters := [(.array .char)], returnType := none }, accessFlags := 1, code := some k7c1 }
def k7c2 : Code := { maxStack := 2, maxLocals := 3, code := jdk_42_method_66_code, exceptionTable := #[], attributes := #[] }
def k7m2 : Method := { name := "equals", desc := "(Ljava/lang/Object;)Z", sig := { parameters := [(.object "java/lang/Object")], returnType := some .boolean }, accessFlags := 1, code := some k7c2 }
def k7c3 : Code := { maxStack := 4, maxLocals := 6, code := jdk_42_method_149_code, exceptionTable := #[], attributes := #[] }
def k7m3 : Method := { name := "<init>", desc := "([CIILjava/lang/Void;)V", sig := { parameters := [(.array .char), .int, .int, (.object "java/lang/Void")], returnType := none }, accessFlags := 2, code := some k7c3 }
/-- java/lang/String -/
def k7 : Class := { plain "java/lang/String" (some 0) with
  accessFlags := 49
  interfaces := #[2, 3, 4, 5, 6]
  cf := some (fileOf pool7 10 #[.nestMembers #[1103]] #[{ accessFlags := 1, nameIndex := 5, descriptorIndex := 6, attributes := #[] }, { accessFlags := 1, nameIndex := 5, descriptorIndex := 1010, attributes := #[] }, { accessFlags := 1, nameIndex := 543, descriptorIndex := 573, attributes := #[] }, { accessFlags := 2, nameIndex := 5, descriptorIndex := 29, attributes := #[] }] 49 2 #[1106, 1108, 575, 1110, 1112] #[{ accessFlags := 18, nameIndex := 13, descriptorIndex := 14, attributes := #[] }, { accessFlags := 18, nameIndex := 17, descriptorIndex := 18, attributes := #[] }, { accessFlags := 2, nameIndex := 21, descriptorIndex := 22, attributes := #[] }, { accessFlags := 2, nameIndex := 25, descriptorIndex := 26, attributes := #[] }, { accessFlags := 26, nameIndex := 1116, descriptorIndex := 1117, attributes := #[] }, { accessFlags := 24, nameIndex := 40, descriptorIndex := 26, attributes := #[] }, { accessFlags := 26, nameIndex := 1101, descriptorIndex := 1102, attributes := #[] }, { accessFlags := 26, nameIndex := 1121, descriptorIndex := 1122, attributes := #[] }, { accessFlags := 25, nameIndex := 599, descriptorIndex := 600, attributes := #[] }, { accessFlags := 24, nameIndex := 1125, descriptorIndex := 18, attributes := #[] }, { accessFlags := 24, nameIndex := 1127, descriptorIndex := 18, attributes := #[] }])
  fields := #[{ name := "value", type := (.array .byte), accessFlags := 18, slot := 0, constantValue := 0 }, { name := "coder", type := .byte, accessFlags := 18, slot := 1, constantValue := 0 }, { name := "hash", type := .int, accessFlags := 2, slot := 2, constantValue := 0 }, { name := "hashIsZero", type := .boolean, accessFlags := 2, slot := 3, constantValue := 0 }, { name := "serialVersionUID", type := .long, accessFlags := 26, slot := 0, constantValue := 0 }, { name := "COMPACT_STRINGS", type := .boolean, accessFlags := 24, slot := 1, constantValue := 0 }, { name := "serialPersistentFields", type := (.array (.object "java/io/ObjectStreamField")), accessFlags := 26, slot := 2, constantValue := 0 }, { name := "REPL", type := .char, accessFlags := 26, slot := 3, constantValue := 0 }, { name := "CASE_INSENSITIVE_ORDER", type := (.object "java/util/Comparator"), accessFlags := 25, slot := 4, constantValue := 0 }, { name := "LATIN1", type := .byte, accessFlags := 24, slot := 5, constantValue := 0 }, { name := "UTF16", type := .byte, accessFlags := 24, slot := 6, constantValue := 0 }]
  methods := #[k7m0, k7m1, k7m2, k7m3]
  instanceTypes := #[(.array .byte), .byte, .int, .boolean]
  staticTypes := #[.long, .boolean, (.array (.object "java/io/ObjectStreamField")), .char, (.object "java/util/Comparator"), .byte, .byte]
  resolved := Array.replicate 1451 none
  statics := some 0 }

def pool8 : Array CpInfo := pool [(2, .class_ 4), (1, u "java/lang/Object"), (0, u "<init>"), (0, u "()V"), (0, .string 8), (0, u "true"), (0, .methodref 10 11), (0, .class_ 12), (0, .nameAndType 13 14), (0, u "java/lang/String"), (0, u "equals"), (0, u "(Ljava/lang/Object;)Z"), (0, .string 16), (0, u "1"), (0, .fieldref 18 19), (0, .class_ 20), (0, .nameAndType 21 22), (0, u "java/lang/Boolean"), (0, u "TRUE"), (0, u "Ljava/lang/Boolean;"), (0, .string 24), (0, u "false"), (0, .string 26), (0, u "0"), (0, .fieldref 18 28), (0, .nameAndType 29 22), (0, u "FALSE"), (0, .class_ 31), (0, u "com/example/entries_to_nodes/entriestonodes/xml/XsBoolean"), (2, u "read"), (0, u "(Ljava/lang/String;)Ljava/lang/Boolean;")] 3

def k8m0 : Method := { name := "<init>", desc := "()V", sig := { parameters := [], returnType := none }, accessFlags := 2, code := none }
def k8c1 : Code := { maxStack := 2, maxLocals := 2, code := prog_27_method_2_code, exceptionTable := #[], attributes := #[] }
def k8m1 : Method := { name := "read", desc := "(Ljava/lang/String;)Ljava/lang/Boolean;", sig := { parameters := [(.object "java/lang/String")], returnType := some (.object "java/lang/Boolean") }, accessFlags := 9, code := some k8c1 }
/-- com/example/entries_to_nodes/entriestonodes/xml/XsBoolean -/
def k8 : Class := { plain "com/example/entries_to_nodes/entriestonodes/xml/XsBoolean" (some 0) with
  accessFlags := 33
  interfaces := #[]
  cf := some (fileOf pool8 30 #[] #[{ accessFlags := 2, nameIndex := 5, descriptorIndex := 6, attributes := #[] }, { accessFlags := 9, nameIndex := 34, descriptorIndex := 35, attributes := #[] }] 33 2 #[] #[])
  fields := #[]
  methods := #[k8m0, k8m1]
  instanceTypes := #[]
  staticTypes := #[]
  resolved := Array.replicate 39 none
  statics := none }

def pool9 : Array CpInfo := pool [(4, .class_ 6), (1, u "java/lang/Object"), (0, u "<init>"), (0, u "()V"), (5, .class_ 16), (1, u "java/lang/StringLatin1"), (104, u "$assertionsDisabled"), (0, u "Z"), (98, .class_ 223), (1, u "java/lang/StringLatin1$LinesSpliterator"), (57, u "equals"), (0, u "([B[B)Z"), (107, .class_ 391), (0, u "java/lang/StringLatin1$CharsSpliterator")] 3

def k9m0 : Method := { name := "<init>", desc := "()V", sig := { parameters := [], returnType := none }, accessFlags := 0, code := none }
def k9c1 : Code := { maxStack := 3, maxLocals := 3, code := jdk_43_method_13_code, exceptionTable := #[], attributes := #[] }
def k9m1 : Method := { name := "equals", desc := "([B[B)Z", sig := { parameters := [(.array .byte), (.array .byte)], returnType := some .boolean }, accessFlags := 9, code := some k9c1 }
/-- java/lang/StringLatin1 -/
def k9 : Class := { plain "java/lang/StringLatin1" (some 0) with
  accessFlags := 48
  interfaces := #[]
  cf := some (fileOf pool9 14 #[.nestMembers #[390, 221]] #[{ accessFlags := 0, nameIndex := 7, descriptorIndex := 8, attributes := #[] }, { accessFlags := 9, nameIndex := 281, descriptorIndex := 282, attributes := #[] }] 48 4 #[] #[{ accessFlags := 4120, nameIndex := 121, descriptorIndex := 122, attributes := #[] }])
  fields := #[{ name := "$assertionsDisabled", type := .boolean, accessFlags := 4120, slot := 0, constantValue := 0 }]
  methods := #[k9m0, k9m1]
  instanceTypes := #[]
  staticTypes := #[.boolean]
  resolved := Array.replicate 395 none
  statics := none }

def pool10 : Array CpInfo := pool [(6, .class_ 8), (1, u "java/lang/Object"), (0, u "<init>"), (0, u "()V"), (1, .class_ 14), (1, u "java/lang/StringUTF16"), (31, u "$assertionsDisabled"), (0, u "Z"), (13, u "HI_BYTE_SHIFT"), (0, u "I"), (2, u "LO_BYTE_SHIFT"), (49, .methodref 12 116), (0, .nameAndType 117 118), (0, u "compress"), (0, u "([CI[BII)I"), (3, u "([CII)[B"), (138, u "coderFromArrayLen"), (0, u "([BI)B"), (106, .class_ 371), (1, u "java/lang/StringUTF16$LinesSpliterator"), (58, u "MAX_LENGTH"), (196, .class_ 628), (0, u "java/lang/StringUTF16$CodePointsSpliterator"), (0, .class_ 630), (0, u "java/lang/StringUTF16$CharsSpliterator")] 4

def k10m0 : Method := { name := "<init>", desc := "()V", sig := { parameters := [], returnType := none }, accessFlags := 0, code := none }
def k10c1 : Code := { maxStack := 2, maxLocals := 2, code := jdk_52_method_15_code, exceptionTable := #[], attributes := #[] }
def k10m1 : Method := { name := "coderFromArrayLen", desc := "([BI)B", sig := { parameters := [(.array .byte), .int], returnType := some .byte }, accessFlags := 8, code := some k10c1 }
def k10c2 : Code := { maxStack := 5, maxLocals := 6, code := jdk_52_method_16_code, exceptionTable := #[], attributes := #[] }
def k10m2 : Method := { name := "compress", desc := "([CII)[B", sig := { parameters := [(.array .char), .int, .int], returnType := some (.array .byte) }, accessFlags := 9, code := some k10c2 }
def k10c3 : Code := { maxStack := 3, maxLocals := 7, code := jdk_52_method_21_code, exceptionTable := #[], attributes := #[] }
def k10m3 : Method := { name := "compress", desc := "([CI[BII)I", sig := { parameters := [(.array .char), .int, (.array .byte), .int, .int], returnType := some .int }, accessFlags := 9, code := some k10c3 }
/-- java/lang/StringUTF16 -/
def k10 : Class := { plain "java/lang/StringUTF16" (some 0) with
  accessFlags := 48
  interfaces := #[]
  cf := some (fileOf pool10 12 #[.nestMembers #[627, 629, 369]] #[{ accessFlags := 0, nameIndex := 9, descriptorIndex := 10, attributes := #[] }, { accessFlags := 8, nameIndex := 261, descriptorIndex := 262, attributes := #[] }, { accessFlags := 9, nameIndex := 117, descriptorIndex := 122, attributes := #[] }, { accessFlags := 9, nameIndex := 117, descriptorIndex := 118, attributes := #[] }] 48 6 #[] #[{ accessFlags := 26, nameIndex := 61, descriptorIndex := 62, attributes := #[] }, { accessFlags := 26, nameIndex := 65, descriptorIndex := 62, attributes := #[] }, { accessFlags := 24, nameIndex := 430, descriptorIndex := 62, attributes := #[] }, { accessFlags := 4120, nameIndex := 46, descriptorIndex := 47, attributes := #[] }])
  fields := #[{ name := "HI_BYTE_SHIFT", type := .int, accessFlags := 26, slot := 0, constantValue := 0 }, { name := "LO_BYTE_SHIFT", type := .int, accessFlags := 26, slot := 1, constantValue := 0 }, { name := "MAX_LENGTH", type := .int, accessFlags := 24, slot := 2, constantValue := 0 }, { name := "$assertionsDisabled", type := .boolean, accessFlags := 4120, slot := 3, constantValue := 0 }]
  methods := #[k10m0, k10m1, k10m2, k10m3]
  instanceTypes := #[]
  staticTypes := #[.int, .int, .int, .boolean]
  resolved := Array.replicate 635 none
  statics := none }

def pool11 : Array CpInfo := pool [(2, .class_ 4), (1, u "java/lang/Object"), (2, .fieldref 8 9), (0, .class_ 10), (0, .nameAndType 11 12), (0, u "java/lang/Boolean"), (0, u "value"), (0, u "Z"), (16, u "TRUE"), (0, u "Ljava/lang/Boolean;"), (2, u "FALSE"), (10, u "booleanValue"), (0, u "()Z"), (41, u "TYPE"), (0, u "Ljava/lang/Class;"), (0, .class_ 90), (0, u "java/io/Serializable"), (0, .class_ 92), (0, u "java/lang/Comparable"), (0, .class_ 94), (0, u "java/lang/constant/Constable"), (2, u "serialVersionUID"), (0, u "J")] 53

def k11c0 : Code := { maxStack := 1, maxLocals := 1, code := jdk_2055_method_4_code, exceptionTable := #[], attributes := #[] }
def k11m0 : Method := { name := "booleanValue", desc := "()Z", sig := { parameters := [], returnType := some .boolean }, accessFlags := 1, code := some k11c0 }
/-- java/lang/Boolean -/
def k11 : Class := { plain "java/lang/Boolean" (some 0) with
  accessFlags := 49
  interfaces := #[2, 3, 5]
  cf := some (fileOf pool11 8 #[] #[{ accessFlags := 1, nameIndex := 44, descriptorIndex := 45, attributes := #[] }] 49 2 #[89, 91, 93] #[{ accessFlags := 25, nameIndex := 29, descriptorIndex := 30, attributes := #[] }, { accessFlags := 25, nameIndex := 33, descriptorIndex := 30, attributes := #[] }, { accessFlags := 25, nameIndex := 87, descriptorIndex := 88, attributes := #[] }, { accessFlags := 18, nameIndex := 11, descriptorIndex := 12, attributes := #[] }, { accessFlags := 26, nameIndex := 97, descriptorIndex := 98, attributes := #[] }])
  fields := #[{ name := "TRUE", type := (.object "java/lang/Boolean"), accessFlags := 25, slot := 0, constantValue := 0 }, { name := "FALSE", type := (.object "java/lang/Boolean"), accessFlags := 25, slot := 1, constantValue := 0 }, { name := "TYPE", type := (.object "java/lang/Class"), accessFlags := 25, slot := 2, constantValue := 0 }, { name := "value", type := .boolean, accessFlags := 18, slot := 0, constantValue := 0 }, { name := "serialVersionUID", type := .long, accessFlags := 26, slot := 3, constantValue := 0 }]
  methods := #[k11m0]
  instanceTypes := #[.boolean]
  staticTypes := #[(.object "java/lang/Boolean"), (.object "java/lang/Boolean"), (.object "java/lang/Class"), .long]
  resolved := Array.replicate 152 none
  statics := some 1 }

def pool12 : Array CpInfo := pool [(2, .class_ 4), (1, u "java/lang/Object"), (0, u "<init>"), (0, u "()V"), (17, .class_ 26), (1, u "jdk/internal/util/Preconditions"), (28, .class_ 56), (0, u "jdk/internal/util/Preconditions$4"), (57, .class_ 115), (0, u "jdk/internal/util/Preconditions$1"), (7, u "SIOOBE_FORMATTER"), (0, u "Ljava/util/function/BiFunction;"), (0, .class_ 126), (0, u "jdk/internal/util/Preconditions$2"), (3, u "AIOOBE_FORMATTER"), (0, .class_ 132), (0, u "jdk/internal/util/Preconditions$3"), (3, u "IOOBE_FORMATTER")] 57

def k12m0 : Method := { name := "<init>", desc := "()V", sig := { parameters := [], returnType := none }, accessFlags := 1, code := none }
/-- jdk/internal/util/Preconditions -/
def k12 : Class := { plain "jdk/internal/util/Preconditions" (some 0) with
  accessFlags := 33
  interfaces := #[]
  cf := some (fileOf pool12 24 #[.nestMembers #[55, 131, 125, 114]] #[{ accessFlags := 1, nameIndex := 5, descriptorIndex := 6, attributes := #[] }] 33 2 #[] #[{ accessFlags := 25, nameIndex := 123, descriptorIndex := 124, attributes := #[] }, { accessFlags := 25, nameIndex := 130, descriptorIndex := 124, attributes := #[] }, { accessFlags := 25, nameIndex := 136, descriptorIndex := 124, attributes := #[] }])
  fields := #[{ name := "SIOOBE_FORMATTER", type := (.object "java/util/function/BiFunction"), accessFlags := 25, slot := 0, constantValue := 0 }, { name := "AIOOBE_FORMATTER", type := (.object "java/util/function/BiFunction"), accessFlags := 25, slot := 1, constantValue := 0 }, { name := "IOOBE_FORMATTER", type := (.object "java/util/function/BiFunction"), accessFlags := 25, slot := 2, constantValue := 0 }]
  methods := #[k12m0]
  instanceTypes := #[]
  staticTypes := #[(.object "java/util/function/BiFunction"), (.object "java/util/function/BiFunction"), (.object "java/util/function/BiFunction")]
  resolved := Array.replicate 194 none
  statics := some 2 }

def pool13 : Array CpInfo := pool [(9, u "<init>"), (6, .class_ 18), (1, u "java/lang/Object"), (0, u "()V"), (1, .class_ 23), (1, u "jdk/internal/util/ArraysSupport"), (0, u "LOG2_ARRAY_LONG_INDEX_SCALE"), (0, u "I"), (2, u "U"), (0, u "Ljdk/internal/misc/Unsafe;"), (8, u "BIG_ENDIAN"), (0, u "Z"), (8, u "LOG2_BYTE_BIT_SIZE"), (4, u "LOG2_ARRAY_INT_INDEX_SCALE"), (54, u "JLA"), (0, u "Ljdk/internal/access/JavaLangAccess;"), (11, u "LOG2_ARRAY_BOOLEAN_INDEX_SCALE"), (9, u "LOG2_ARRAY_BYTE_INDEX_SCALE"), (5, u "LOG2_ARRAY_CHAR_INDEX_SCALE"), (5, u "LOG2_ARRAY_SHORT_INDEX_SCALE"), (18, u "LOG2_ARRAY_FLOAT_INDEX_SCALE"), (24, u "LOG2_ARRAY_DOUBLE_INDEX_SCALE"), (89, u "T_BOOLEAN"), (2, u "T_CHAR"), (1, u "T_FLOAT"), (1, u "T_DOUBLE"), (1, u "T_BYTE"), (1, u "T_SHORT"), (1, u "T_INT"), (1, u "T_LONG"), (1, u "SOFT_MAX_ARRAY_LENGTH")] 83

def k13m0 : Method := { name := "<init>", desc := "()V", sig := { parameters := [], returnType := none }, accessFlags := 2, code := none }
/-- jdk/internal/util/ArraysSupport -/
def k13 : Class := { plain "jdk/internal/util/ArraysSupport" (some 0) with
  accessFlags := 33
  interfaces := #[]
  cf := some (fileOf pool13 21 #[] #[{ accessFlags := 2, nameIndex := 9, descriptorIndex := 19, attributes := #[] }] 33 16 #[] #[{ accessFlags := 24, nameIndex := 28, descriptorIndex := 29, attributes := #[] }, { accessFlags := 26, nameIndex := 38, descriptorIndex := 39, attributes := #[] }, { accessFlags := 25, nameIndex := 121, descriptorIndex := 25, attributes := #[] }, { accessFlags := 25, nameIndex := 131, descriptorIndex := 25, attributes := #[] }, { accessFlags := 25, nameIndex := 137, descriptorIndex := 25, attributes := #[] }, { accessFlags := 25, nameIndex := 143, descriptorIndex := 25, attributes := #[] }, { accessFlags := 25, nameIndex := 53, descriptorIndex := 25, attributes := #[] }, { accessFlags := 25, nameIndex := 24, descriptorIndex := 25, attributes := #[] }, { accessFlags := 25, nameIndex := 162, descriptorIndex := 25, attributes := #[] }, { accessFlags := 25, nameIndex := 187, descriptorIndex := 25, attributes := #[] }, { accessFlags := 26, nameIndex := 48, descriptorIndex := 25, attributes := #[] }, { accessFlags := 25, nameIndex := 277, descriptorIndex := 25, attributes := #[] }, { accessFlags := 25, nameIndex := 280, descriptorIndex := 25, attributes := #[] }, { accessFlags := 25, nameIndex := 282, descriptorIndex := 25, attributes := #[] }, { accessFlags := 25, nameIndex := 284, descriptorIndex := 25, attributes := #[] }, { accessFlags := 25, nameIndex := 286, descriptorIndex := 25, attributes := #[] }, { accessFlags := 25, nameIndex := 288, descriptorIndex := 25, attributes := #[] }, { accessFlags := 25, nameIndex := 290, descriptorIndex := 25, attributes := #[] }, { accessFlags := 25, nameIndex := 292, descriptorIndex := 25, attributes := #[] }, { accessFlags := 26, nameIndex := 108, descriptorIndex := 109, attributes := #[] }, { accessFlags := 25, nameIndex := 294, descriptorIndex := 25, attributes := #[] }])
  fields := #[{ name := "U", type := (.object "jdk/internal/misc/Unsafe"), accessFlags := 24, slot := 0, constantValue := 0 }, { name := "BIG_ENDIAN", type := .boolean, accessFlags := 26, slot := 1, constantValue := 0 }, { name := "LOG2_ARRAY_BOOLEAN_INDEX_SCALE", type := .int, accessFlags := 25, slot := 2, constantValue := 0 }, { name := "LOG2_ARRAY_BYTE_INDEX_SCALE", type := .int, accessFlags := 25, slot := 3, constantValue := 0 }, { name := "LOG2_ARRAY_CHAR_INDEX_SCALE", type := .int, accessFlags := 25, slot := 4, constantValue := 0 }, { name := "LOG2_ARRAY_SHORT_INDEX_SCALE", type := .int, accessFlags := 25, slot := 5, constantValue := 0 }, { name := "LOG2_ARRAY_INT_INDEX_SCALE", type := .int, accessFlags := 25, slot := 6, constantValue := 0 }, { name := "LOG2_ARRAY_LONG_INDEX_SCALE", type := .int, accessFlags := 25, slot := 7, constantValue := 0 }, { name := "LOG2_ARRAY_FLOAT_INDEX_SCALE", type := .int, accessFlags := 25, slot := 8, constantValue := 0 }, { name := "LOG2_ARRAY_DOUBLE_INDEX_SCALE", type := .int, accessFlags := 25, slot := 9, constantValue := 0 }, { name := "LOG2_BYTE_BIT_SIZE", type := .int, accessFlags := 26, slot := 10, constantValue := 0 }, { name := "T_BOOLEAN", type := .int, accessFlags := 25, slot := 11, constantValue := 0 }, { name := "T_CHAR", type := .int, accessFlags := 25, slot := 12, constantValue := 0 }, { name := "T_FLOAT", type := .int, accessFlags := 25, slot := 13, constantValue := 0 }, { name := "T_DOUBLE", type := .int, accessFlags := 25, slot := 14, constantValue := 0 }, { name := "T_BYTE", type := .int, accessFlags := 25, slot := 15, constantValue := 0 }, { name := "T_SHORT", type := .int, accessFlags := 25, slot := 16, constantValue := 0 }, { name := "T_INT", type := .int, accessFlags := 25, slot := 17, constantValue := 0 }, { name := "T_LONG", type := .int, accessFlags := 25, slot := 18, constantValue := 0 }, { name := "JLA", type := (.object "jdk/internal/access/JavaLangAccess"), accessFlags := 26, slot := 19, constantValue := 0 }, { name := "SOFT_MAX_ARRAY_LENGTH", type := .int, accessFlags := 25, slot := 20, constantValue := 0 }]
  methods := #[k13m0]
  instanceTypes := #[]
  staticTypes := #[(.object "jdk/internal/misc/Unsafe"), .boolean, .int, .int, .int, .int, .int, .int, .int, .int, .int, .int, .int, .int, .int, .int, .int, .int, .int, (.object "jdk/internal/access/JavaLangAccess"), .int]
  resolved := Array.replicate 378 none
  statics := none }

def pool14 : Array CpInfo := pool [(1, u "java/lang/Cloneable"), (0, .class_ 1), (0, u "java/lang/Object"), (0, .class_ 3)] 3

/-- java/lang/Cloneable -/
def k14 : Class := { plain "java/lang/Cloneable" (some 0) with
  accessFlags := 1537
  interfaces := #[]
  cf := some (fileOf pool14 2 #[] #[] 1537 4 #[] #[])
  fields := #[]
  methods := #[]
  instanceTypes := #[]
  staticTypes := #[]
  resolved := Array.replicate 8 none
  statics := none }

/-- the primitive byte -/
def k15 : Class := { plain "byte" none with kind := .primitive 'B', accessFlags := 0x411 }
/-- [B -/
def k16 : Class := { plain "[B" (some 0) with kind := .array 15 .byte, interfaces := #[14, 2], accessFlags := 1041 }

/-- the primitive char -/
def k17 : Class := { plain "char" none with kind := .primitive 'C', accessFlags := 0x411 }
/-- [C -/
def k18 : Class := { plain "[C" (some 0) with kind := .array 17 .char, interfaces := #[14, 2], accessFlags := 1041 }

/-- the primitive int -/
def k19 : Class := { plain "int" none with kind := .primitive 'I', accessFlags := 0x411 }
/-- [I -/
def k20 : Class := { plain "[I" (some 0) with kind := .array 19 .int, interfaces := #[14, 2], accessFlags := 1041 }

def heap : Heap := #[{ cls := 7, slots := #[.long 0, .int 1, .null, .int 0, .null, .int 0, .int 0], vm := .statics 7 },
  { cls := 11, slots := #[.ref 3, .ref 4, .null, .long 0], vm := .statics 11 },
  { cls := 12, slots := #[.null, .null, .null], vm := .statics 12 },
  { cls := 11, slots := #[.int 1], vm := .none },
  { cls := 11, slots := #[.int 0], vm := .none }]
def classes : Array Class := #[k0, k1, k2, k3, k4, k5, k6, k7, k8, k9, k10, k11, k12, k13, k14, k15, k16, k17, k18, k19, k20]
def interned : List (Array UInt16 × Addr) := []
def slotsUsed : Nat := 16
def theMethod : MethodId := ⟨1, 1⟩
def args0 : Array Value := #[.int 37, .int 7, .int 1]
def aboutOver (below : List Frame) : State where
  vm := { classes := classes, interned := interned.toArray }
  heap := heap
  slotsUsed := slotsUsed
  threads := #[{ frames := .invoking theMethod args0 :: below }]
def below0 : List Frame := [.native { method := ⟨0, 0⟩, args := #[] }]
def about1 : State := aboutOver below0
def p0 : Program := .bare "" "" ""
def e0 : Env := launch0.env 0 0 0
theorem w_frames : about1.frames = Frame.invoking theMethod args0 :: below0 := rfl
set_option maxRecDepth 65536 in
theorem w_args : argsFit about1.vm theMethod args0 = true := by decide +kernel
set_option maxRecDepth 65536 in
theorem w_heap : heapFits about1 = true := by decide +kernel
set_option maxRecDepth 65536 in
theorem w_runnable : about1.curStatus? = some .runnable := by decide +kernel
set_option maxRecDepth 65536 in
theorem w_alone : about1.alone = true := by decide +kernel
set_option maxRecDepth 65536 in
theorem w_named : about1.methodNamed? x = some theMethod := by decide +kernel
set_option maxRecDepth 65536 in
theorem w_hears : about1.hears theMethod below0 = true := by decide +kernel
set_option maxRecDepth 65536 in
theorem w_ripe : about1.ripe theMethod args0 below0 = true := by decide +kernel
theorem w_running : about1.status = .running := rfl
set_option maxRecDepth 65536 in
theorem w_room : about1.hasRoom e0.platform room_1 = true :=
  launch0.hasRoom_least _ room_1 (by decide +kernel) (by decide +kernel) (by decide +kernel) (by decide +kernel) (by decide +kernel) (by decide +kernel)
theorem allAtoms_all (ts : List Jvm.Cond) (a : Array Jvm.Value) (st : Jvm.State) : (allAtoms ts).before a st = ts.all (fun c => c.before a st) := by
  induction ts with
  | nil => rfl
  | cons c t ih =>
    show (Jvm.Cond.and c (allAtoms t)).before a st = _
    rw [Jvm.Cond.before_and, ih, List.all_cons]
def words1 : List Jvm.Cond := Jvm.Cond.code x code maxLocals ret :: tables_1
/-- a 'code' word, met by the world's own term for the bytes: nothing is compared byte by byte -/
theorem code_word {y : MethodName} {bytes : ByteArray} {mx : Nat} {rt : Option FieldType} {a : Array Value} {s : State} {m : MethodId} {meth : Method} {c : Code} (h1 : s.methodNamed? y = some m) (h2 : s.vm.method? m = some meth) (h3 : meth.code = some c) (h4 : c.code = bytes)
    (h5 : (c.maxLocals == mx && c.exceptionTable.isEmpty && decide (c.maxStack ≤ mostOperands) && decide (meth.sig.returnType = rt) && !meth.locks && decide (parseMethodDescriptor y.desc = some meth.sig)) = true) : (Jvm.Cond.code y bytes mx rt).before a s = true := by
  simp only [Bool.and_eq_true, beq_iff_eq, Bool.not_eq_true', decide_eq_true_eq] at h5
  obtain ⟨⟨⟨⟨⟨g1, g2⟩, g3⟩, g4⟩, g5⟩, g6⟩ := h5
  simp [Cond.before, Cond.holds, Cond.value, h1, h2, h3, h4, g1, g2, g3, g4, g5, g6]
def isCode : Jvm.Cond → Bool
  | .code _ _ _ _ => true
  | _ => false
theorem all_split {L : List Jvm.Cond} {P : Jvm.Cond → Bool} (h1 : L.all (fun c => isCode c || P c) = true) (h2 : ∀ c ∈ L.filter isCode, P c = true) : L.all P = true := by
  refine List.all_eq_true.mpr fun c hc => ?_
  have h := List.all_eq_true.mp h1 c hc
  rcases Bool.eq_false_or_eq_true (isCode c) with hi | hi
  · exact h2 c (List.mem_filter.mpr ⟨hc, hi⟩)
  · simpa [hi] using h
set_option maxRecDepth 65536 in
theorem w_c0 : (Jvm.Cond.code x code maxLocals ret).before args0 about1 = true := code_word (m := ⟨1, 1⟩) (meth := k1m1) (c := k1c1) (by decide +kernel) rfl rfl rfl (by decide +kernel)
set_option maxRecDepth 65536 in
theorem w_c1 : (Jvm.Cond.code ({ cls := "com/example/entries_to_nodes/entriestonodes/xml/XsBooleanReadPinLaw", name := "str", desc := "([CI)Ljava/lang/String;" } : Jvm.MethodName) method_3_code (2 : Nat) (Option.some (Jvm.ClassFile.FieldType.object "java/lang/String"))).before args0 about1 = true := code_word (m := ⟨1, 2⟩) (meth := k1m2) (c := k1c2) (by decide +kernel) rfl rfl rfl (by decide +kernel)
set_option maxRecDepth 65536 in
theorem w_c2 : (Jvm.Cond.code ({ cls := "java/lang/String", name := "<init>", desc := "([C)V" } : Jvm.MethodName) jdk_42_method_3_code (2 : Nat) (Option.none : Option Jvm.ClassFile.FieldType)).before args0 about1 = true := code_word (m := ⟨7, 1⟩) (meth := k7m1) (c := k7c1) (by decide +kernel) rfl rfl rfl (by decide +kernel)
set_option maxRecDepth 65536 in
theorem w_c3 : (Jvm.Cond.code ({ cls := "java/lang/String", name := "<init>", desc := "([CIILjava/lang/Void;)V" } : Jvm.MethodName) jdk_42_method_149_code (6 : Nat) (Option.none : Option Jvm.ClassFile.FieldType)).before args0 about1 = true := code_word (m := ⟨7, 3⟩) (meth := k7m3) (c := k7c3) (by decide +kernel) rfl rfl rfl (by decide +kernel)
set_option maxRecDepth 65536 in
theorem w_c4 : (Jvm.Cond.code ({ cls := "java/lang/Object", name := "<init>", desc := "()V" } : Jvm.MethodName) object_method_1_code (1 : Nat) (Option.none : Option Jvm.ClassFile.FieldType)).before args0 about1 = true := code_word (m := ⟨0, 0⟩) (meth := k0m0) (c := k0c0) (by decide +kernel) rfl rfl rfl (by decide +kernel)
set_option maxRecDepth 65536 in
theorem w_c5 : (Jvm.Cond.code ({ cls := "com/example/entries_to_nodes/entriestonodes/xml/XsBoolean", name := "read", desc := "(Ljava/lang/String;)Ljava/lang/Boolean;" } : Jvm.MethodName) prog_27_method_2_code (2 : Nat) (Option.some (Jvm.ClassFile.FieldType.object "java/lang/Boolean"))).before args0 about1 = true := code_word (m := ⟨8, 1⟩) (meth := k8m1) (c := k8c1) (by decide +kernel) rfl rfl rfl (by decide +kernel)
set_option maxRecDepth 65536 in
theorem w_c6 : (Jvm.Cond.code ({ cls := "java/lang/String", name := "equals", desc := "(Ljava/lang/Object;)Z" } : Jvm.MethodName) jdk_42_method_66_code (3 : Nat) (Option.some Jvm.ClassFile.FieldType.boolean)).before args0 about1 = true := code_word (m := ⟨7, 2⟩) (meth := k7m2) (c := k7c2) (by decide +kernel) rfl rfl rfl (by decide +kernel)
set_option maxRecDepth 65536 in
theorem w_c7 : (Jvm.Cond.code ({ cls := "java/lang/StringLatin1", name := "equals", desc := "([B[B)Z" } : Jvm.MethodName) jdk_43_method_13_code (3 : Nat) (Option.some Jvm.ClassFile.FieldType.boolean)).before args0 about1 = true := code_word (m := ⟨9, 1⟩) (meth := k9m1) (c := k9c1) (by decide +kernel) rfl rfl rfl (by decide +kernel)
set_option maxRecDepth 65536 in
theorem w_c8 : (Jvm.Cond.code ({ cls := "java/lang/StringUTF16", name := "compress", desc := "([CII)[B" } : Jvm.MethodName) jdk_52_method_16_code (6 : Nat) (Option.some (Jvm.ClassFile.FieldType.array Jvm.ClassFile.FieldType.byte))).before args0 about1 = true := code_word (m := ⟨10, 2⟩) (meth := k10m2) (c := k10c2) (by decide +kernel) rfl rfl rfl (by decide +kernel)
set_option maxRecDepth 65536 in
theorem w_c9 : (Jvm.Cond.code ({ cls := "java/lang/StringUTF16", name := "compress", desc := "([CI[BII)I" } : Jvm.MethodName) jdk_52_method_21_code (7 : Nat) (Option.some Jvm.ClassFile.FieldType.int)).before args0 about1 = true := code_word (m := ⟨10, 3⟩) (meth := k10m3) (c := k10c3) (by decide +kernel) rfl rfl rfl (by decide +kernel)
set_option maxRecDepth 65536 in
theorem w_c10 : (Jvm.Cond.code ({ cls := "java/lang/StringUTF16", name := "coderFromArrayLen", desc := "([BI)B" } : Jvm.MethodName) jdk_52_method_15_code (2 : Nat) (Option.some Jvm.ClassFile.FieldType.byte)).before args0 about1 = true := code_word (m := ⟨10, 1⟩) (meth := k10m1) (c := k10c1) (by decide +kernel) rfl rfl rfl (by decide +kernel)
set_option maxRecDepth 65536 in
theorem w_c11 : (Jvm.Cond.code ({ cls := "java/lang/Boolean", name := "booleanValue", desc := "()Z" } : Jvm.MethodName) jdk_2055_method_4_code (1 : Nat) (Option.some Jvm.ClassFile.FieldType.boolean)).before args0 about1 = true := code_word (m := ⟨11, 0⟩) (meth := k11m0) (c := k11c0) (by decide +kernel) rfl rfl rfl (by decide +kernel)
def codes1 : List Jvm.Cond := [Jvm.Cond.code x code maxLocals ret, Jvm.Cond.code ({ cls := "com/example/entries_to_nodes/entriestonodes/xml/XsBooleanReadPinLaw", name := "str", desc := "([CI)Ljava/lang/String;" } : Jvm.MethodName) method_3_code (2 : Nat) (Option.some (Jvm.ClassFile.FieldType.object "java/lang/String")), Jvm.Cond.code ({ cls := "java/lang/String", name := "<init>", desc := "([C)V" } : Jvm.MethodName) jdk_42_method_3_code (2 : Nat) (Option.none : Option Jvm.ClassFile.FieldType), Jvm.Cond.code ({ cls := "java/lang/String", name := "<init>", desc := "([CIILjava/lang/Void;)V" } : Jvm.MethodName) jdk_42_method_149_code (6 : Nat) (Option.none : Option Jvm.ClassFile.FieldType), Jvm.Cond.code ({ cls := "java/lang/Object", name := "<init>", desc := "()V" } : Jvm.MethodName) object_method_1_code (1 : Nat) (Option.none : Option Jvm.ClassFile.FieldType), Jvm.Cond.code ({ cls := "com/example/entries_to_nodes/entriestonodes/xml/XsBoolean", name := "read", desc := "(Ljava/lang/String;)Ljava/lang/Boolean;" } : Jvm.MethodName) prog_27_method_2_code (2 : Nat) (Option.some (Jvm.ClassFile.FieldType.object "java/lang/Boolean")), Jvm.Cond.code ({ cls := "java/lang/String", name := "equals", desc := "(Ljava/lang/Object;)Z" } : Jvm.MethodName) jdk_42_method_66_code (3 : Nat) (Option.some Jvm.ClassFile.FieldType.boolean), Jvm.Cond.code ({ cls := "java/lang/StringLatin1", name := "equals", desc := "([B[B)Z" } : Jvm.MethodName) jdk_43_method_13_code (3 : Nat) (Option.some Jvm.ClassFile.FieldType.boolean), Jvm.Cond.code ({ cls := "java/lang/StringUTF16", name := "compress", desc := "([CII)[B" } : Jvm.MethodName) jdk_52_method_16_code (6 : Nat) (Option.some (Jvm.ClassFile.FieldType.array Jvm.ClassFile.FieldType.byte)), Jvm.Cond.code ({ cls := "java/lang/StringUTF16", name := "compress", desc := "([CI[BII)I" } : Jvm.MethodName) jdk_52_method_21_code (7 : Nat) (Option.some Jvm.ClassFile.FieldType.int), Jvm.Cond.code ({ cls := "java/lang/StringUTF16", name := "coderFromArrayLen", desc := "([BI)B" } : Jvm.MethodName) jdk_52_method_15_code (2 : Nat) (Option.some Jvm.ClassFile.FieldType.byte), Jvm.Cond.code ({ cls := "java/lang/Boolean", name := "booleanValue", desc := "()Z" } : Jvm.MethodName) jdk_2055_method_4_code (1 : Nat) (Option.some Jvm.ClassFile.FieldType.boolean)]
set_option maxRecDepth 65536 in
theorem codes_eq : words1.filter isCode = codes1 := rfl
theorem w_codes : ∀ c ∈ words1.filter isCode, c.before args0 about1 = true := by
  rw [codes_eq]
  intro c hc
  simp only [codes1, List.mem_cons, List.not_mem_nil, or_false] at hc
  rcases hc with rfl | rfl | rfl | rfl | rfl | rfl | rfl | rfl | rfl | rfl | rfl | rfl
  · exact w_c0
  · exact w_c1
  · exact w_c2
  · exact w_c3
  · exact w_c4
  · exact w_c5
  · exact w_c6
  · exact w_c7
  · exact w_c8
  · exact w_c9
  · exact w_c10
  · exact w_c11
set_option maxRecDepth 65536 in
theorem w_t1 : (words1.take 24).all (fun c => isCode c || c.before args0 about1) = true := by decide +kernel
set_option maxRecDepth 65536 in
theorem w_t2 : ((words1.drop 24).take 24).all (fun c => isCode c || c.before args0 about1) = true := by decide +kernel
set_option maxRecDepth 65536 in
theorem w_t3 : ((words1.drop 24).drop 24).all (fun c => isCode c || c.before args0 about1) = true := by decide +kernel
theorem w_tables : (allAtoms (Jvm.Cond.code x code maxLocals ret :: tables_1)).before args0 about1 = true := by
  rw [allAtoms_all]
  show words1.all (fun c => c.before args0 about1) = true
  refine all_split ?_ w_codes
  rw [← List.take_append_drop 24 words1, List.all_append, w_t1, ← List.take_append_drop 24 (words1.drop 24), List.all_append, w_t2, w_t3]
  rfl
set_option maxRecDepth 65536 in
theorem w_rest : rest_1_c.before args0 about1 = true := by decide +kernel
set_option maxRecDepth 65536 in
theorem w_case : (Jvm.Cond.and given_1 narrow_1).before args0 about1 = true := by decide +kernel
set_option maxRecDepth 65536 in
theorem w_consts : constsHeld consts_1 about1 := Jvm.Lit.constsHeldB_iff.mp (by decide +kernel)
theorem w_applies : (headSpec (Jvm.Cond.code x code maxLocals ret :: tables_1) room_1).applies x e0.platform about1 = true :=
  (Spec.applies_iff w_frames).mpr ⟨w_running, w_runnable, w_alone, w_named, w_hears, w_ripe, w_room, w_tables⟩
theorem atStart : AtStart classFile x code maxLocals ret World_1 tables_1 room_1 Calls_1 rest_1 Pre_1 launch0 p0 e0 about1 theMethod args0 below0 :=
  ⟨lists_1, trivial, launch0.admits_env _ _ _, launch0.least_env, fairChoices_fair.cas, fairChoices_fair.clock, w_frames, w_args, w_heap, w_applies, ⟨w_consts, trivial⟩, w_rest, w_case⟩
end start1
theorem witness_1 : WitnessClaimed_1 := ⟨start1.p0, start1.e0, start1.about1, start1.theMethod, start1.args0, start1.below0, start1.atStart⟩
end Jvm.Pilot.@@N@@
