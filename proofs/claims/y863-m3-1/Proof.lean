import JvmDerived
import JvmDerived.Pilot.@@N@@Statement
import JvmDerived.Pilot.@@N@@Code
set_option linter.unusedVariables false
set_option linter.unusedSimpArgs false
namespace Jvm.Pilot.@@N@@
open Jvm Jvm.ClassFile Sem Op Lib Jvm.Free Jvm.Stand Jvm.LawKit Jvm.RoadKit Bundle Jvm.Pilot.@@N@@.Jvm.D
abbrev un : Slot := .unset
theorem ow {Z : State} {a0 : Array Value} {d : Jvm.Cond} (hw : ∀ d ∈ tables_1, d.before a0 Z = true) (i : Nat) (h : tables_1[i]? = some d) : d.before a0 Z = true := hw d (List.mem_of_getElem? h)
section OwnGo
variable {p : Program} {l : Launch} {e : Env} {R : Room} {s : State} {m : MethodId} {args : Array Value} {below : List Frame} {meth : Method} {c : Code} {T T' : State} {locs : List Loc} {cells slots : Nat} {Q : Option Value → Heap → List Loc → Prop} {C S : Nat} {g g' : JFrame} {F : Outcome → State → Prop}
/-- from this state and frame the body comes to an end of which F holds -/
def Go (p : Program) (e : Env) (below : List Frame) (F : Outcome → State → Prop) (T : State) (g : JFrame) : Prop :=
  ∃ s₂ o, Steps p.tables e below (T.setTop g) s₂ ∧ s₂.status = .running ∧ Ended s₂ below o ∧ F o s₂
/-- it returned, Q holds, and nothing else has moved than L and so many new cells and slots -/
abbrev EndN (s : State) (Q : Option Value → Heap → List Loc → Prop) (C S : Nat) (o : Outcome) (t : State) : Prop := ∃ v L, o = .returned v ∧ Q v t.heap L ∧ FrameEnd s o t L C S
theorem Go.enter (q : g = g') (k : Go p e below F T g') : ∃ s₂ o, Steps p.tables e below (T.setTop g) s₂ ∧ s₂.status = .running ∧ Ended s₂ below o ∧ F o s₂ := by
  subst q
  exact k
theorem Go.by (h : ∀ t, Steps p.tables e below (T'.setTop g') t → Steps p.tables e below (T.setTop g) t) (k : Go p e below F T' g') : Go p e below F T g := by
  obtain ⟨s₂, o, h1, h2⟩ := k
  exact ⟨s₂, o, h _ h1, h2⟩
theorem Go.to (h : Steps p.tables e below (T.setTop g) (T'.setTop g')) (k : Go p e below F T' g') : Go p e below F T g := by
  obtain ⟨s₂, o, h1, h2⟩ := k
  exact ⟨s₂, o, h.trans h1, h2⟩
abbrev own_retKind (i : Instr) (t : FieldType) (w : Value) : Prop := (i = .ireturn ∧ (t = .int ∨ t = .boolean ∨ t = .byte ∨ t = .char ∨ t = .short) ∧ ∃ z, w = .int z) ∨ (i = .lreturn ∧ t = .long ∧ ∃ z, w = .long z) ∨ (i = .dreturn ∧ t = .double ∧ ∃ z, w = .double z) ∨ (i = .freturn ∧ t = .float ∧ ∃ z, w = .float z) ∨ (i = .areturn ∧ t.isReference = true ∧ w.isRef = true)
theorem Go.ret (X : Stand p l e R s m args below meth c T locs cells slots) (hx : p.tables.exec = Jvm.exec) (hlocks : meth.locks = false) {pc : Nat} {Ls : Array Slot} {w : Value} {t : FieldType} {i : Instr} {rest : List Value} (hret : meth.sig.returnType = some t) (hn : narrow t w = w)
    (hi : own_retKind i t w) (hd : decode c.code pc = .ok (i, 1)) (hq : Q (some w) T.heap locs) (hc : cells ≤ C) (hs : slots ≤ S) : Go p e below (EndN s Q C S) T (mkF m pc Ls (w :: rest)) := by
  obtain ⟨fs, hr, hrun, hended, hW, hsame⟩ := X.leave (v := some w) (fun h => by rw [hret] at h; cases h) hlocks
  exact ⟨_, _, retOut X hx hret hn hi hd hr, hrun, hended, _, _, rfl, hq, ⟨_, rfl⟩, hW, hsame.mono hc hs⟩
theorem Go.retI (X : Stand p l e R s m args below meth c T locs cells slots) (hx : p.tables.exec = Jvm.exec) (hlocks : meth.locks = false) {pc : Nat} {Ls : Array Slot} {w : Int32} {t : FieldType} {rest : List Value} (hret : meth.sig.returnType = some t) (hn : narrow t (.int w) = .int w)
    (ht : t = .int ∨ t = .boolean ∨ t = .byte ∨ t = .char ∨ t = .short) (hd : decode c.code pc = .ok (.ireturn, 1)) (hq : Q (some (.int w)) T.heap locs) (hc : cells ≤ C) (hs : slots ≤ S) : Go p e below (EndN s Q C S) T (mkF m pc Ls (.int w :: rest)) :=
  Go.ret X hx hlocks hret hn (Or.inl ⟨rfl, ht, _, rfl⟩) hd hq hc hs
theorem Go.retJ (X : Stand p l e R s m args below meth c T locs cells slots) (hx : p.tables.exec = Jvm.exec) (hlocks : meth.locks = false) {pc : Nat} {Ls : Array Slot} {w : Int64} {rest : List Value} (hret : meth.sig.returnType = some .long)
    (hd : decode c.code pc = .ok (.lreturn, 1)) (hq : Q (some (.long w)) T.heap locs) (hc : cells ≤ C) (hs : slots ≤ S) : Go p e below (EndN s Q C S) T (mkF m pc Ls (.long w :: rest)) :=
  Go.ret X hx hlocks hret rfl (Or.inr (Or.inl ⟨rfl, rfl, _, rfl⟩)) hd hq hc hs
theorem own_narR (t : FieldType) {w : Value} (ht : t.isReference = true) (hw : w.isRef = true) : narrow t w = w := by
  cases t <;> first | (simp [FieldType.isReference] at ht; done) | (rcases ref_cases hw with rfl | ⟨_, rfl⟩ <;> rfl)
theorem own_fitR (t : FieldType) {w : Value} (ht : t.isReference = true) (hw : w.isRef = true) : fits t w = true := by
  cases t <;> first | (simp [FieldType.isReference] at ht; done) | (rcases ref_cases hw with rfl | ⟨_, rfl⟩ <;> rfl)
theorem Go.retA (X : Stand p l e R s m args below meth c T locs cells slots) (hx : p.tables.exec = Jvm.exec) (hlocks : meth.locks = false) {pc : Nat} {Ls : Array Slot} {w : Value} {t : FieldType} {rest : List Value} (hret : meth.sig.returnType = some t) (ht : t.isReference = true) (hw : w.isRef = true)
    (hd : decode c.code pc = .ok (.areturn, 1)) (hq : Q (some w) T.heap locs) (hc : cells ≤ C) (hs : slots ≤ S) : Go p e below (EndN s Q C S) T (mkF m pc Ls (w :: rest)) :=
  Go.ret X hx hlocks hret (own_narR t ht hw) (Or.inr (Or.inr (Or.inr (Or.inr ⟨rfl, ht, hw⟩)))) hd hq hc hs
theorem Go.retV (X : Stand p l e R s m args below meth c T locs cells slots) (hx : p.tables.exec = Jvm.exec) (hlocks : meth.locks = false) {pc : Nat} {Ls : Array Slot} (hret : meth.sig.returnType = none)
    (hd : decode c.code pc = .ok (.return_, 1)) (hq : Q none T.heap locs) (hc : cells ≤ C) (hs : slots ≤ S) : Go p e below (EndN s Q C S) T (mkF m pc Ls []) := by
  obtain ⟨fs, hr, hrun, hended, hW, hsame⟩ := X.leave (v := none) (fun _ => rfl) hlocks
  exact ⟨_, _, X.returnOut hx hret hd hr, hrun, hended, _, _, rfl, hq, ⟨_, rfl⟩, hW, hsame.mono hc hs⟩
/-- two or more roads that meet: what comes behind is shown once, for every x that P allows -/
theorem Go.join {α : Type} {P : α → Prop} {fr : α → JFrame} (h : ∀ x, P x → Go p e below F T (fr x)) (k : (∀ x, P x → Go p e below F T (fr x)) → Go p e below F T g) : Go p e below F T g := k h
def own_at (X : Stand p l e R s m args below meth c T locs cells slots) (h : Heap) (T' : State) : Prop := Stand p l e R s m args below meth c T' locs cells slots ∧ T'.heap = h
theorem Go.joinT {α : Type} {St : State → Prop} {P : α → Prop} {fr : α → JFrame} (h : ∀ T', St T' → ∀ x, P x → Go p e below F T' (fr x)) (k : (∀ T', St T' → ∀ x, P x → Go p e below F T' (fr x)) → Go p e below F T g) : Go p e below F T g := k h
end OwnGo
section OwnSteps
variable {p : Program} {l : Launch} {e : Env} {R : Room} {s : State} {m : MethodId} {args : Array Value} {below : List Frame} {meth : Method} {c : Code} {T : State} {locs : List Loc} {cells slots : Nat} {F : Outcome → State → Prop}
theorem Go.iload1 (q : Nat) (X : Stand p l e R s m args below meth c T locs cells slots) (hx : p.tables.exec = Jvm.exec) {pc : Nat} {Ls : Array Slot} {k : Fin 4} {v : Int32} {St : List Value} (hd : decode c.code pc = .ok (.iload_n k, 1)) (hl : Ls[k.val]? = some (.val (.int v))) (hq : pc + 1 = q) (K : Go p e below F T (mkF m q Ls (.int v :: St))) : Go p e below F T (mkF m pc Ls St) := by
  subst hq
  exact Go.by (fun _ gk => XS.iloadN X.here hx rfl hd hl gk) K
theorem Go.iload2 (q : Nat) (X : Stand p l e R s m args below meth c T locs cells slots) (hx : p.tables.exec = Jvm.exec) {pc : Nat} {Ls : Array Slot} {k : Nat} {v : Int32} {St : List Value} (hd : decode c.code pc = .ok (.iload k, 2)) (hl : Ls[k]? = some (.val (.int v))) (hq : pc + 2 = q) (K : Go p e below F T (mkF m q Ls (.int v :: St))) : Go p e below F T (mkF m pc Ls St) := by
  subst hq
  exact Go.by (fun _ gk => XS.iload X.here hx rfl hd hl gk) K
theorem Go.istore1 (q : Nat) (X : Stand p l e R s m args below meth c T locs cells slots) (hx : p.tables.exec = Jvm.exec) {pc : Nat} {Ls : Array Slot} {k : Fin 4} {x : Int32} {St : List Value} {L' : Array Slot} (hd : decode c.code pc = .ok (.istore_n k, 1)) (hl : storeLocals Ls k.val (.int x) = some L') (hq : pc + 1 = q) (K : Go p e below F T (mkF m q L' St)) : Go p e below F T (mkF m pc Ls (.int x :: St)) := by
  subst hq
  exact Go.by (fun _ gk => XS.istoreN X.here hx rfl hd rfl hl gk) K
theorem Go.istore2 (q : Nat) (X : Stand p l e R s m args below meth c T locs cells slots) (hx : p.tables.exec = Jvm.exec) {pc : Nat} {Ls : Array Slot} {k : Nat} {x : Int32} {St : List Value} {L' : Array Slot} (hd : decode c.code pc = .ok (.istore k, 2)) (hl : storeLocals Ls k (.int x) = some L') (hq : pc + 2 = q) (K : Go p e below F T (mkF m q L' St)) : Go p e below F T (mkF m pc Ls (.int x :: St)) := by
  subst hq
  exact Go.by (fun _ gk => XS.istore X.here hx rfl hd rfl hl gk) K
theorem Go.lload1 (q : Nat) (X : Stand p l e R s m args below meth c T locs cells slots) (hx : p.tables.exec = Jvm.exec) {pc : Nat} {Ls : Array Slot} {k : Fin 4} {v : Int64} {St : List Value} (hd : decode c.code pc = .ok (.lload_n k, 1)) (hl : Ls[k.val]? = some (.val (.long v))) (hq : pc + 1 = q) (K : Go p e below F T (mkF m q Ls (.long v :: St))) : Go p e below F T (mkF m pc Ls St) := by
  subst hq
  exact Go.by (fun _ gk => XT.lloadN X.here hx rfl hd hl gk) K
theorem Go.lload2 (q : Nat) (X : Stand p l e R s m args below meth c T locs cells slots) (hx : p.tables.exec = Jvm.exec) {pc : Nat} {Ls : Array Slot} {k : Nat} {v : Int64} {St : List Value} (hd : decode c.code pc = .ok (.lload k, 2)) (hl : Ls[k]? = some (.val (.long v))) (hq : pc + 2 = q) (K : Go p e below F T (mkF m q Ls (.long v :: St))) : Go p e below F T (mkF m pc Ls St) := by
  subst hq
  exact Go.by (fun _ gk => XT.lload X.here hx rfl hd hl gk) K
theorem Go.lstore1 (q : Nat) (X : Stand p l e R s m args below meth c T locs cells slots) (hx : p.tables.exec = Jvm.exec) {pc : Nat} {Ls : Array Slot} {k : Fin 4} {x : Int64} {St : List Value} {L' : Array Slot} (hd : decode c.code pc = .ok (.lstore_n k, 1)) (hl : storeLocals Ls k.val (.long x) = some L') (hq : pc + 1 = q) (K : Go p e below F T (mkF m q L' St)) : Go p e below F T (mkF m pc Ls (.long x :: St)) := by
  subst hq
  exact Go.by (fun _ gk => XT.lstoreN X.here hx rfl hd rfl hl gk) K
theorem Go.lstore2 (q : Nat) (X : Stand p l e R s m args below meth c T locs cells slots) (hx : p.tables.exec = Jvm.exec) {pc : Nat} {Ls : Array Slot} {k : Nat} {x : Int64} {St : List Value} {L' : Array Slot} (hd : decode c.code pc = .ok (.lstore k, 2)) (hl : storeLocals Ls k (.long x) = some L') (hq : pc + 2 = q) (K : Go p e below F T (mkF m q L' St)) : Go p e below F T (mkF m pc Ls (.long x :: St)) := by
  subst hq
  exact Go.by (fun _ gk => XT.lstore X.here hx rfl hd rfl hl gk) K
theorem Go.aload1 (q : Nat) (X : Stand p l e R s m args below meth c T locs cells slots) (hx : p.tables.exec = Jvm.exec) {pc : Nat} {Ls : Array Slot} {k : Fin 4} {v : Value} {St : List Value} (hd : decode c.code pc = .ok (.aload_n k, 1)) (hl : Ls[k.val]? = some (.val v)) (hv : v.isRef = true) (hq : pc + 1 = q) (K : Go p e below F T (mkF m q Ls (v :: St))) : Go p e below F T (mkF m pc Ls St) := by
  subst hq
  exact Go.by (fun _ gk => XS.aloadN X.here hx rfl hd hl hv gk) K
theorem Go.aload2 (q : Nat) (X : Stand p l e R s m args below meth c T locs cells slots) (hx : p.tables.exec = Jvm.exec) {pc : Nat} {Ls : Array Slot} {k : Nat} {v : Value} {St : List Value} (hd : decode c.code pc = .ok (.aload k, 2)) (hl : Ls[k]? = some (.val v)) (hv : v.isRef = true) (hq : pc + 2 = q) (K : Go p e below F T (mkF m q Ls (v :: St))) : Go p e below F T (mkF m pc Ls St) := by
  subst hq
  exact Go.by (fun _ gk => XS.aload X.here hx rfl hd hl hv gk) K
theorem Go.astore1 (q : Nat) (X : Stand p l e R s m args below meth c T locs cells slots) (hx : p.tables.exec = Jvm.exec) {pc : Nat} {Ls : Array Slot} {k : Fin 4} {x : Value} {St : List Value} {L' : Array Slot} (hd : decode c.code pc = .ok (.astore_n k, 1)) (hv : x.isRef = true) (hl : storeLocals Ls k.val x = some L') (hq : pc + 1 = q) (K : Go p e below F T (mkF m q L' St)) : Go p e below F T (mkF m pc Ls (x :: St)) := by
  subst hq
  exact Go.by (fun _ gk => XS.astoreN X.here hx rfl hd rfl hv hl gk) K
theorem Go.astore2 (q : Nat) (X : Stand p l e R s m args below meth c T locs cells slots) (hx : p.tables.exec = Jvm.exec) {pc : Nat} {Ls : Array Slot} {k : Nat} {x : Value} {St : List Value} {L' : Array Slot} (hd : decode c.code pc = .ok (.astore k, 2)) (hv : x.isRef = true) (hl : storeLocals Ls k x = some L') (hq : pc + 2 = q) (K : Go p e below F T (mkF m q L' St)) : Go p e below F T (mkF m pc Ls (x :: St)) := by
  subst hq
  exact Go.by (fun _ gk => XS.astore X.here hx rfl hd rfl hv hl gk) K
theorem Go.iconst (q : Nat) (X : Stand p l e R s m args below meth c T locs cells slots) (hx : p.tables.exec = Jvm.exec) {pc : Nat} {Ls : Array Slot} {i : Int} (v : Int32) {St : List Value} (hd : decode c.code pc = .ok (.iconst i, 1)) (hv : Int32.ofInt i = v) (hq : pc + 1 = q) (K : Go p e below F T (mkF m q Ls (.int v :: St))) : Go p e below F T (mkF m pc Ls St) := by
  subst hq
  exact Go.by (fun _ gk => XT.iconstV X.here hx rfl v hd hv gk) K
theorem Go.bipush (q : Nat) (X : Stand p l e R s m args below meth c T locs cells slots) (hx : p.tables.exec = Jvm.exec) {pc : Nat} {Ls : Array Slot} {i : Int} (v : Int32) {St : List Value} (hd : decode c.code pc = .ok (.bipush i, 2)) (hv : (Int8.ofInt i).toInt32 = v) (hq : pc + 2 = q) (K : Go p e below F T (mkF m q Ls (.int v :: St))) : Go p e below F T (mkF m pc Ls St) := by
  subst hq
  exact Go.by (fun _ gk => XT.bipushV X.here hx rfl v hd hv gk) K
theorem Go.sipush (q : Nat) (X : Stand p l e R s m args below meth c T locs cells slots) (hx : p.tables.exec = Jvm.exec) {pc : Nat} {Ls : Array Slot} {i : Int} (v : Int32) {St : List Value} (hd : decode c.code pc = .ok (.sipush i, 3)) (hv : (Int16.ofInt i).toInt32 = v) (hq : pc + 3 = q) (K : Go p e below F T (mkF m q Ls (.int v :: St))) : Go p e below F T (mkF m pc Ls St) := by
  subst hq
  exact Go.by (fun _ gk => XT.sipushV X.here hx rfl v hd hv gk) K
theorem Go.lconst (q : Nat) (X : Stand p l e R s m args below meth c T locs cells slots) (hx : p.tables.exec = Jvm.exec) {pc : Nat} {Ls : Array Slot} {k : Fin 2} (v : Int64) {St : List Value} (hd : decode c.code pc = .ok (.lconst k, 1)) (hv : Int64.ofNat k = v) (hq : pc + 1 = q) (K : Go p e below F T (mkF m q Ls (.long v :: St))) : Go p e below F T (mkF m pc Ls St) := by
  subst hq
  exact Go.by (fun _ gk => XT.lconstV X.here hx rfl v hd hv gk) K
theorem Go.aconst_null (q : Nat) (X : Stand p l e R s m args below meth c T locs cells slots) (hx : p.tables.exec = Jvm.exec) {pc : Nat} {Ls : Array Slot} {St : List Value} (hd : decode c.code pc = .ok (.aconst_null, 1)) (hq : pc + 1 = q) (K : Go p e below F T (mkF m q Ls (.null :: St))) : Go p e below F T (mkF m pc Ls St) := by
  subst hq
  exact Go.by (fun _ gk => XS.aconstNull X.here hx rfl hd gk) K
theorem Go.iadd (q : Nat) (X : Stand p l e R s m args below meth c T locs cells slots) (hx : p.tables.exec = Jvm.exec) {pc : Nat} {Ls : Array Slot} {x y : Int32} {St : List Value} (hd : decode c.code pc = .ok (.iadd, 1)) (hq : pc + 1 = q) (K : Go p e below F T (mkF m q Ls (.int (x + y) :: St))) : Go p e below F T (mkF m pc Ls (.int y :: .int x :: St)) := by
  subst hq
  exact Go.by (fun _ gk => XS.iadd X.here hx rfl hd rfl gk) K
theorem Go.isub (q : Nat) (X : Stand p l e R s m args below meth c T locs cells slots) (hx : p.tables.exec = Jvm.exec) {pc : Nat} {Ls : Array Slot} {x y : Int32} {St : List Value} (hd : decode c.code pc = .ok (.isub, 1)) (hq : pc + 1 = q) (K : Go p e below F T (mkF m q Ls (.int (x - y) :: St))) : Go p e below F T (mkF m pc Ls (.int y :: .int x :: St)) := by
  subst hq
  exact Go.by (fun _ gk => XS.isub X.here hx rfl hd rfl gk) K
theorem Go.imul (q : Nat) (X : Stand p l e R s m args below meth c T locs cells slots) (hx : p.tables.exec = Jvm.exec) {pc : Nat} {Ls : Array Slot} {x y : Int32} {St : List Value} (hd : decode c.code pc = .ok (.imul, 1)) (hq : pc + 1 = q) (K : Go p e below F T (mkF m q Ls (.int (x * y) :: St))) : Go p e below F T (mkF m pc Ls (.int y :: .int x :: St)) := by
  subst hq
  exact Go.by (fun _ gk => XS.imul X.here hx rfl hd rfl gk) K
theorem Go.iand (q : Nat) (X : Stand p l e R s m args below meth c T locs cells slots) (hx : p.tables.exec = Jvm.exec) {pc : Nat} {Ls : Array Slot} {x y : Int32} {St : List Value} (hd : decode c.code pc = .ok (.iand, 1)) (hq : pc + 1 = q) (K : Go p e below F T (mkF m q Ls (.int (x &&& y) :: St))) : Go p e below F T (mkF m pc Ls (.int y :: .int x :: St)) := by
  subst hq
  exact Go.by (fun _ gk => XS.iand X.here hx rfl hd rfl gk) K
theorem Go.ior (q : Nat) (X : Stand p l e R s m args below meth c T locs cells slots) (hx : p.tables.exec = Jvm.exec) {pc : Nat} {Ls : Array Slot} {x y : Int32} {St : List Value} (hd : decode c.code pc = .ok (.ior, 1)) (hq : pc + 1 = q) (K : Go p e below F T (mkF m q Ls (.int (x ||| y) :: St))) : Go p e below F T (mkF m pc Ls (.int y :: .int x :: St)) := by
  subst hq
  exact Go.by (fun _ gk => XT.ior X.here hx rfl hd rfl gk) K
theorem Go.ixor (q : Nat) (X : Stand p l e R s m args below meth c T locs cells slots) (hx : p.tables.exec = Jvm.exec) {pc : Nat} {Ls : Array Slot} {x y : Int32} {St : List Value} (hd : decode c.code pc = .ok (.ixor, 1)) (hq : pc + 1 = q) (K : Go p e below F T (mkF m q Ls (.int (x ^^^ y) :: St))) : Go p e below F T (mkF m pc Ls (.int y :: .int x :: St)) := by
  subst hq
  exact Go.by (fun _ gk => XT.ixor X.here hx rfl hd rfl gk) K
theorem Go.ishl (q : Nat) (X : Stand p l e R s m args below meth c T locs cells slots) (hx : p.tables.exec = Jvm.exec) {pc : Nat} {Ls : Array Slot} {x y : Int32} {St : List Value} (hd : decode c.code pc = .ok (.ishl, 1)) (hq : pc + 1 = q) (K : Go p e below F T (mkF m q Ls (.int (x <<< (y &&& 31)) :: St))) : Go p e below F T (mkF m pc Ls (.int y :: .int x :: St)) := by
  subst hq
  exact Go.by (fun _ gk => XT.ishl X.here hx rfl hd rfl gk) K
theorem Go.ishr (q : Nat) (X : Stand p l e R s m args below meth c T locs cells slots) (hx : p.tables.exec = Jvm.exec) {pc : Nat} {Ls : Array Slot} {x y : Int32} {St : List Value} (hd : decode c.code pc = .ok (.ishr, 1)) (hq : pc + 1 = q) (K : Go p e below F T (mkF m q Ls (.int (x >>> (y &&& 31)) :: St))) : Go p e below F T (mkF m pc Ls (.int y :: .int x :: St)) := by
  subst hq
  exact Go.by (fun _ gk => XT.ishr X.here hx rfl hd rfl gk) K
theorem Go.iushr (q : Nat) (X : Stand p l e R s m args below meth c T locs cells slots) (hx : p.tables.exec = Jvm.exec) {pc : Nat} {Ls : Array Slot} {x y : Int32} {St : List Value} (hd : decode c.code pc = .ok (.iushr, 1)) (hq : pc + 1 = q) (K : Go p e below F T (mkF m q Ls (.int (XT.ushr x y) :: St))) : Go p e below F T (mkF m pc Ls (.int y :: .int x :: St)) := by
  subst hq
  exact Go.by (fun _ gk => XT.iushr X.here hx rfl hd rfl gk) K
theorem Go.ladd (q : Nat) (X : Stand p l e R s m args below meth c T locs cells slots) (hx : p.tables.exec = Jvm.exec) {pc : Nat} {Ls : Array Slot} {x y : Int64} {St : List Value} (hd : decode c.code pc = .ok (.ladd, 1)) (hq : pc + 1 = q) (K : Go p e below F T (mkF m q Ls (.long (x + y) :: St))) : Go p e below F T (mkF m pc Ls (.long y :: .long x :: St)) := by
  subst hq
  exact Go.by (fun _ gk => XT.ladd X.here hx rfl hd rfl gk) K
theorem Go.lsub (q : Nat) (X : Stand p l e R s m args below meth c T locs cells slots) (hx : p.tables.exec = Jvm.exec) {pc : Nat} {Ls : Array Slot} {x y : Int64} {St : List Value} (hd : decode c.code pc = .ok (.lsub, 1)) (hq : pc + 1 = q) (K : Go p e below F T (mkF m q Ls (.long (x - y) :: St))) : Go p e below F T (mkF m pc Ls (.long y :: .long x :: St)) := by
  subst hq
  exact Go.by (fun _ gk => XT.lsub X.here hx rfl hd rfl gk) K
theorem Go.lmul (q : Nat) (X : Stand p l e R s m args below meth c T locs cells slots) (hx : p.tables.exec = Jvm.exec) {pc : Nat} {Ls : Array Slot} {x y : Int64} {St : List Value} (hd : decode c.code pc = .ok (.lmul, 1)) (hq : pc + 1 = q) (K : Go p e below F T (mkF m q Ls (.long (x * y) :: St))) : Go p e below F T (mkF m pc Ls (.long y :: .long x :: St)) := by
  subst hq
  exact Go.by (fun _ gk => XT.lmul X.here hx rfl hd rfl gk) K
theorem Go.land (q : Nat) (X : Stand p l e R s m args below meth c T locs cells slots) (hx : p.tables.exec = Jvm.exec) {pc : Nat} {Ls : Array Slot} {x y : Int64} {St : List Value} (hd : decode c.code pc = .ok (.land, 1)) (hq : pc + 1 = q) (K : Go p e below F T (mkF m q Ls (.long (x &&& y) :: St))) : Go p e below F T (mkF m pc Ls (.long y :: .long x :: St)) := by
  subst hq
  exact Go.by (fun _ gk => XT.land X.here hx rfl hd rfl gk) K
theorem Go.lor (q : Nat) (X : Stand p l e R s m args below meth c T locs cells slots) (hx : p.tables.exec = Jvm.exec) {pc : Nat} {Ls : Array Slot} {x y : Int64} {St : List Value} (hd : decode c.code pc = .ok (.lor, 1)) (hq : pc + 1 = q) (K : Go p e below F T (mkF m q Ls (.long (x ||| y) :: St))) : Go p e below F T (mkF m pc Ls (.long y :: .long x :: St)) := by
  subst hq
  exact Go.by (fun _ gk => XT.lor X.here hx rfl hd rfl gk) K
theorem Go.lxor (q : Nat) (X : Stand p l e R s m args below meth c T locs cells slots) (hx : p.tables.exec = Jvm.exec) {pc : Nat} {Ls : Array Slot} {x y : Int64} {St : List Value} (hd : decode c.code pc = .ok (.lxor, 1)) (hq : pc + 1 = q) (K : Go p e below F T (mkF m q Ls (.long (x ^^^ y) :: St))) : Go p e below F T (mkF m pc Ls (.long y :: .long x :: St)) := by
  subst hq
  exact Go.by (fun _ gk => XT.lxor X.here hx rfl hd rfl gk) K
theorem Go.lshl (q : Nat) (X : Stand p l e R s m args below meth c T locs cells slots) (hx : p.tables.exec = Jvm.exec) {pc : Nat} {Ls : Array Slot} {x : Int64} {y : Int32} {St : List Value} (hd : decode c.code pc = .ok (.lshl, 1)) (hq : pc + 1 = q) (K : Go p e below F T (mkF m q Ls (.long (x <<< (y.toInt64 &&& 63)) :: St))) : Go p e below F T (mkF m pc Ls (.int y :: .long x :: St)) := by
  subst hq
  exact Go.by (fun _ gk => XT.lshl X.here hx rfl hd rfl gk) K
theorem Go.lshr (q : Nat) (X : Stand p l e R s m args below meth c T locs cells slots) (hx : p.tables.exec = Jvm.exec) {pc : Nat} {Ls : Array Slot} {x : Int64} {y : Int32} {St : List Value} (hd : decode c.code pc = .ok (.lshr, 1)) (hq : pc + 1 = q) (K : Go p e below F T (mkF m q Ls (.long (x >>> (y.toInt64 &&& 63)) :: St))) : Go p e below F T (mkF m pc Ls (.int y :: .long x :: St)) := by
  subst hq
  exact Go.by (fun _ gk => XT.lshr X.here hx rfl hd rfl gk) K
theorem Go.lushr (q : Nat) (X : Stand p l e R s m args below meth c T locs cells slots) (hx : p.tables.exec = Jvm.exec) {pc : Nat} {Ls : Array Slot} {x : Int64} {y : Int32} {St : List Value} (hd : decode c.code pc = .ok (.lushr, 1)) (hq : pc + 1 = q) (K : Go p e below F T (mkF m q Ls (.long (XT.ushrL x y) :: St))) : Go p e below F T (mkF m pc Ls (.int y :: .long x :: St)) := by
  subst hq
  exact Go.by (fun _ gk => XT.lushr X.here hx rfl hd rfl gk) K
theorem Go.idiv (q : Nat) (X : Stand p l e R s m args below meth c T locs cells slots) (hx : p.tables.exec = Jvm.exec) {pc : Nat} {Ls : Array Slot} {x y : Int32} {St : List Value} (hd : decode c.code pc = .ok (.idiv, 1)) (hy : y ≠ 0) (hq : pc + 1 = q) (K : Go p e below F T (mkF m q Ls (.int (x / y) :: St))) : Go p e below F T (mkF m pc Ls (.int y :: .int x :: St)) := by
  subst hq
  exact Go.by (fun _ gk => XS.idiv X.here hx rfl hd rfl hy gk) K
theorem Go.irem (q : Nat) (X : Stand p l e R s m args below meth c T locs cells slots) (hx : p.tables.exec = Jvm.exec) {pc : Nat} {Ls : Array Slot} {x y : Int32} {St : List Value} (hd : decode c.code pc = .ok (.irem, 1)) (hy : y ≠ 0) (hq : pc + 1 = q) (K : Go p e below F T (mkF m q Ls (.int (x - (x / y) * y) :: St))) : Go p e below F T (mkF m pc Ls (.int y :: .int x :: St)) := by
  subst hq
  exact Go.by (fun _ gk => XS.irem X.here hx rfl hd rfl hy gk) K
theorem Go.ldiv (q : Nat) (X : Stand p l e R s m args below meth c T locs cells slots) (hx : p.tables.exec = Jvm.exec) {pc : Nat} {Ls : Array Slot} {x y : Int64} {St : List Value} (hd : decode c.code pc = .ok (.ldiv, 1)) (hy : y ≠ 0) (hq : pc + 1 = q) (K : Go p e below F T (mkF m q Ls (.long (x / y) :: St))) : Go p e below F T (mkF m pc Ls (.long y :: .long x :: St)) := by
  subst hq
  exact Go.by (fun _ gk => XT.ldiv X.here hx rfl hd rfl hy gk) K
theorem Go.lrem (q : Nat) (X : Stand p l e R s m args below meth c T locs cells slots) (hx : p.tables.exec = Jvm.exec) {pc : Nat} {Ls : Array Slot} {x y : Int64} {St : List Value} (hd : decode c.code pc = .ok (.lrem, 1)) (hy : y ≠ 0) (hq : pc + 1 = q) (K : Go p e below F T (mkF m q Ls (.long (x - (x / y) * y) :: St))) : Go p e below F T (mkF m pc Ls (.long y :: .long x :: St)) := by
  subst hq
  exact Go.by (fun _ gk => XT.lrem X.here hx rfl hd rfl hy gk) K
theorem Go.ineg (q : Nat) (X : Stand p l e R s m args below meth c T locs cells slots) (hx : p.tables.exec = Jvm.exec) {pc : Nat} {Ls : Array Slot} {x : Int32} {St : List Value} (hd : decode c.code pc = .ok (.ineg, 1)) (hq : pc + 1 = q) (K : Go p e below F T (mkF m q Ls (.int (-x) :: St))) : Go p e below F T (mkF m pc Ls (.int x :: St)) := by
  subst hq
  exact Go.by (fun _ gk => XS.ineg X.here hx rfl hd rfl gk) K
theorem Go.lneg (q : Nat) (X : Stand p l e R s m args below meth c T locs cells slots) (hx : p.tables.exec = Jvm.exec) {pc : Nat} {Ls : Array Slot} {x : Int64} {St : List Value} (hd : decode c.code pc = .ok (.lneg, 1)) (hq : pc + 1 = q) (K : Go p e below F T (mkF m q Ls (.long (-x) :: St))) : Go p e below F T (mkF m pc Ls (.long x :: St)) := by
  subst hq
  exact Go.by (fun _ gk => XT.lneg X.here hx rfl hd rfl gk) K
theorem Go.i2l (q : Nat) (X : Stand p l e R s m args below meth c T locs cells slots) (hx : p.tables.exec = Jvm.exec) {pc : Nat} {Ls : Array Slot} {x : Int32} {St : List Value} (hd : decode c.code pc = .ok (.i2l, 1)) (hq : pc + 1 = q) (K : Go p e below F T (mkF m q Ls (.long (x.toInt64) :: St))) : Go p e below F T (mkF m pc Ls (.int x :: St)) := by
  subst hq
  exact Go.by (fun _ gk => XT.i2l X.here hx rfl hd rfl gk) K
theorem Go.l2i (q : Nat) (X : Stand p l e R s m args below meth c T locs cells slots) (hx : p.tables.exec = Jvm.exec) {pc : Nat} {Ls : Array Slot} {x : Int64} {St : List Value} (hd : decode c.code pc = .ok (.l2i, 1)) (hq : pc + 1 = q) (K : Go p e below F T (mkF m q Ls (.int (x.toInt32) :: St))) : Go p e below F T (mkF m pc Ls (.long x :: St)) := by
  subst hq
  exact Go.by (fun _ gk => XT.l2i X.here hx rfl hd rfl gk) K
theorem Go.i2b (q : Nat) (X : Stand p l e R s m args below meth c T locs cells slots) (hx : p.tables.exec = Jvm.exec) {pc : Nat} {Ls : Array Slot} {x : Int32} {St : List Value} (hd : decode c.code pc = .ok (.i2b, 1)) (hq : pc + 1 = q) (K : Go p e below F T (mkF m q Ls (.int (x.toInt8.toInt32) :: St))) : Go p e below F T (mkF m pc Ls (.int x :: St)) := by
  subst hq
  exact Go.by (fun _ gk => XT.i2b X.here hx rfl hd rfl gk) K
theorem Go.i2s (q : Nat) (X : Stand p l e R s m args below meth c T locs cells slots) (hx : p.tables.exec = Jvm.exec) {pc : Nat} {Ls : Array Slot} {x : Int32} {St : List Value} (hd : decode c.code pc = .ok (.i2s, 1)) (hq : pc + 1 = q) (K : Go p e below F T (mkF m q Ls (.int (x.toInt16.toInt32) :: St))) : Go p e below F T (mkF m pc Ls (.int x :: St)) := by
  subst hq
  exact Go.by (fun _ gk => XT.i2s X.here hx rfl hd rfl gk) K
theorem Go.i2c (q : Nat) (X : Stand p l e R s m args below meth c T locs cells slots) (hx : p.tables.exec = Jvm.exec) {pc : Nat} {Ls : Array Slot} {x : Int32} {St : List Value} (hd : decode c.code pc = .ok (.i2c, 1)) (hq : pc + 1 = q) (K : Go p e below F T (mkF m q Ls (.int (x.toUInt32.toUInt16.toUInt32.toInt32) :: St))) : Go p e below F T (mkF m pc Ls (.int x :: St)) := by
  subst hq
  exact Go.by (fun _ gk => XT.i2c X.here hx rfl hd rfl gk) K
theorem Go.lcmp (q : Nat) (X : Stand p l e R s m args below meth c T locs cells slots) (hx : p.tables.exec = Jvm.exec) {pc : Nat} {Ls : Array Slot} {x y : Int64} {St : List Value} (hd : decode c.code pc = .ok (.lcmp, 1)) (hq : pc + 1 = q) (K : Go p e below F T (mkF m q Ls (.int (XT.cmpL x y) :: St))) : Go p e below F T (mkF m pc Ls (.long y :: .long x :: St)) := by
  subst hq
  exact Go.by (fun _ gk => XT.lcmp X.here hx rfl hd rfl gk) K
theorem Go.dup (q : Nat) (X : Stand p l e R s m args below meth c T locs cells slots) (hx : p.tables.exec = Jvm.exec) {pc : Nat} {Ls : Array Slot} {x : Value} {St : List Value} (hd : decode c.code pc = .ok (.dup, 1)) (hc : x.category = 1) (hq : pc + 1 = q) (K : Go p e below F T (mkF m q Ls (x :: x :: St))) : Go p e below F T (mkF m pc Ls (x :: St)) := by
  subst hq
  exact Go.by (fun _ gk => XS.dup X.here hx rfl hd rfl hc gk) K
theorem Go.pop (q : Nat) (X : Stand p l e R s m args below meth c T locs cells slots) (hx : p.tables.exec = Jvm.exec) {pc : Nat} {Ls : Array Slot} {x : Value} {St : List Value} (hd : decode c.code pc = .ok (.pop, 1)) (hc : x.category = 1) (hq : pc + 1 = q) (K : Go p e below F T (mkF m q Ls St)) : Go p e below F T (mkF m pc Ls (x :: St)) := by
  subst hq
  exact Go.by (fun _ gk => XT.pop X.here hx rfl hd rfl hc gk) K
theorem Go.dup_x1 (q : Nat) (X : Stand p l e R s m args below meth c T locs cells slots) (hx : p.tables.exec = Jvm.exec) {pc : Nat} {Ls : Array Slot} {x y : Value} {St : List Value} (hd : decode c.code pc = .ok (.dup_x1, 1)) (hc : x.category = 1) (hc' : y.category = 1) (hq : pc + 1 = q) (K : Go p e below F T (mkF m q Ls (x :: y :: x :: St))) : Go p e below F T (mkF m pc Ls (x :: y :: St)) := by
  subst hq
  exact Go.by (fun _ gk => XT.dupX1 X.here hx rfl hd rfl hc hc' gk) K
theorem Go.dup2 (q : Nat) (X : Stand p l e R s m args below meth c T locs cells slots) (hx : p.tables.exec = Jvm.exec) {pc : Nat} {Ls : Array Slot} {x y : Value} {St : List Value} (hd : decode c.code pc = .ok (.dup2, 1)) (hc : x.category = 1) (hc' : y.category = 1) (hq : pc + 1 = q) (K : Go p e below F T (mkF m q Ls (x :: y :: x :: y :: St))) : Go p e below F T (mkF m pc Ls (x :: y :: St)) := by
  subst hq
  exact Go.by (fun _ gk => XT.dup2 X.here hx rfl hd rfl hc hc' gk) K
theorem Go.dup2L (q : Nat) (X : Stand p l e R s m args below meth c T locs cells slots) (hx : p.tables.exec = Jvm.exec) {pc : Nat} {Ls : Array Slot} {x : Int64} {St : List Value} (hd : decode c.code pc = .ok (.dup2, 1)) (hq : pc + 1 = q) (K : Go p e below F T (mkF m q Ls (.long x :: .long x :: St))) : Go p e below F T (mkF m pc Ls (.long x :: St)) := by
  subst hq
  exact Go.by (fun _ gk => XT.dup2L X.here hx rfl hd rfl gk) K
theorem Go.iinc (q : Nat) (X : Stand p l e R s m args below meth c T locs cells slots) (hx : p.tables.exec = Jvm.exec) {pc : Nat} {Ls : Array Slot} {k : Nat} {cst : Int} {x : Int32} (v : Int32) {St : List Value} {L' : Array Slot} (hd : decode c.code pc = .ok (.iinc k cst, 3)) (hv : Int32.ofInt cst = v) (hl : Ls[k]? = some (.val (.int x))) (hl' : storeLocals Ls k (.int (x + v)) = some L') (hq : pc + 3 = q) (K : Go p e below F T (mkF m q L' St)) : Go p e below F T (mkF m pc Ls St) := by
  subst hq
  exact Go.by (fun _ gk => XT.iincV X.here hx rfl v hd hv hl hl' gk) K
theorem Go.goto (q : Nat) (X : Stand p l e R s m args below meth c T locs cells slots) (hx : p.tables.exec = Jvm.exec) {pc : Nat} {Ls : Array Slot} {o : Int} {St : List Value} (hd : decode c.code pc = .ok (.goto o, 3)) (ho : 0 ≤ (pc : Int) + o) (hq : ((pc : Int) + o).toNat = q) (K : Go p e below F T (mkF m q Ls St)) : Go p e below F T (mkF m pc Ls St) :=
  Go.by (fun _ gk => XS.goto X.here hx rfl rfl hd ho hq gk) K
theorem Go.ifY (q : Nat) (X : Stand p l e R s m args below meth c T locs cells slots) (hx : p.tables.exec = Jvm.exec) {pc : Nat} {Ls : Array Slot} {cd : ClassFile.Cond} {x : Int32} {o : Int} {St : List Value} (hd : decode c.code pc = .ok (.ifCond cd o, 3)) (hc : ifCond.holds cd x = true) (ho : 0 ≤ (pc : Int) + o) (hq : ((pc : Int) + o).toNat = q) (K : Go p e below F T (mkF m q Ls St)) : Go p e below F T (mkF m pc Ls (.int x :: St)) :=
  Go.by (fun _ gk => XS.ifYes X.here hx rfl rfl hd rfl hc ho hq gk) K
theorem Go.ifN (q : Nat) (X : Stand p l e R s m args below meth c T locs cells slots) (hx : p.tables.exec = Jvm.exec) {pc : Nat} {Ls : Array Slot} {cd : ClassFile.Cond} {x : Int32} {o : Int} {St : List Value} (hd : decode c.code pc = .ok (.ifCond cd o, 3)) (hc : ifCond.holds cd x = false) (hq : pc + 3 = q) (K : Go p e below F T (mkF m q Ls St)) : Go p e below F T (mkF m pc Ls (.int x :: St)) := by
  subst hq
  exact Go.by (fun _ gk => XS.ifNo X.here hx rfl hd rfl hc gk) K
theorem Go.icmpY (q : Nat) (X : Stand p l e R s m args below meth c T locs cells slots) (hx : p.tables.exec = Jvm.exec) {pc : Nat} {Ls : Array Slot} {cd : ClassFile.Cond} {x y : Int32} {o : Int} {St : List Value} (hd : decode c.code pc = .ok (.if_icmp cd o, 3)) (hc : if_icmp.holds cd x y = true) (ho : 0 ≤ (pc : Int) + o) (hq : ((pc : Int) + o).toNat = q) (K : Go p e below F T (mkF m q Ls St)) : Go p e below F T (mkF m pc Ls (.int y :: .int x :: St)) :=
  Go.by (fun _ gk => XS.icmpYes X.here hx rfl rfl hd rfl hc ho hq gk) K
theorem Go.icmpN (q : Nat) (X : Stand p l e R s m args below meth c T locs cells slots) (hx : p.tables.exec = Jvm.exec) {pc : Nat} {Ls : Array Slot} {cd : ClassFile.Cond} {x y : Int32} {o : Int} {St : List Value} (hd : decode c.code pc = .ok (.if_icmp cd o, 3)) (hc : if_icmp.holds cd x y = false) (hq : pc + 3 = q) (K : Go p e below F T (mkF m q Ls St)) : Go p e below F T (mkF m pc Ls (.int y :: .int x :: St)) := by
  subst hq
  exact Go.by (fun _ gk => XS.icmpNo X.here hx rfl hd rfl hc gk) K
end OwnSteps
section OwnWide
variable {p : Program} {l : Launch} {e : Env} {R : Room} {s : State} {m : MethodId} {args : Array Value} {below : List Frame} {meth : Method} {c : Code} {T T' : State} {locs : List Loc} {cells slots : Nat} {Q : Option Value → Heap → List Loc → Prop} {C S n : Nat} {Z : State} {a0 : Array Value} {EL : List (String × Nat)} {vm : Vm} {h : Heap}
/-- it returned, Q holds, the held literals go on, and nothing else has moved than L, so many new cells and slots, and literals interned -/
abbrev EndW (Z : State) (EL : List (String × Nat)) (s : State) (Q : Option Value → Heap → List Loc → Prop) (C S : Nat) (o : Outcome) (t : State) : Prop := ∃ v L, o = .returned v ∧ Q v t.heap L ∧ CHr Z EL s.vm s.heap t.vm t.heap ∧ ReturnedEndW s o t L C S
theorem Go.retW (X : Stand p l e R (s.setVm vm) m args below meth c T locs cells slots) (hx : p.tables.exec = Jvm.exec) (hlocks : meth.locks = false) (hS : s.Since vm n) (hk : n ≤ T.heap.size) (hZ : Z.Warmed39 vm) (hEL : EW Z a0 EL) (hCH : CHr Z EL s.vm s.heap vm T.heap) {pc : Nat} {Ls : Array Slot} {w : Value} {t : FieldType} {i : Instr} {rest : List Value}
    (hret : meth.sig.returnType = some t) (hn : narrow t w = w) (hi : own_retKind i t w) (hd : decode c.code pc = .ok (i, 1)) (hq : Q (some w) T.heap locs) (hc : cells ≤ C) (hs : slots ≤ S) : Go p e below (EndW Z EL s Q C S) T (mkF m pc Ls (w :: rest)) := by
  obtain ⟨fs, hr, hrun, hended, h1, h2, h3, h4⟩ := X.leaveW hS hk (v := some w) (fun h => by rw [hret] at h; cases h) hlocks
  have hA : CHr Z EL s.vm s.heap T.vm T.heap := hCH.trans (CHv.at X hZ hEL hCH.1)
  exact ⟨_, _, retOut X hx hret hn hi hd hr, hrun, hended, _, _, rfl, hq, hA, h1, h2, h3, h4.mono hc hs⟩
theorem Go.retIW (X : Stand p l e R (s.setVm vm) m args below meth c T locs cells slots) (hx : p.tables.exec = Jvm.exec) (hlocks : meth.locks = false) (hS : s.Since vm n) (hk : n ≤ T.heap.size) (hZ : Z.Warmed39 vm) (hEL : EW Z a0 EL) (hCH : CHr Z EL s.vm s.heap vm T.heap) {pc : Nat} {Ls : Array Slot} {w : Int32} {t : FieldType} {rest : List Value}
    (hret : meth.sig.returnType = some t) (hn : narrow t (.int w) = .int w) (ht : t = .int ∨ t = .boolean ∨ t = .byte ∨ t = .char ∨ t = .short) (hd : decode c.code pc = .ok (.ireturn, 1)) (hq : Q (some (.int w)) T.heap locs) (hc : cells ≤ C) (hs : slots ≤ S) : Go p e below (EndW Z EL s Q C S) T (mkF m pc Ls (.int w :: rest)) :=
  Go.retW X hx hlocks hS hk hZ hEL hCH hret hn (Or.inl ⟨rfl, ht, _, rfl⟩) hd hq hc hs
theorem Go.retAW (X : Stand p l e R (s.setVm vm) m args below meth c T locs cells slots) (hx : p.tables.exec = Jvm.exec) (hlocks : meth.locks = false) (hS : s.Since vm n) (hk : n ≤ T.heap.size) (hZ : Z.Warmed39 vm) (hEL : EW Z a0 EL) (hCH : CHr Z EL s.vm s.heap vm T.heap) {pc : Nat} {Ls : Array Slot} {w : Value} {t : FieldType} {rest : List Value}
    (hret : meth.sig.returnType = some t) (ht : t.isReference = true) (hw : w.isRef = true) (hd : decode c.code pc = .ok (.areturn, 1)) (hq : Q (some w) T.heap locs) (hc : cells ≤ C) (hs : slots ≤ S) : Go p e below (EndW Z EL s Q C S) T (mkF m pc Ls (w :: rest)) :=
  Go.retW X hx hlocks hS hk hZ hEL hCH hret (own_narR t ht hw) (Or.inr (Or.inr (Or.inr (Or.inr ⟨rfl, ht, hw⟩)))) hd hq hc hs
theorem Go.retVW (X : Stand p l e R (s.setVm vm) m args below meth c T locs cells slots) (hx : p.tables.exec = Jvm.exec) (hlocks : meth.locks = false) (hS : s.Since vm n) (hk : n ≤ T.heap.size) (hZ : Z.Warmed39 vm) (hEL : EW Z a0 EL) (hCH : CHr Z EL s.vm s.heap vm T.heap) {pc : Nat} {Ls : Array Slot}
    (hret : meth.sig.returnType = none) (hd : decode c.code pc = .ok (.return_, 1)) (hq : Q none T.heap locs) (hc : cells ≤ C) (hs : slots ≤ S) : Go p e below (EndW Z EL s Q C S) T (mkF m pc Ls []) := by
  obtain ⟨fs, hr, hrun, hended, h1, h2, h3, h4⟩ := X.leaveW hS hk (v := none) (fun _ => rfl) hlocks
  have hA : CHr Z EL s.vm s.heap T.vm T.heap := hCH.trans (CHv.at X hZ hEL hCH.1)
  exact ⟨_, _, X.returnOut hx hret hd hr, hrun, hended, _, _, rfl, hq, hA, h1, h2, h3, h4.mono hc hs⟩
end OwnWide
open Jvm.Free.SB Jvm.Free.SBG in
/-- a String whose value is still null is no held literal -/
theorem own_safe {Z : State} {vm : Vm} {EL : List (String × Nat)} {h : Heap} {x : Addr} (hal : Z.vm.Alike vm) (E : Exa Z h x "java/lang/String") (F : Fld Z h x "java/lang/String" "value" "[B" .null) : Safe Z EL vm h x := fun B => by
  obtain ⟨p, -, u, a, -, q, -, G, rfl | rfl⟩ := B
  · obtain ⟨cell, cf, k, i, f, h1, h2, h3, h4, h5, h6, h7⟩ := F
    cases (show h[q.sa]? = some q.sC from G.ha).symm.trans h1
    obtain ⟨cS, ⟨⟨s1, s2, s3, ⟨cv, kv, iv, s4, s4'⟩, -, s6, s7, s8, -⟩, -, -⟩, -⟩ := G
    obtain ⟨kv', z4⟩ := ff_back (Z := Z) (U := Wst Z vm h) hal s4
    cases h2.symm.trans z4
    cases h7.symm.trans s8
  · obtain ⟨cell, k, e1, e2, e3, -, -⟩ := E
    cases (show h[q.sd]? = some q.SA from G.hd).symm.trans e1
    obtain ⟨cS, -, -, f, -⟩ := G
    have f' : Z.vm.findClass "[B" = some q.SA.cls := by rw [← hal.findClass]; exact f
    exact ids_ne e2 f' (by decide) rfl

abbrev own_EL : List (String × Nat) := []
theorem own_EW {Z : State} {a0 : Array Value} (hw : ∀ d ∈ tables_1, d.before a0 Z = true) : EW Z a0 own_EL := EW.nil
theorem own_SA {Z : State} {a0 : Array Value} (hw : ∀ d ∈ tables_1, d.before a0 Z = true) : ∀ a ∈ Bundle.stringAtoms, a.before a0 Z = true := fun d hd => hw d ((by decide +kernel : ∀ d ∈ Bundle.stringAtoms, d ∈ tables_1) d hd)
theorem own_masked (x : Int32) : ¬ (x &&& 2147483647) < 0 := by
  have h := (c_and x (2147483647 : Int32) (by decide)).1
  rw [XT.negI32]
  omega
theorem own_irem (x y : Int32) : x - x / y * y = x % y := irem_eq_mod x y
theorem own_rem {x d k : Int32} (n : Nat) (hx : ¬ x < 0) (hd : d.toInt = n) (hn : 0 < n) (hk : k = x - x / d * d) : ∃ j : Nat, j < n ∧ k = Int32.ofNat j := by
  rw [own_irem] at hk
  rw [XT.negI32] at hx
  have h1 := (c_irem x d n hd).1 (by omega)
  have h2 := Int.emod_nonneg x.toInt (b := (n : Int)) (by omega)
  have h3 := Int.emod_lt_of_pos x.toInt (b := (n : Int)) (by omega)
  refine ⟨k.toInt.toNat, by rw [hk, h1]; omega, ?_⟩
  apply Int32.toInt_inj.mp
  have h4 := rng32 k
  rw [← hk] at h1
  rw [Int32.toInt_ofNat_of_lt (by omega)]
  omega

/-- a char's low byte, signed -/
def own_b (c : Int32) : Int32 := c.toInt8.toInt32
theorem own_bn (c : Int32) : nar .byte c.toInt8.toInt32 = own_b c := by
  show c.toInt8.toInt32.toInt8.toInt32 = c.toInt8.toInt32
  simp
theorem own_b_inj {c d : Int32} (h1 : ¬ c < 0) (h2 : ¬ (255 : Int32) < c) (h3 : ¬ d < 0) (h4 : ¬ (255 : Int32) < d) (h : own_b c = own_b d) : c = d := by
  have e1 := c_i2b c
  have e2 := c_i2b d
  have e3 : c.toInt8.toInt32.toInt = d.toInt8.toInt32.toInt := congrArg Int32.toInt h
  rw [Int32.lt_iff_toInt_lt] at h1 h2 h3 h4
  simp at h1 h2 h3 h4
  apply Int32.toInt_inj.mp
  omega
theorem own_nc (x : Int32) : nar .char (x &&& 255) = x &&& 255 := i2c_mask x
theorem own_255 (x : Int32) : ¬ (255 : Int32) < x &&& 255 := by
  have h := c_and x (255 : Int32) (by decide)
  rw [Int32.lt_iff_toInt_lt]
  have : (255 : Int32).toInt = 255 := by decide
  omega
theorem own_0 (x : Int32) : ¬ (x &&& 255) < 0 := by
  have h := c_and x (255 : Int32) (by decide)
  rw [XT.negI32]
  omega

def own_lo (c : Int32) : Int32 := nar .byte (c >>> ((0 : Int32) &&& 31)).toInt8.toInt32
def own_hi (c : Int32) : Int32 := nar .byte (c >>> ((8 : Int32) &&& 31)).toInt8.toInt32
theorem own_narc {c x : Int32} (h : c = x.toUInt32.toUInt16.toUInt32.toInt32) : nar .char c = c := by
  subst h
  show (x.toUInt32.toUInt16.toUInt32.toInt32).toUInt32.toUInt16.toUInt32.toInt32 = _
  have h1 := c_i2c x
  have h2 := c_i2c x.toUInt32.toUInt16.toUInt32.toInt32
  apply Int32.toInt_inj.mp
  omega
theorem own_u16 {c : Int32} (h : nar .char c = c) : ((((own_lo c) &&& (255 : Int32)) <<< ((0 : Int32) &&& 31)) ||| (((own_hi c) &&& (255 : Int32)) <<< ((8 : Int32) &&& 31))).toUInt32.toUInt16.toUInt32.toInt32 = c := by
  have hc : 0 ≤ c.toInt ∧ c.toInt < 65536 := by
    have q := c_i2c c
    rw [show c.toUInt32.toUInt16.toUInt32.toInt32 = c from h] at q
    exact ⟨q.2.1, q.2.2⟩
  have e1 : (own_lo c &&& (255 : Int32)).toInt = c.toInt % 256 := by
    have m := c_mask (own_lo c) 255 8 (by decide) (by decide)
    have b := c_i2b (c >>> ((0 : Int32) &&& 31)).toInt8.toInt32
    have b2 := c_i2b (c >>> ((0 : Int32) &&& 31))
    have s := c_ishr c 0 0 (by decide)
    have d : (own_lo c).toInt = (c >>> ((0 : Int32) &&& 31)).toInt8.toInt32.toInt8.toInt32.toInt := rfl
    rw [m, d]
    simp only [Nat.reducePow] at s ⊢
    omega
  have e2 : (own_hi c &&& (255 : Int32)).toInt = c.toInt / 256 := by
    have m := c_mask (own_hi c) 255 8 (by decide) (by decide)
    have b := c_i2b (c >>> ((8 : Int32) &&& 31)).toInt8.toInt32
    have b2 := c_i2b (c >>> ((8 : Int32) &&& 31))
    have s := c_ishr c 8 8 (by decide)
    have d : (own_hi c).toInt = (c >>> ((8 : Int32) &&& 31)).toInt8.toInt32.toInt8.toInt32.toInt := rfl
    rw [m, d]
    simp only [Nat.reducePow] at s ⊢
    omega
  generalize own_lo c &&& (255 : Int32) = x at *
  generalize own_hi c &&& (255 : Int32) = y at *
  have s1 := c_ishl x 0 0 (by decide)
  have s2 := c_ishl y 8 8 (by decide)
  have r1 := rng32 (x <<< ((0 : Int32) &&& 31))
  have r2 := rng32 (y <<< ((8 : Int32) &&& 31))
  simp only [Nat.reducePow] at s1 s2
  generalize x <<< ((0 : Int32) &&& 31) = u at *
  generalize y <<< ((8 : Int32) &&& 31) = w at *
  have o := c_or' u w 8 (by decide) 256 (by decide) (by omega) (by omega) (by omega)
  have r3 := rng32 (u ||| w)
  have q := c_i2c (u ||| w)
  apply Int32.toInt_inj.mp
  omega
theorem own_retc {c : Int32} (h : nar .char c = c) : narrow .char (.int c) = .int c := congrArg Value.int h

theorem pn_1 : plainName "java/lang/StringUTF16" = true := by first | (simp [plainName, overriddenIn]; done) | decide +kernel
theorem ef_2 (m : MethodId) (x0 : Int32) : entryFrame m #[(.int x0)] 1 = mkF m 0 #[iv x0] [] := by (first | (simp [entryFrame, mkF, argsToLocals, Value.category]; done) | rfl)
theorem d14_0 : decode jdk_52_method_3_code 0 = .ok (.iload_n 0, 1) := by decide +kernel
theorem d14_1 : decode jdk_52_method_3_code 1 = .ok (.ifCond .ge 11, 3) := by decide +kernel
theorem d14_12 : decode jdk_52_method_3_code 12 = .ok (.iload_n 0, 1) := by decide +kernel
theorem d14_13 : decode jdk_52_method_3_code 13 = .ok (.ldc 20, 2) := by decide +kernel
theorem d14_15 : decode jdk_52_method_3_code 15 = .ok (.if_icmp .lt 40, 3) := by decide +kernel
theorem d14_55 : decode jdk_52_method_3_code 55 = .ok (.iload_n 0, 1) := by decide +kernel
theorem d14_56 : decode jdk_52_method_3_code 56 = .ok (.iconst 1, 1) := by decide +kernel
theorem d14_57 : decode jdk_52_method_3_code 57 = .ok (.ishl, 1) := by decide +kernel
theorem d14_58 : decode jdk_52_method_3_code 58 = .ok (.ireturn, 1) := by decide +kernel
def Q_rmNbl1 (Z : State)  (h0 : Heap) (n0 : Nat) (v : Option Value) (h : Heap) (L : List Loc) : Prop := v = some (.int 2) ∧ Fr n0 L ∧ h = h0
set_option maxRecDepth 65536 in
set_option maxHeartbeats 40000000 in
theorem rmNbl1 (l : Launch) (Z : State) (a0 : Array Value) (hw : ∀ d ∈ tables_1, d.before a0 Z = true) (ws : List Jvm.Cond)  (h0 : Heap) (n0 : Nat) (Z0 : n0 ≤ h0.size)  :
    MetFree l (⟨"java/lang/StringUTF16", "newBytesLength", "(I)I"⟩ : MethodName) (head1 (Jvm.Cond.code (⟨"java/lang/StringUTF16", "newBytesLength", "(I)I"⟩ : MethodName) jdk_52_method_3_code 1 (some .int) :: ws) ({ frames := 0, cells := 0, slots := 0, locals := 0 } : Room)) (fun as' U => as' = #[(.int 1)] ∧ Z.Warmed39 U.vm ∧ U.heap = h0) (fun _ _ _ _ _ => True) (fun _ U o U' => ∃ v L, o = .returned v ∧ Q_rmNbl1 Z  h0 n0 v U'.heap L ∧ FrameEnd U o U' L ({ frames := 0, cells := 0, slots := 0, locals := 0 } : Room).cells ({ frames := 0, cells := 0, slots := 0, locals := 0 } : Room).slots) := by
  refine MetFree.of_bodySF (plainFor_of_name pn_1) hisR ?_
  intro p e s m args below meth c s₁ Bd hml0 hP hK
  obtain ⟨rfl, hZ, hh⟩ := hP
  have hx := Bd.exec
  have hby := Bd.bytes
  have hml : c.maxLocals = 1 := hml0
  have hown : s.vm.findClass "java/lang/StringUTF16" = some m.cls := findClass_of_methodNamed Bd.named
  have hnm := (name_of_methodNamed Bd.named Bd.method).1
  have X0 : Stand p l e ({ frames := 0, cells := 0, slots := 0, locals := 0 } : Room) s m #[(.int 1)] below meth c s₁ [] 0 0 := Stand.of_body Bd
  have e0 : s₁.heap = h0 := by rw [← hh, Bd.state]; rfl
  have N0 := Fr.nil n0
  refine Go.enter (F := EndN s (Q_rmNbl1 Z  h0 n0) ({ frames := 0, cells := 0, slots := 0, locals := 0 } : Room).cells ({ frames := 0, cells := 0, slots := 0, locals := 0 } : Room).slots) (ef_2 m (1 : Int32)) ?_
  show Go _ _ _ _ s₁ (mkF m 0 #[iv 1] [])
  refine Go.iload1 1 X0 hx (hb hby d14_0) rfl rfl ?_
  refine Go.ifY 12 X0 hx (hb hby d14_1) (XT.i0_ge_t (by decide)) (by decide) (by decide) ?_
  refine Go.iload1 13 X0 hx (hb hby d14_12) rfl rfl ?_
  refine Go.by (fun _ gk => X0.ldcI hx hown (mvT hZ (ow hw 67 rfl)) (g := (mkF m 13 #[iv 1] [(.int 1)])) rfl (hb hby d14_13) gk) ?_
  show Go _ _ _ _ s₁ (mkF m 15 #[iv 1] [(.int 1073741823), (.int 1)])
  refine Go.icmpY 55 X0 hx (hb hby d14_15) (XT.ii_lt_t (by decide)) (by decide) (by decide) ?_
  refine Go.iload1 56 X0 hx (hb hby d14_55) rfl rfl ?_
  refine Go.iconst 57 X0 hx (1 : Int32) (hb hby d14_56) (by decide) rfl ?_
  refine Go.ishl 58 X0 hx (hb hby d14_57) rfl ?_
  rw [(by decide : ((1 : Int32) <<< ((1 : Int32) &&& 31)) = (2 : Int32))]
  exact Go.retI X0 hx Bd.notSynchronized Bd.returns rfl (by simp) (hb hby d14_58) (by rw [e0]; exact ⟨rfl, N0, rfl⟩) (by decide) (by decide)
theorem d13_0 : decode jdk_52_method_2_code 0 = .ok (.iload_n 0, 1) := by decide +kernel
theorem pd_13 : parseMethodDescriptor "(I)I" = some ⟨[.int], some .int⟩ := by decide +kernel
theorem d13_1 : decode jdk_52_method_2_code 1 = .ok (.invokestatic 11, 3) := by decide +kernel
theorem d13_4 : decode jdk_52_method_2_code 4 = .ok (.newarray .byte, 2) := by decide +kernel
theorem d13_6 : decode jdk_52_method_2_code 6 = .ok (.areturn, 1) := by decide +kernel
def Q_rmNbf1 (Z : State)  (h0 : Heap) (n0 : Nat) (v : Option Value) (h : Heap) (L : List Loc) : Prop := ∃ tb : Addr, ∃ kt : ClassId, v = some (.ref tb) ∧ Fr n0 L ∧ Keep h0 h [] ∧ Arv Z h tb kt .byte (2 : Int32) ([(.int 0), (.int 0)]) (.int 0) ∧ h0.size ≤ tb
set_option maxRecDepth 65536 in
set_option maxHeartbeats 40000000 in
theorem rmNbf1 (l : Launch) (Z : State) (a0 : Array Value) (hw : ∀ d ∈ tables_1, d.before a0 Z = true) (ws : List Jvm.Cond)  (h0 : Heap) (n0 : Nat) (Z0 : n0 ≤ h0.size)  :
    MetFree l (⟨"java/lang/StringUTF16", "newBytesFor", "(I)[B"⟩ : MethodName) (head1 (Jvm.Cond.code (⟨"java/lang/StringUTF16", "newBytesFor", "(I)[B"⟩ : MethodName) jdk_52_method_2_code 1 (some (.array .byte)) :: ws) ({ frames := 1, cells := 1, slots := 2, locals := 12 } : Room)) (fun as' U => as' = #[(.int 1)] ∧ Z.Warmed39 U.vm ∧ U.heap = h0) (fun _ _ _ _ _ => True) (fun _ U o U' => ∃ v L, o = .returned v ∧ Q_rmNbf1 Z  h0 n0 v U'.heap L ∧ FrameEnd U o U' L ({ frames := 1, cells := 1, slots := 2, locals := 12 } : Room).cells ({ frames := 1, cells := 1, slots := 2, locals := 12 } : Room).slots) := by
  refine MetFree.of_bodySF (plainFor_of_name pn_1) hisR ?_
  intro p e s m args below meth c s₁ Bd hml0 hP hK
  obtain ⟨rfl, hZ, hh⟩ := hP
  have hx := Bd.exec
  have hby := Bd.bytes
  have hml : c.maxLocals = 1 := hml0
  have hown : s.vm.findClass "java/lang/StringUTF16" = some m.cls := findClass_of_methodNamed Bd.named
  have hnm := (name_of_methodNamed Bd.named Bd.method).1
  have X0 : Stand p l e ({ frames := 1, cells := 1, slots := 2, locals := 12 } : Room) s m #[(.int 1)] below meth c s₁ [] 0 0 := Stand.of_body Bd
  have e0 : s₁.heap = h0 := by rw [← hh, Bd.state]; rfl
  have N0 := Fr.nil n0
  refine Go.enter (F := EndN s (Q_rmNbf1 Z  h0 n0) ({ frames := 1, cells := 1, slots := 2, locals := 12 } : Room).cells ({ frames := 1, cells := 1, slots := 2, locals := 12 } : Room).slots) (ef_2 m (1 : Int32)) ?_
  show Go _ _ _ _ s₁ (mkF m 0 #[iv 1] [])
  refine Go.iload1 1 X0 hx (hb hby d13_0) rfl rfl ?_
  obtain ⟨_, _, ⟨T1, L1, k1, n1⟩, -, X1, ⟨Lc1, hQ1, l1, y1, z1⟩, st1⟩ := Jvm.LawKit.callS X0 hx (y := (⟨"java/lang/StringUTF16", "newBytesLength", "(I)I"⟩ : MethodName)) hown (mvT hZ (ow hw 64 rfl)) (mvT hZ (ow hw 65 rfl)) (mvT hZ (ow hw 18 rfl)) (mvT hZ (ow hw 66 rfl)) (by decide) (backOf (W := 0) (rmNbl1 l Z a0 hw []  h0 n0 Z0 ) hZ (ow hw 66 rfl) (ow hw 18 rfl) (by decide) (by decide)) (g := (mkF m 1 #[iv 1] [(.int 1)])) rfl (by rw [hml]; rfl) (argsL := [(.int 1)]) (rest := []) (lenOf pd_13 rfl) rfl (by show 2 * 0 + _ ≤ _; exact Nat.le_of_eq rfl) (hb hby d13_1) (fun _ _ => ⟨rfl, e0, (by decide : 0 + 0 ≤ _), (by decide : 0 + 0 ≤ _)⟩)
  dsimp only [Pt.U, Pt.locs, Pt.cells, Pt.slots] at X1 l1 y1 z1 st1 hQ1
  subst l1 y1 z1
  obtain ⟨rfl, N1q, e1⟩ := hQ1
  have N1 := Fr.app N0 N1q
  refine Go.by st1 ?_
  show Go _ _ _ _ T1 (mkF m 4 #[iv 1] [(.int 2)])
  obtain ⟨tb, g2⟩ : ∃ z, z = h0.size := ⟨_, rfl⟩
  have ge_tb : n0 ≤ tb := Nat.le_trans Z0 (Nat.le_of_eq g2.symm)
  have sz_tb : h0.size ≤ tb := Nat.le_trans (Keep.refl h0 []).1 (Nat.le_of_eq g2.symm)
  obtain ⟨T2, h2, k2, X2, e2, E2, A2, Ea2, st2⟩ := newPE X1 hx hZ (ow hw 20 rfl) e1 (g := (mkF m 4 #[iv 1] [(.int 2)])) rfl (hb hby d13_4) rfl (by decide) (cap := 2) (by decide) (by decide) (by decide) (by decide) (ad := "[B") rfl
  rw [← g2] at A2 Ea2 st2
  have V_tb : Arv Z h2 tb k2 .byte (2 : Int32) [(.int 0), (.int 0)] (.int 0) := (Arv.new A2 (by decide)).pad (pad_rep [] (.int 0) 2)
  refine Go.by st2 ?_
  show Go _ _ _ _ T2 (mkF m 6 #[iv 1] [(.ref tb)])
  have F3 : Keep h0 h2 [] := (Keep.refl h0 []).ext E2
  exact Go.retA X2 hx Bd.notSynchronized Bd.returns rfl rfl (hb hby d13_6) (by rw [e2]; exact ⟨tb, k2, rfl, N1, F3, V_tb, sz_tb⟩) (by decide) (by decide)
theorem ef_17 (m : MethodId) (x0 : Addr) (x1 : Int32) (x2 : Int32) : entryFrame m #[(.ref x0), (.int x1), (.int x2)] 3 = mkF m 0 #[rv x0, iv x1, iv x2] [] := by (first | (simp [entryFrame, mkF, argsToLocals, Value.category]; done) | rfl)
theorem d15_0 : decode jdk_52_method_4_code 0 = .ok (.getstatic 44, 3) := by decide +kernel
theorem d15_3 : decode jdk_52_method_4_code 3 = .ok (.ifCond .ne 25, 3) := by decide +kernel
theorem d15_28 : decode jdk_52_method_4_code 28 = .ok (.iload_n 1, 1) := by decide +kernel
theorem d15_29 : decode jdk_52_method_4_code 29 = .ok (.iconst 1, 1) := by decide +kernel
theorem d15_30 : decode jdk_52_method_4_code 30 = .ok (.ishl, 1) := by decide +kernel
theorem d15_31 : decode jdk_52_method_4_code 31 = .ok (.istore_n 1, 1) := by decide +kernel
theorem d15_32 : decode jdk_52_method_4_code 32 = .ok (.aload_n 0, 1) := by decide +kernel
theorem d15_33 : decode jdk_52_method_4_code 33 = .ok (.iload_n 1, 1) := by decide +kernel
theorem d15_34 : decode jdk_52_method_4_code 34 = .ok (.iinc 1 1, 3) := by decide +kernel
theorem d15_37 : decode jdk_52_method_4_code 37 = .ok (.iload_n 2, 1) := by decide +kernel
theorem d15_38 : decode jdk_52_method_4_code 38 = .ok (.getstatic 59, 3) := by decide +kernel
theorem d15_41 : decode jdk_52_method_4_code 41 = .ok (.ishr, 1) := by decide +kernel
theorem d15_42 : decode jdk_52_method_4_code 42 = .ok (.i2b, 1) := by decide +kernel
theorem d15_43 : decode jdk_52_method_4_code 43 = .ok (.bastore, 1) := by decide +kernel
theorem d15_44 : decode jdk_52_method_4_code 44 = .ok (.aload_n 0, 1) := by decide +kernel
theorem d15_45 : decode jdk_52_method_4_code 45 = .ok (.iload_n 1, 1) := by decide +kernel
theorem d15_46 : decode jdk_52_method_4_code 46 = .ok (.iload_n 2, 1) := by decide +kernel
theorem d15_47 : decode jdk_52_method_4_code 47 = .ok (.getstatic 63, 3) := by decide +kernel
theorem d15_50 : decode jdk_52_method_4_code 50 = .ok (.ishr, 1) := by decide +kernel
theorem d15_51 : decode jdk_52_method_4_code 51 = .ok (.i2b, 1) := by decide +kernel
theorem d15_52 : decode jdk_52_method_4_code 52 = .ok (.bastore, 1) := by decide +kernel
theorem d15_53 : decode jdk_52_method_4_code 53 = .ok (.return_, 1) := by decide +kernel
def Q_rmPut1_0 (Z : State) (tb : Addr) (kt : ClassId) (c0 : Int32) (x0 : Int32) (x1 : Int32) (h0 : Heap) (n0 : Nat) (v : Option Value) (h : Heap) (L : List Loc) : Prop := v = none ∧ Fr n0 L ∧ Keep h0 h [tb] ∧ Arv Z h tb kt .byte (2 : Int32) ([(.int (own_lo c0)), (.int (own_hi c0))]) (.int 0)
set_option maxRecDepth 65536 in
set_option maxHeartbeats 40000000 in
theorem rmPut1_0 (l : Launch) (Z : State) (a0 : Array Value) (hw : ∀ d ∈ tables_1, d.before a0 Z = true) (ws : List Jvm.Cond) (tb : Addr) (kt : ClassId) (c0 : Int32) (x0 : Int32) (x1 : Int32) (h0 : Heap) (n0 : Nat) (Z0 : n0 ≤ h0.size) (O0 : Old Z n0 h0) (V_tb : Arv Z h0 tb kt .byte (2 : Int32) ([(.int x0), (.int x1)]) (.int 0)) (g_tb : n0 ≤ tb) (U0 : Sta Z Z.heap "java/lang/StringUTF16" "$assertionsDisabled" "Z" (.int 1)) (U1 : Sta Z Z.heap "java/lang/StringUTF16" "HI_BYTE_SHIFT" "I" (.int 0)) (U2 : Sta Z Z.heap "java/lang/StringUTF16" "LO_BYTE_SHIFT" "I" (.int 8)) :
    MetFree l (⟨"java/lang/StringUTF16", "putChar", "([BII)V"⟩ : MethodName) (head1 (Jvm.Cond.code (⟨"java/lang/StringUTF16", "putChar", "([BII)V"⟩ : MethodName) jdk_52_method_4_code 3 none :: ws) ({ frames := 0, cells := 0, slots := 0, locals := 0 } : Room)) (fun as' U => as' = #[(.ref tb), (.int 0), (.int c0)] ∧ Z.Warmed39 U.vm ∧ U.heap = h0) (fun _ _ _ _ _ => True) (fun _ U o U' => ∃ v L, o = .returned v ∧ Q_rmPut1_0 Z tb kt c0 x0 x1 h0 n0 v U'.heap L ∧ FrameEnd U o U' L ({ frames := 0, cells := 0, slots := 0, locals := 0 } : Room).cells ({ frames := 0, cells := 0, slots := 0, locals := 0 } : Room).slots) := by
  refine MetFree.of_bodySF (plainFor_of_name pn_1) hisR ?_
  intro p e s m args below meth c s₁ Bd hml0 hP hK
  obtain ⟨rfl, hZ, hh⟩ := hP
  have hx := Bd.exec
  have hby := Bd.bytes
  have hml : c.maxLocals = 3 := hml0
  have hown : s.vm.findClass "java/lang/StringUTF16" = some m.cls := findClass_of_methodNamed Bd.named
  have hnm := (name_of_methodNamed Bd.named Bd.method).1
  have X0 : Stand p l e ({ frames := 0, cells := 0, slots := 0, locals := 0 } : Room) s m #[(.ref tb), (.int 0), (.int c0)] below meth c s₁ [] 0 0 := Stand.of_body Bd
  have e0 : s₁.heap = h0 := by rw [← hh, Bd.state]; rfl
  have N0 := Fr.nil n0
  refine Go.enter (F := EndN s (Q_rmPut1_0 Z tb kt c0 x0 x1 h0 n0) ({ frames := 0, cells := 0, slots := 0, locals := 0 } : Room).cells ({ frames := 0, cells := 0, slots := 0, locals := 0 } : Room).slots) (ef_17 m tb (0 : Int32) c0) ?_
  show Go _ _ _ _ s₁ (mkF m 0 #[rv tb, iv 0, iv c0] [])
  have F1 : Sta Z h0 "java/lang/StringUTF16" "$assertionsDisabled" "Z" (.int 1) := U0.ext O0.2
  obtain ⟨T2, X2, e2, st2⟩ := getS2 X0 hx hZ hown (host := "") (Or.inl (ow hw 71 rfl)) Via.refl e0 F1 (g := (mkF m 0 #[rv tb, iv 0, iv c0] [])) rfl (hb hby d15_0)
  refine Go.by st2 ?_
  show Go _ _ _ _ T2 (mkF m 3 #[rv tb, iv 0, iv c0] [(.int 1)])
  refine Go.ifY 28 X2 hx (hb hby d15_3) (XT.i0_ne_t (by decide)) (by decide) (by decide) ?_
  refine Go.iload1 29 X2 hx (hb hby d15_28) rfl rfl ?_
  refine Go.iconst 30 X2 hx (1 : Int32) (hb hby d15_29) (by decide) rfl ?_
  refine Go.ishl 31 X2 hx (hb hby d15_30) rfl ?_
  rw [(by decide : ((0 : Int32) <<< ((1 : Int32) &&& 31)) = (0 : Int32))]
  refine Go.istore1 32 X2 hx (L' := #[rv tb, iv 0, iv c0]) (hb hby d15_31) rfl rfl ?_
  refine Go.aload1 33 X2 hx (hb hby d15_32) rfl rfl rfl ?_
  refine Go.iload1 34 X2 hx (hb hby d15_33) rfl rfl ?_
  refine Go.iinc 37 X2 hx (1 : Int32) (L' := #[rv tb, iv 1, iv c0]) (hb hby d15_34) (by decide) rfl rfl rfl ?_
  refine Go.iload1 38 X2 hx (hb hby d15_37) rfl rfl ?_
  have F3 : Sta Z h0 "java/lang/StringUTF16" "HI_BYTE_SHIFT" "I" (.int 0) := U1.ext O0.2
  obtain ⟨T4, X4, e4, st4⟩ := getS2 X2 hx hZ hown (host := "") (Or.inl (ow hw 72 rfl)) Via.refl e2 F3 (g := (mkF m 38 #[rv tb, iv 1, iv c0] [(.int c0), (.int 0), (.ref tb)])) rfl (hb hby d15_38)
  refine Go.by st4 ?_
  show Go _ _ _ _ T4 (mkF m 41 #[rv tb, iv 1, iv c0] [(.int 0), (.int c0), (.int 0), (.ref tb)])
  refine Go.ishr 42 X4 hx (hb hby d15_41) rfl ?_
  refine Go.i2b 43 X4 hx (hb hby d15_42) rfl ?_
  obtain ⟨cl5, Ar5, q5, S5, M5, H5, G5⟩ := id V_tb
  have hin5 : ¬ ((0 : Int32) < 0 ∨ cl5.slots.size ≤ (0 : Int32).toNatClampNeg) := inb_of S5 ⟨by decide, by decide⟩
  obtain ⟨T5, h5, X5, e5, W5, st5⟩ := stB X4 hx hZ e4 Ar5 (j := (0 : Int32)) hin5 (g := (mkF m 43 #[rv tb, iv 1, iv c0] [(.int ((c0 >>> ((0 : Int32) &&& 31)).toInt8.toInt32)), (.int 0), (.ref tb)])) rfl rfl (hb hby d15_43)
  have N5 := Fr.snoc X5 N0 g_tb
  have V5 : Arv Z h5 tb kt .byte (2 : Int32) [(.int (nar .byte ((c0 >>> ((0 : Int32) &&& 31)).toInt8.toInt32))), (.int x1)] (.int 0) := Arv.set Ar5 q5 S5 M5 H5 G5 (fits_nar_byte _) W5 0 rfl (Nat.le_of_ble_eq_true rfl)
  refine Go.by st5 ?_
  show Go _ _ _ _ T5 (mkF m 44 #[rv tb, iv 1, iv c0] [])
  replace V5 : Arv Z h5 tb kt .byte (2 : Int32) [(.int (own_lo c0)), (.int x1)] (.int 0) := V5
  refine Go.aload1 45 X5 hx (hb hby d15_44) rfl rfl rfl ?_
  refine Go.iload1 46 X5 hx (hb hby d15_45) rfl rfl ?_
  refine Go.iload1 47 X5 hx (hb hby d15_46) rfl rfl ?_
  have F6 : Old Z n0 h5 := O0.wr W5 g_tb
  have F7 : Sta Z h5 "java/lang/StringUTF16" "LO_BYTE_SHIFT" "I" (.int 8) := U2.ext F6.2
  obtain ⟨T8, X8, e8, st8⟩ := getS2 X5 hx hZ hown (host := "") (Or.inl (ow hw 73 rfl)) Via.refl e5 F7 (g := (mkF m 47 #[rv tb, iv 1, iv c0] [(.int c0), (.int 1), (.ref tb)])) rfl (hb hby d15_47)
  refine Go.by st8 ?_
  show Go _ _ _ _ T8 (mkF m 50 #[rv tb, iv 1, iv c0] [(.int 8), (.int c0), (.int 1), (.ref tb)])
  refine Go.ishr 51 X8 hx (hb hby d15_50) rfl ?_
  refine Go.i2b 52 X8 hx (hb hby d15_51) rfl ?_
  obtain ⟨cl9, Ar9, q9, S9, M9, H9, G9⟩ := id V5
  have hin9 : ¬ ((1 : Int32) < 0 ∨ cl9.slots.size ≤ (1 : Int32).toNatClampNeg) := inb_of S9 ⟨by decide, by decide⟩
  obtain ⟨T9, h9, X9, e9, W9, st9⟩ := stB X8 hx hZ e8 Ar9 (j := (1 : Int32)) hin9 (g := (mkF m 52 #[rv tb, iv 1, iv c0] [(.int ((c0 >>> ((8 : Int32) &&& 31)).toInt8.toInt32)), (.int 1), (.ref tb)])) rfl rfl (hb hby d15_52)
  have N9 := Fr.snoc X9 N5 g_tb
  have V9 : Arv Z h9 tb kt .byte (2 : Int32) [(.int (own_lo c0)), (.int (nar .byte ((c0 >>> ((8 : Int32) &&& 31)).toInt8.toInt32)))] (.int 0) := Arv.set Ar9 q9 S9 M9 H9 G9 (fits_nar_byte _) W9 1 rfl (Nat.le_of_ble_eq_true rfl)
  refine Go.by st9 ?_
  show Go _ _ _ _ T9 (mkF m 53 #[rv tb, iv 1, iv c0] [])
  replace V9 : Arv Z h9 tb kt .byte (2 : Int32) [(.int (own_lo c0)), (.int (own_hi c0))] (.int 0) := V9
  have F10 : Keep h0 h5 [tb] := (Keep.refl h0 [tb]).wr W5 (Or.inl (List.mem_of_getElem? (i := 0) rfl))
  have F11 : Keep h0 h9 [tb] := F10.wr W9 (Or.inl (List.mem_of_getElem? (i := 0) rfl))
  exact Go.retV X9 hx Bd.notSynchronized Bd.returns (hb hby d15_53) (by rw [e9]; exact ⟨rfl, N9, F11, V9⟩) (by decide) (by decide)
theorem ef_40 (m : MethodId) (x0 : Addr) (x1 : Int32) : entryFrame m #[(.ref x0), (.int x1)] 2 = mkF m 0 #[rv x0, iv x1] [] := by (first | (simp [entryFrame, mkF, argsToLocals, Value.category]; done) | rfl)
theorem d16_0 : decode jdk_52_method_5_code 0 = .ok (.getstatic 44, 3) := by decide +kernel
theorem d16_3 : decode jdk_52_method_5_code 3 = .ok (.ifCond .ne 25, 3) := by decide +kernel
theorem d16_28 : decode jdk_52_method_5_code 28 = .ok (.iload_n 1, 1) := by decide +kernel
theorem d16_29 : decode jdk_52_method_5_code 29 = .ok (.iconst 1, 1) := by decide +kernel
theorem d16_30 : decode jdk_52_method_5_code 30 = .ok (.ishl, 1) := by decide +kernel
theorem d16_31 : decode jdk_52_method_5_code 31 = .ok (.istore_n 1, 1) := by decide +kernel
theorem d16_32 : decode jdk_52_method_5_code 32 = .ok (.aload_n 0, 1) := by decide +kernel
theorem d16_33 : decode jdk_52_method_5_code 33 = .ok (.iload_n 1, 1) := by decide +kernel
theorem d16_34 : decode jdk_52_method_5_code 34 = .ok (.iinc 1 1, 3) := by decide +kernel
theorem d16_37 : decode jdk_52_method_5_code 37 = .ok (.baload, 1) := by decide +kernel
theorem d16_38 : decode jdk_52_method_5_code 38 = .ok (.sipush 255, 3) := by decide +kernel
theorem d16_41 : decode jdk_52_method_5_code 41 = .ok (.iand, 1) := by decide +kernel
theorem d16_42 : decode jdk_52_method_5_code 42 = .ok (.getstatic 59, 3) := by decide +kernel
theorem d16_45 : decode jdk_52_method_5_code 45 = .ok (.ishl, 1) := by decide +kernel
theorem d16_46 : decode jdk_52_method_5_code 46 = .ok (.aload_n 0, 1) := by decide +kernel
theorem d16_47 : decode jdk_52_method_5_code 47 = .ok (.iload_n 1, 1) := by decide +kernel
theorem d16_48 : decode jdk_52_method_5_code 48 = .ok (.baload, 1) := by decide +kernel
theorem d16_49 : decode jdk_52_method_5_code 49 = .ok (.sipush 255, 3) := by decide +kernel
theorem d16_52 : decode jdk_52_method_5_code 52 = .ok (.iand, 1) := by decide +kernel
theorem d16_53 : decode jdk_52_method_5_code 53 = .ok (.getstatic 63, 3) := by decide +kernel
theorem d16_56 : decode jdk_52_method_5_code 56 = .ok (.ishl, 1) := by decide +kernel
theorem d16_57 : decode jdk_52_method_5_code 57 = .ok (.ior, 1) := by decide +kernel
theorem d16_58 : decode jdk_52_method_5_code 58 = .ok (.i2c, 1) := by decide +kernel
theorem d16_59 : decode jdk_52_method_5_code 59 = .ok (.ireturn, 1) := by decide +kernel
def Q_rmGetC1_0 (Z : State) (tb : Addr) (kt : ClassId) (c0 : Int32) (x0 : Int32) (x1 : Int32) (h0 : Heap) (n0 : Nat) (v : Option Value) (h : Heap) (L : List Loc) : Prop := v = some (.int c0) ∧ Fr n0 L ∧ h = h0
set_option maxRecDepth 65536 in
set_option maxHeartbeats 40000000 in
theorem rmGetC1_0 (l : Launch) (Z : State) (a0 : Array Value) (hw : ∀ d ∈ tables_1, d.before a0 Z = true) (ws : List Jvm.Cond) (tb : Addr) (kt : ClassId) (c0 : Int32) (x0 : Int32) (x1 : Int32) (h0 : Heap) (n0 : Nat) (Z0 : n0 ≤ h0.size) (O0 : Old Z n0 h0) (V_tb : Arv Z h0 tb kt .byte (2 : Int32) ([(.int (own_lo c0)), (.int (own_hi c0))]) (.int 0)) (hn0 : (nar .char c0 = c0)) (U0 : Sta Z Z.heap "java/lang/StringUTF16" "$assertionsDisabled" "Z" (.int 1)) (U1 : Sta Z Z.heap "java/lang/StringUTF16" "HI_BYTE_SHIFT" "I" (.int 0)) (U2 : Sta Z Z.heap "java/lang/StringUTF16" "LO_BYTE_SHIFT" "I" (.int 8)) :
    MetFree l (⟨"java/lang/StringUTF16", "getChar", "([BI)C"⟩ : MethodName) (head1 (Jvm.Cond.code (⟨"java/lang/StringUTF16", "getChar", "([BI)C"⟩ : MethodName) jdk_52_method_5_code 2 (some .char) :: ws) ({ frames := 0, cells := 0, slots := 0, locals := 0 } : Room)) (fun as' U => as' = #[(.ref tb), (.int 0)] ∧ Z.Warmed39 U.vm ∧ U.heap = h0) (fun _ _ _ _ _ => True) (fun _ U o U' => ∃ v L, o = .returned v ∧ Q_rmGetC1_0 Z tb kt c0 x0 x1 h0 n0 v U'.heap L ∧ FrameEnd U o U' L ({ frames := 0, cells := 0, slots := 0, locals := 0 } : Room).cells ({ frames := 0, cells := 0, slots := 0, locals := 0 } : Room).slots) := by
  refine MetFree.of_bodySF (plainFor_of_name pn_1) hisR ?_
  intro p e s m args below meth c s₁ Bd hml0 hP hK
  obtain ⟨rfl, hZ, hh⟩ := hP
  have hx := Bd.exec
  have hby := Bd.bytes
  have hml : c.maxLocals = 2 := hml0
  have hown : s.vm.findClass "java/lang/StringUTF16" = some m.cls := findClass_of_methodNamed Bd.named
  have hnm := (name_of_methodNamed Bd.named Bd.method).1
  have X0 : Stand p l e ({ frames := 0, cells := 0, slots := 0, locals := 0 } : Room) s m #[(.ref tb), (.int 0)] below meth c s₁ [] 0 0 := Stand.of_body Bd
  have e0 : s₁.heap = h0 := by rw [← hh, Bd.state]; rfl
  have N0 := Fr.nil n0
  refine Go.enter (F := EndN s (Q_rmGetC1_0 Z tb kt c0 x0 x1 h0 n0) ({ frames := 0, cells := 0, slots := 0, locals := 0 } : Room).cells ({ frames := 0, cells := 0, slots := 0, locals := 0 } : Room).slots) (ef_40 m tb (0 : Int32)) ?_
  show Go _ _ _ _ s₁ (mkF m 0 #[rv tb, iv 0] [])
  have F1 : Sta Z h0 "java/lang/StringUTF16" "$assertionsDisabled" "Z" (.int 1) := U0.ext O0.2
  obtain ⟨T2, X2, e2, st2⟩ := getS2 X0 hx hZ hown (host := "") (Or.inl (ow hw 71 rfl)) Via.refl e0 F1 (g := (mkF m 0 #[rv tb, iv 0] [])) rfl (hb hby d16_0)
  refine Go.by st2 ?_
  show Go _ _ _ _ T2 (mkF m 3 #[rv tb, iv 0] [(.int 1)])
  refine Go.ifY 28 X2 hx (hb hby d16_3) (XT.i0_ne_t (by decide)) (by decide) (by decide) ?_
  refine Go.iload1 29 X2 hx (hb hby d16_28) rfl rfl ?_
  refine Go.iconst 30 X2 hx (1 : Int32) (hb hby d16_29) (by decide) rfl ?_
  refine Go.ishl 31 X2 hx (hb hby d16_30) rfl ?_
  rw [(by decide : ((0 : Int32) <<< ((1 : Int32) &&& 31)) = (0 : Int32))]
  refine Go.istore1 32 X2 hx (L' := #[rv tb, iv 0]) (hb hby d16_31) rfl rfl ?_
  refine Go.aload1 33 X2 hx (hb hby d16_32) rfl rfl rfl ?_
  refine Go.iload1 34 X2 hx (hb hby d16_33) rfl rfl ?_
  refine Go.iinc 37 X2 hx (1 : Int32) (L' := #[rv tb, iv 1]) (hb hby d16_34) (by decide) rfl rfl rfl ?_
  obtain ⟨cl3, Ar3, -, S3, M3, H3, -⟩ := id V_tb
  have hin3 : ¬ ((0 : Int32) < 0 ∨ cl3.slots.size ≤ (0 : Int32).toNatClampNeg) := inb_of S3 ⟨by decide, by decide⟩
  refine Go.by (fun _ gk => X2.baloadBytes hx (j := (0 : Int32)) (v := (.int (own_lo c0))) (by rw [e2]; exact Ar3.1) (State.isArrayOf_alike hZ.alike Ar3.2.1) Ar3.2.2 hin3 (Has.at H3 hin3 rfl) (g := (mkF m 37 #[rv tb, iv 1] [(.int 0), (.ref tb)])) rfl rfl (hb hby d16_37) _ gk) ?_
  show Go _ _ _ _ T2 (mkF m 38 #[rv tb, iv 1] [(.int (own_lo c0))])
  refine Go.sipush 41 X2 hx (255 : Int32) (hb hby d16_38) (by decide) rfl ?_
  refine Go.iand 42 X2 hx (hb hby d16_41) rfl ?_
  have F4 : Sta Z h0 "java/lang/StringUTF16" "HI_BYTE_SHIFT" "I" (.int 0) := U1.ext O0.2
  obtain ⟨T5, X5, e5, st5⟩ := getS2 X2 hx hZ hown (host := "") (Or.inl (ow hw 72 rfl)) Via.refl e2 F4 (g := (mkF m 42 #[rv tb, iv 1] [(.int ((own_lo c0) &&& (255 : Int32)))])) rfl (hb hby d16_42)
  refine Go.by st5 ?_
  show Go _ _ _ _ T5 (mkF m 45 #[rv tb, iv 1] [(.int 0), (.int ((own_lo c0) &&& (255 : Int32)))])
  refine Go.ishl 46 X5 hx (hb hby d16_45) rfl ?_
  refine Go.aload1 47 X5 hx (hb hby d16_46) rfl rfl rfl ?_
  refine Go.iload1 48 X5 hx (hb hby d16_47) rfl rfl ?_
  obtain ⟨cl6, Ar6, -, S6, M6, H6, -⟩ := id V_tb
  have hin6 : ¬ ((1 : Int32) < 0 ∨ cl6.slots.size ≤ (1 : Int32).toNatClampNeg) := inb_of S6 ⟨by decide, by decide⟩
  refine Go.by (fun _ gk => X5.baloadBytes hx (j := (1 : Int32)) (v := (.int (own_hi c0))) (by rw [e5]; exact Ar6.1) (State.isArrayOf_alike hZ.alike Ar6.2.1) Ar6.2.2 hin6 (Has.at H6 hin6 rfl) (g := (mkF m 48 #[rv tb, iv 1] [(.int 1), (.ref tb), (.int (((own_lo c0) &&& (255 : Int32)) <<< ((0 : Int32) &&& 31)))])) rfl rfl (hb hby d16_48) _ gk) ?_
  show Go _ _ _ _ T5 (mkF m 49 #[rv tb, iv 1] [(.int (own_hi c0)), (.int (((own_lo c0) &&& (255 : Int32)) <<< ((0 : Int32) &&& 31)))])
  refine Go.sipush 52 X5 hx (255 : Int32) (hb hby d16_49) (by decide) rfl ?_
  refine Go.iand 53 X5 hx (hb hby d16_52) rfl ?_
  have F7 : Sta Z h0 "java/lang/StringUTF16" "LO_BYTE_SHIFT" "I" (.int 8) := U2.ext O0.2
  obtain ⟨T8, X8, e8, st8⟩ := getS2 X5 hx hZ hown (host := "") (Or.inl (ow hw 73 rfl)) Via.refl e5 F7 (g := (mkF m 53 #[rv tb, iv 1] [(.int ((own_hi c0) &&& (255 : Int32))), (.int (((own_lo c0) &&& (255 : Int32)) <<< ((0 : Int32) &&& 31)))])) rfl (hb hby d16_53)
  refine Go.by st8 ?_
  show Go _ _ _ _ T8 (mkF m 56 #[rv tb, iv 1] [(.int 8), (.int ((own_hi c0) &&& (255 : Int32))), (.int (((own_lo c0) &&& (255 : Int32)) <<< ((0 : Int32) &&& 31)))])
  refine Go.ishl 57 X8 hx (hb hby d16_56) rfl ?_
  refine Go.ior 58 X8 hx (hb hby d16_57) rfl ?_
  refine Go.i2c 59 X8 hx (hb hby d16_58) rfl ?_
  rw [own_u16 hn0]
  show Go _ _ _ _ T8 (mkF m 59 #[rv tb, iv 1] [(.int c0)])
  exact Go.retI X8 hx Bd.notSynchronized Bd.returns (own_retc hn0) (by simp) (hb hby d16_59) (by rw [e8]; exact ⟨rfl, N0, rfl⟩) (by decide) (by decide)
theorem ef_65 (m : MethodId) (x0 : Addr) (x1 : Int32) (x2 : Int32) : entryFrame m #[(.ref x0), (.int x1), (.int x2)] 5 = mkF m 0 #[rv x0, iv x1, iv x2, un, un] [] := by (first | (simp [entryFrame, mkF, argsToLocals, Value.category]; done) | rfl)
theorem d12_0 : decode jdk_52_method_14_code 0 = .ok (.iload_n 2, 1) := by decide +kernel
theorem pd_67 : parseMethodDescriptor "(I)[B" = some ⟨[.int], some (.array .byte)⟩ := by decide +kernel
theorem d12_1 : decode jdk_52_method_14_code 1 = .ok (.invokestatic 107, 3) := by decide +kernel
theorem d12_4 : decode jdk_52_method_14_code 4 = .ok (.astore_n 3, 1) := by decide +kernel
theorem d12_5 : decode jdk_52_method_14_code 5 = .ok (.iconst 0, 1) := by decide +kernel
theorem d12_6 : decode jdk_52_method_14_code 6 = .ok (.istore 4, 2) := by decide +kernel
theorem d12_8 : decode jdk_52_method_14_code 8 = .ok (.iload 4, 2) := by decide +kernel
theorem d12_10 : decode jdk_52_method_14_code 10 = .ok (.iload_n 2, 1) := by decide +kernel
theorem d12_11 : decode jdk_52_method_14_code 11 = .ok (.if_icmp .ge 21, 3) := by decide +kernel
theorem d12_14 : decode jdk_52_method_14_code 14 = .ok (.aload_n 3, 1) := by decide +kernel
theorem d12_15 : decode jdk_52_method_14_code 15 = .ok (.iload 4, 2) := by decide +kernel
theorem d12_17 : decode jdk_52_method_14_code 17 = .ok (.aload_n 0, 1) := by decide +kernel
theorem d12_18 : decode jdk_52_method_14_code 18 = .ok (.iload_n 1, 1) := by decide +kernel
theorem d12_19 : decode jdk_52_method_14_code 19 = .ok (.caload, 1) := by decide +kernel
theorem pd_80 : parseMethodDescriptor "([BII)V" = some ⟨[(.array .byte), .int, .int], none⟩ := by decide +kernel
theorem d12_20 : decode jdk_52_method_14_code 20 = .ok (.invokestatic 111, 3) := by decide +kernel
theorem d12_23 : decode jdk_52_method_14_code 23 = .ok (.iinc 1 1, 3) := by decide +kernel
theorem d12_26 : decode jdk_52_method_14_code 26 = .ok (.iinc 4 1, 3) := by decide +kernel
theorem d12_29 : decode jdk_52_method_14_code 29 = .ok (.goto (-21), 3) := by decide +kernel
theorem d12_32 : decode jdk_52_method_14_code 32 = .ok (.aload_n 3, 1) := by decide +kernel
theorem d12_33 : decode jdk_52_method_14_code 33 = .ok (.areturn, 1) := by decide +kernel
def Q_rmToB1 (Z : State) (va : Addr) (kv : ClassId) (c0 : Int32) (h0 : Heap) (n0 : Nat) (v : Option Value) (h : Heap) (L : List Loc) : Prop := ∃ tb : Addr, ∃ kt : ClassId, v = some (.ref tb) ∧ Fr n0 L ∧ Keep h0 h [] ∧ Arv Z h tb kt .byte (2 : Int32) ([(.int (own_lo c0)), (.int (own_hi c0))]) (.int 0) ∧ h0.size ≤ tb
set_option maxRecDepth 65536 in
set_option maxHeartbeats 40000000 in
theorem rmToB1 (l : Launch) (Z : State) (a0 : Array Value) (hw : ∀ d ∈ tables_1, d.before a0 Z = true) (ws : List Jvm.Cond) (va : Addr) (kv : ClassId) (c0 : Int32) (h0 : Heap) (n0 : Nat) (Z0 : n0 ≤ h0.size) (O0 : Old Z n0 h0) (V_va : Arv Z h0 va kv .char (1 : Int32) ([(.int c0)]) (.int 0)) (U0 : Sta Z Z.heap "java/lang/StringUTF16" "$assertionsDisabled" "Z" (.int 1)) (U1 : Sta Z Z.heap "java/lang/StringUTF16" "HI_BYTE_SHIFT" "I" (.int 0)) (U2 : Sta Z Z.heap "java/lang/StringUTF16" "LO_BYTE_SHIFT" "I" (.int 8)) :
    MetFree l (⟨"java/lang/StringUTF16", "toBytes", "([CII)[B"⟩ : MethodName) (head1 (Jvm.Cond.code (⟨"java/lang/StringUTF16", "toBytes", "([CII)[B"⟩ : MethodName) jdk_52_method_14_code 5 (some (.array .byte)) :: ws) ({ frames := 2, cells := 1, slots := 2, locals := 24 } : Room)) (fun as' U => as' = #[(.ref va), (.int 0), (.int 1)] ∧ Z.Warmed39 U.vm ∧ U.heap = h0) (fun _ _ _ _ _ => True) (fun _ U o U' => ∃ v L, o = .returned v ∧ Q_rmToB1 Z va kv c0 h0 n0 v U'.heap L ∧ FrameEnd U o U' L ({ frames := 2, cells := 1, slots := 2, locals := 24 } : Room).cells ({ frames := 2, cells := 1, slots := 2, locals := 24 } : Room).slots) := by
  refine MetFree.of_bodySF (plainFor_of_name pn_1) hisR ?_
  intro p e s m args below meth c s₁ Bd hml0 hP hK
  obtain ⟨rfl, hZ, hh⟩ := hP
  have hx := Bd.exec
  have hby := Bd.bytes
  have hml : c.maxLocals = 5 := hml0
  have hown : s.vm.findClass "java/lang/StringUTF16" = some m.cls := findClass_of_methodNamed Bd.named
  have hnm := (name_of_methodNamed Bd.named Bd.method).1
  have X0 : Stand p l e ({ frames := 2, cells := 1, slots := 2, locals := 24 } : Room) s m #[(.ref va), (.int 0), (.int 1)] below meth c s₁ [] 0 0 := Stand.of_body Bd
  have e0 : s₁.heap = h0 := by rw [← hh, Bd.state]; rfl
  have N0 := Fr.nil n0
  refine Go.enter (F := EndN s (Q_rmToB1 Z va kv c0 h0 n0) ({ frames := 2, cells := 1, slots := 2, locals := 24 } : Room).cells ({ frames := 2, cells := 1, slots := 2, locals := 24 } : Room).slots) (ef_65 m va (0 : Int32) (1 : Int32)) ?_
  show Go _ _ _ _ s₁ (mkF m 0 #[rv va, iv 0, iv 1, un, un] [])
  refine Go.iload1 1 X0 hx (hb hby d12_0) rfl rfl ?_
  obtain ⟨_, _, ⟨T1, L1, k1, n1⟩, -, X1, ⟨Lc1, hQ1, l1, y1, z1⟩, st1⟩ := Jvm.LawKit.callS X0 hx (y := (⟨"java/lang/StringUTF16", "newBytesFor", "(I)[B"⟩ : MethodName)) hown (mvT hZ (ow hw 61 rfl)) (mvT hZ (ow hw 62 rfl)) (mvT hZ (ow hw 18 rfl)) (mvT hZ (ow hw 63 rfl)) (by decide) (backOf (W := 0) (rmNbf1 l Z a0 hw []  h0 n0 Z0 ) hZ (ow hw 63 rfl) (ow hw 18 rfl) (by decide) (by decide)) (g := (mkF m 1 #[rv va, iv 0, iv 1, un, un] [(.int 1)])) rfl (by rw [hml]; rfl) (argsL := [(.int 1)]) (rest := []) (lenOf pd_67 rfl) rfl (by show 2 * 0 + _ ≤ _; exact Nat.le_of_eq rfl) (hb hby d12_1) (fun _ _ => ⟨rfl, e0, (by decide : 0 + 1 ≤ _), (by decide : 0 + 2 ≤ _)⟩)
  dsimp only [Pt.U, Pt.locs, Pt.cells, Pt.slots] at X1 l1 y1 z1 st1 hQ1
  subst l1 y1 z1
  obtain ⟨tb, kt, rfl, N1q, K1, Q1_0, Q1_1⟩ := hQ1
  have N1 := Fr.app N0 N1q
  refine Go.by st1 ?_
  show Go _ _ _ _ T1 (mkF m 4 #[rv va, iv 0, iv 1, un, un] [(.ref tb)])
  have ge_tb : n0 ≤ tb := Nat.le_trans Z0 Q1_1
  have sz_tb : h0.size ≤ tb := Nat.le_trans (Keep.refl h0 []).1 Q1_1
  have ne_va_tb : va ≠ tb := Nat.ne_of_lt (Nat.lt_of_lt_of_le V_va.lt Q1_1)
  refine Go.astore1 5 X1 hx (L' := #[rv va, iv 0, iv 1, rv tb, un]) (hb hby d12_4) rfl rfl rfl ?_
  refine Go.iconst 6 X1 hx (0 : Int32) (hb hby d12_5) (by decide) rfl ?_
  refine Go.istore2 8 X1 hx (L' := #[rv va, iv 0, iv 1, rv tb, iv 0]) (hb hby d12_6) rfl rfl ?_
  refine Go.iload2 10 X1 hx (hb hby d12_8) rfl rfl ?_
  refine Go.iload1 11 X1 hx (hb hby d12_10) rfl rfl ?_
  refine Go.icmpN 14 X1 hx (hb hby d12_11) (XT.ii_ge_f (by decide)) rfl ?_
  refine Go.aload1 15 X1 hx (hb hby d12_14) rfl rfl rfl ?_
  refine Go.iload2 17 X1 hx (hb hby d12_15) rfl rfl ?_
  refine Go.aload1 18 X1 hx (hb hby d12_17) rfl rfl rfl ?_
  refine Go.iload1 19 X1 hx (hb hby d12_18) rfl rfl ?_
  have F2 : Arv Z T1.heap va kv .char (1 : Int32) [(.int c0)] (.int 0) := V_va.keep K1 nin0
  obtain ⟨cl3, Ar3, -, S3, M3, H3, -⟩ := id F2
  have hin3 : ¬ ((0 : Int32) < 0 ∨ cl3.slots.size ≤ (0 : Int32).toNatClampNeg) := inb_of S3 ⟨by decide, by decide⟩
  refine Go.by (fun _ gk => X1.caload hx (j := (0 : Int32)) (v := (.int c0)) (by exact Ar3.1) (State.isArrayOf_alike hZ.alike Ar3.2.1) Ar3.2.2 hin3 (Has.at H3 hin3 rfl) (g := (mkF m 19 #[rv va, iv 0, iv 1, rv tb, iv 0] [(.int 0), (.ref va), (.int 0), (.ref tb)])) rfl rfl (hb hby d12_19) _ gk) ?_
  show Go _ _ _ _ T1 (mkF m 20 #[rv va, iv 0, iv 1, rv tb, iv 0] [(.int c0), (.int 0), (.ref tb)])
  have F4 : Old Z n0 T1.heap := O0.keep K1 all0
  have F5 : n0 ≤ T1.heap.size := Nat.le_trans Z0 K1.1
  obtain ⟨_, _, ⟨T6, L6, k6, n6⟩, -, X6, ⟨Lc6, hQ6, l6, y6, z6⟩, st6⟩ := Jvm.LawKit.callS X1 hx (y := (⟨"java/lang/StringUTF16", "putChar", "([BII)V"⟩ : MethodName)) hown (mvT hZ (ow hw 68 rfl)) (mvT hZ (ow hw 69 rfl)) (mvT hZ (ow hw 18 rfl)) (mvT hZ (ow hw 70 rfl)) (by decide) (backOf (W := 0) (rmPut1_0 l Z a0 hw [] tb kt c0 (0 : Int32) (0 : Int32) T1.heap n0 F5 F4 Q1_0 ge_tb U0 U1 U2) hZ (ow hw 70 rfl) (ow hw 18 rfl) (by decide) (by decide)) (g := (mkF m 20 #[rv va, iv 0, iv 1, rv tb, iv 0] [(.int c0), (.int 0), (.ref tb)])) rfl (by rw [hml]; rfl) (argsL := [(.ref tb), (.int 0), (.int c0)]) (rest := []) (lenOf pd_80 rfl) rfl (by show 2 * 0 + _ ≤ _; exact Nat.le_of_eq rfl) (hb hby d12_20) (fun _ _ => ⟨rfl, rfl, (by decide : 1 + 0 ≤ _), (by decide : 2 + 0 ≤ _)⟩)
  dsimp only [Pt.U, Pt.locs, Pt.cells, Pt.slots] at X6 l6 y6 z6 st6 hQ6
  subst l6 y6 z6
  obtain ⟨rfl, N6q, K6, Q6_0⟩ := hQ6
  have N6 := Fr.app N1 N6q
  refine Go.by st6 ?_
  show Go _ _ _ _ T6 (mkF m 23 #[rv va, iv 0, iv 1, rv tb, iv 0] [])
  refine Go.iinc 26 X6 hx (1 : Int32) (L' := #[rv va, iv 1, iv 1, rv tb, iv 0]) (hb hby d12_23) (by decide) rfl rfl rfl ?_
  refine Go.iinc 29 X6 hx (1 : Int32) (L' := #[rv va, iv 1, iv 1, rv tb, iv 1]) (hb hby d12_26) (by decide) rfl rfl rfl ?_
  refine Go.goto 8 X6 hx (hb hby d12_29) (by decide) (by decide) ?_
  refine Go.iload2 10 X6 hx (hb hby d12_8) rfl rfl ?_
  refine Go.iload1 11 X6 hx (hb hby d12_10) rfl rfl ?_
  refine Go.icmpY 32 X6 hx (hb hby d12_11) (XT.ii_ge_t (by decide)) (by decide) (by decide) ?_
  refine Go.aload1 33 X6 hx (hb hby d12_32) rfl rfl rfl ?_
  have F7 : Keep h0 T1.heap [] := (Keep.refl h0 []).trans K1 all0
  have F8 : Keep h0 T6.heap [] := F7.trans K6 (allS (Or.inr sz_tb) all0)
  exact Go.retA X6 hx Bd.notSynchronized Bd.returns rfl rfl (hb hby d12_33) ⟨tb, kt, rfl, N6, F8, Q6_0, sz_tb⟩ (by decide) (by decide)
theorem ef_87 (m : MethodId) (x0 : Addr) (x1 : Int32) (x2 : Addr) (x3 : Int32) (x4 : Int32) : entryFrame m #[(.ref x0), (.int x1), (.ref x2), (.int x3), (.int x4)] 7 = mkF m 0 #[rv x0, iv x1, rv x2, iv x3, iv x4, un, un] [] := by (first | (simp [entryFrame, mkF, argsToLocals, Value.category]; done) | rfl)
theorem d5_0 : decode jdk_52_method_21_code 0 = .ok (.iconst 0, 1) := by decide +kernel
theorem d5_1 : decode jdk_52_method_21_code 1 = .ok (.istore 5, 2) := by decide +kernel
theorem d5_3 : decode jdk_52_method_21_code 3 = .ok (.iload 5, 2) := by decide +kernel
theorem d5_5 : decode jdk_52_method_21_code 5 = .ok (.iload 4, 2) := by decide +kernel
theorem d5_7 : decode jdk_52_method_21_code 7 = .ok (.if_icmp .ge 37, 3) := by decide +kernel
theorem d5_10 : decode jdk_52_method_21_code 10 = .ok (.aload_n 0, 1) := by decide +kernel
theorem d5_11 : decode jdk_52_method_21_code 11 = .ok (.iload_n 1, 1) := by decide +kernel
theorem d5_12 : decode jdk_52_method_21_code 12 = .ok (.caload, 1) := by decide +kernel
theorem d5_13 : decode jdk_52_method_21_code 13 = .ok (.istore 6, 2) := by decide +kernel
theorem d5_15 : decode jdk_52_method_21_code 15 = .ok (.iload 6, 2) := by decide +kernel
theorem d5_17 : decode jdk_52_method_21_code 17 = .ok (.sipush 255, 3) := by decide +kernel
theorem d5_20 : decode jdk_52_method_21_code 20 = .ok (.if_icmp .le 6, 3) := by decide +kernel
theorem d5_23 : decode jdk_52_method_21_code 23 = .ok (.iload 5, 2) := by decide +kernel
theorem d5_25 : decode jdk_52_method_21_code 25 = .ok (.ireturn, 1) := by decide +kernel
theorem d5_26 : decode jdk_52_method_21_code 26 = .ok (.aload_n 2, 1) := by decide +kernel
theorem d5_27 : decode jdk_52_method_21_code 27 = .ok (.iload_n 3, 1) := by decide +kernel
theorem d5_28 : decode jdk_52_method_21_code 28 = .ok (.iload 6, 2) := by decide +kernel
theorem d5_30 : decode jdk_52_method_21_code 30 = .ok (.i2b, 1) := by decide +kernel
theorem d5_31 : decode jdk_52_method_21_code 31 = .ok (.bastore, 1) := by decide +kernel
theorem d5_32 : decode jdk_52_method_21_code 32 = .ok (.iinc 1 1, 3) := by decide +kernel
theorem d5_35 : decode jdk_52_method_21_code 35 = .ok (.iinc 3 1, 3) := by decide +kernel
theorem d5_38 : decode jdk_52_method_21_code 38 = .ok (.iinc 5 1, 3) := by decide +kernel
theorem d5_41 : decode jdk_52_method_21_code 41 = .ok (.goto (-38), 3) := by decide +kernel
theorem d5_44 : decode jdk_52_method_21_code 44 = .ok (.iload 4, 2) := by decide +kernel
theorem d5_46 : decode jdk_52_method_21_code 46 = .ok (.ireturn, 1) := by decide +kernel
def Q_rmC5_1 (Z : State) (va : Addr) (da : Addr) (kv : ClassId) (kd : ClassId) (c0 : Int32) (h0 : Heap) (n0 : Nat) (v : Option Value) (h : Heap) (L : List Loc) : Prop := ∃ r : Int32, ∃ ds : List Value, v = some (.int r) ∧ Fr n0 L ∧ Keep h0 h [da] ∧ Arv Z h da kd .byte (1 : Int32) ds (.int 0) ∧ ((r = 0 ∧ 255 < c0) ∨ r = 1)
set_option maxRecDepth 65536 in
set_option maxHeartbeats 40000000 in
theorem rmC5_1 (l : Launch) (Z : State) (a0 : Array Value) (hw : ∀ d ∈ tables_1, d.before a0 Z = true) (ws : List Jvm.Cond) (va : Addr) (da : Addr) (kv : ClassId) (kd : ClassId) (c0 : Int32) (h0 : Heap) (n0 : Nat) (Z0 : n0 ≤ h0.size) (V_va : Arv Z h0 va kv .char (1 : Int32) ([(.int c0)]) (.int 0)) (V_da : Arv Z h0 da kd .byte (1 : Int32) ([(.int 0)]) (.int 0)) (g_da : n0 ≤ da) (ne_va_da : va ≠ da) :
    MetFree l (⟨"java/lang/StringUTF16", "compress", "([CI[BII)I"⟩ : MethodName) (head1 (Jvm.Cond.code (⟨"java/lang/StringUTF16", "compress", "([CI[BII)I"⟩ : MethodName) jdk_52_method_21_code 7 (some .int) :: ws) ({ frames := 0, cells := 0, slots := 0, locals := 0 } : Room)) (fun as' U => as' = #[(.ref va), (.int 0), (.ref da), (.int 0), (.int 1)] ∧ Z.Warmed39 U.vm ∧ U.heap = h0) (fun _ _ _ _ _ => True) (fun _ U o U' => ∃ v L, o = .returned v ∧ Q_rmC5_1 Z va da kv kd c0 h0 n0 v U'.heap L ∧ FrameEnd U o U' L ({ frames := 0, cells := 0, slots := 0, locals := 0 } : Room).cells ({ frames := 0, cells := 0, slots := 0, locals := 0 } : Room).slots) := by
  refine MetFree.of_bodySF (plainFor_of_name pn_1) hisR ?_
  intro p e s m args below meth c s₁ Bd hml0 hP hK
  obtain ⟨rfl, hZ, hh⟩ := hP
  have hx := Bd.exec
  have hby := Bd.bytes
  have hml : c.maxLocals = 7 := hml0
  have hown : s.vm.findClass "java/lang/StringUTF16" = some m.cls := findClass_of_methodNamed Bd.named
  have hnm := (name_of_methodNamed Bd.named Bd.method).1
  have X0 : Stand p l e ({ frames := 0, cells := 0, slots := 0, locals := 0 } : Room) s m #[(.ref va), (.int 0), (.ref da), (.int 0), (.int 1)] below meth c s₁ [] 0 0 := Stand.of_body Bd
  have e0 : s₁.heap = h0 := by rw [← hh, Bd.state]; rfl
  have N0 := Fr.nil n0
  refine Go.enter (F := EndN s (Q_rmC5_1 Z va da kv kd c0 h0 n0) ({ frames := 0, cells := 0, slots := 0, locals := 0 } : Room).cells ({ frames := 0, cells := 0, slots := 0, locals := 0 } : Room).slots) (ef_87 m va (0 : Int32) da (0 : Int32) (1 : Int32)) ?_
  show Go _ _ _ _ s₁ (mkF m 0 #[rv va, iv 0, rv da, iv 0, iv 1, un, un] [])
  refine Go.iconst 1 X0 hx (0 : Int32) (hb hby d5_0) (by decide) rfl ?_
  refine Go.istore2 3 X0 hx (L' := #[rv va, iv 0, rv da, iv 0, iv 1, iv 0, un]) (hb hby d5_1) rfl rfl ?_
  refine Go.iload2 5 X0 hx (hb hby d5_3) rfl rfl ?_
  refine Go.iload2 7 X0 hx (hb hby d5_5) rfl rfl ?_
  refine Go.icmpN 10 X0 hx (hb hby d5_7) (XT.ii_ge_f (by decide)) rfl ?_
  refine Go.aload1 11 X0 hx (hb hby d5_10) rfl rfl rfl ?_
  refine Go.iload1 12 X0 hx (hb hby d5_11) rfl rfl ?_
  obtain ⟨cl1, Ar1, -, S1, M1, H1, -⟩ := id V_va
  have hin1 : ¬ ((0 : Int32) < 0 ∨ cl1.slots.size ≤ (0 : Int32).toNatClampNeg) := inb_of S1 ⟨by decide, by decide⟩
  refine Go.by (fun _ gk => X0.caload hx (j := (0 : Int32)) (v := (.int c0)) (by rw [e0]; exact Ar1.1) (State.isArrayOf_alike hZ.alike Ar1.2.1) Ar1.2.2 hin1 (Has.at H1 hin1 rfl) (g := (mkF m 12 #[rv va, iv 0, rv da, iv 0, iv 1, iv 0, un] [(.int 0), (.ref va)])) rfl rfl (hb hby d5_12) _ gk) ?_
  show Go _ _ _ _ s₁ (mkF m 13 #[rv va, iv 0, rv da, iv 0, iv 1, iv 0, un] [(.int c0)])
  refine Go.istore2 15 X0 hx (L' := #[rv va, iv 0, rv da, iv 0, iv 1, iv 0, iv c0]) (hb hby d5_13) rfl rfl ?_
  refine Go.iload2 17 X0 hx (hb hby d5_15) rfl rfl ?_
  refine Go.sipush 20 X0 hx (255 : Int32) (hb hby d5_17) (by decide) rfl ?_
  by_cases hb2 : (255 : Int32) < c0
  · refine Go.icmpN 23 X0 hx (hb hby d5_20) (XT.ii_le_f hb2) rfl ?_
    refine Go.iload2 25 X0 hx (hb hby d5_23) rfl rfl ?_
    exact Go.retI X0 hx Bd.notSynchronized Bd.returns rfl (by simp) (hb hby d5_25) (by rw [e0]; exact ⟨(0 : Int32), [(.int 0)], rfl, N0, (Keep.refl h0 [da]), V_da, Or.inl ⟨rfl, hb2⟩⟩) (by decide) (by decide)
  · refine Go.icmpY 26 X0 hx (hb hby d5_20) (XT.ii_le_t hb2) (by decide) (by decide) ?_
    refine Go.aload1 27 X0 hx (hb hby d5_26) rfl rfl rfl ?_
    refine Go.iload1 28 X0 hx (hb hby d5_27) rfl rfl ?_
    refine Go.iload2 30 X0 hx (hb hby d5_28) rfl rfl ?_
    refine Go.i2b 31 X0 hx (hb hby d5_30) rfl ?_
    obtain ⟨cl3, Ar3, q3, S3, M3, H3, G3⟩ := id V_da
    have hin3 : ¬ ((0 : Int32) < 0 ∨ cl3.slots.size ≤ (0 : Int32).toNatClampNeg) := inb_of S3 ⟨by decide, by decide⟩
    obtain ⟨T3, h3, X3, e3, W3, st3⟩ := stB X0 hx hZ e0 Ar3 (j := (0 : Int32)) hin3 (g := (mkF m 31 #[rv va, iv 0, rv da, iv 0, iv 1, iv 0, iv c0] [(.int (c0.toInt8.toInt32)), (.int 0), (.ref da)])) rfl rfl (hb hby d5_31)
    have N3 := Fr.snoc X3 N0 g_da
    have V3 : Arv Z h3 da kd .byte (1 : Int32) [(.int (nar .byte (c0.toInt8.toInt32)))] (.int 0) := Arv.set Ar3 q3 S3 M3 H3 G3 (fits_nar_byte _) W3 0 rfl (Nat.le_of_ble_eq_true rfl)
    refine Go.by st3 ?_
    show Go _ _ _ _ T3 (mkF m 32 #[rv va, iv 0, rv da, iv 0, iv 1, iv 0, iv c0] [])
    refine Go.iinc 35 X3 hx (1 : Int32) (L' := #[rv va, iv 1, rv da, iv 0, iv 1, iv 0, iv c0]) (hb hby d5_32) (by decide) rfl rfl rfl ?_
    refine Go.iinc 38 X3 hx (1 : Int32) (L' := #[rv va, iv 1, rv da, iv 1, iv 1, iv 0, iv c0]) (hb hby d5_35) (by decide) rfl rfl rfl ?_
    refine Go.iinc 41 X3 hx (1 : Int32) (L' := #[rv va, iv 1, rv da, iv 1, iv 1, iv 1, iv c0]) (hb hby d5_38) (by decide) rfl rfl rfl ?_
    refine Go.goto 3 X3 hx (hb hby d5_41) (by decide) (by decide) ?_
    refine Go.iload2 5 X3 hx (hb hby d5_3) rfl rfl ?_
    refine Go.iload2 7 X3 hx (hb hby d5_5) rfl rfl ?_
    refine Go.icmpY 44 X3 hx (hb hby d5_7) (XT.ii_ge_t (by decide)) (by decide) (by decide) ?_
    refine Go.iload2 46 X3 hx (hb hby d5_44) rfl rfl ?_
    have F4 : Keep h0 h3 [da] := (Keep.refl h0 [da]).wr W3 (Or.inl (List.mem_of_getElem? (i := 0) rfl))
    exact Go.retI X3 hx Bd.notSynchronized Bd.returns rfl (by simp) (hb hby d5_46) (by rw [e3]; exact ⟨(1 : Int32), [(.int (nar .byte (c0.toInt8.toInt32)))], rfl, N3, F4, V3, Or.inr (rfl)⟩) (by decide) (by decide)
theorem ef_113 (m : MethodId) (x0 : Addr) (x1 : Int32) (x2 : Int32) : entryFrame m #[(.ref x0), (.int x1), (.int x2)] 6 = mkF m 0 #[rv x0, iv x1, iv x2, un, un, un] [] := by (first | (simp [entryFrame, mkF, argsToLocals, Value.category]; done) | rfl)
theorem d4_0 : decode jdk_52_method_16_code 0 = .ok (.iload_n 2, 1) := by decide +kernel
theorem d4_1 : decode jdk_52_method_16_code 1 = .ok (.newarray .byte, 2) := by decide +kernel
theorem d4_3 : decode jdk_52_method_16_code 3 = .ok (.astore_n 3, 1) := by decide +kernel
theorem d4_4 : decode jdk_52_method_16_code 4 = .ok (.aload_n 0, 1) := by decide +kernel
theorem d4_5 : decode jdk_52_method_16_code 5 = .ok (.iload_n 1, 1) := by decide +kernel
theorem d4_6 : decode jdk_52_method_16_code 6 = .ok (.aload_n 3, 1) := by decide +kernel
theorem d4_7 : decode jdk_52_method_16_code 7 = .ok (.iconst 0, 1) := by decide +kernel
theorem d4_8 : decode jdk_52_method_16_code 8 = .ok (.iload_n 2, 1) := by decide +kernel
theorem pd_122 : parseMethodDescriptor "([CI[BII)I" = some ⟨[(.array .char), .int, (.array .byte), .int, .int], some .int⟩ := by decide +kernel
theorem d4_9 : decode jdk_52_method_16_code 9 = .ok (.invokestatic 115, 3) := by decide +kernel
theorem d4_12 : decode jdk_52_method_16_code 12 = .ok (.istore 4, 2) := by decide +kernel
theorem d4_14 : decode jdk_52_method_16_code 14 = .ok (.iload 4, 2) := by decide +kernel
theorem d4_16 : decode jdk_52_method_16_code 16 = .ok (.iload_n 2, 1) := by decide +kernel
theorem d4_17 : decode jdk_52_method_16_code 17 = .ok (.if_icmp .eq 40, 3) := by decide +kernel
theorem d4_20 : decode jdk_52_method_16_code 20 = .ok (.aload_n 0, 1) := by decide +kernel
theorem d4_21 : decode jdk_52_method_16_code 21 = .ok (.iload_n 1, 1) := by decide +kernel
theorem d4_22 : decode jdk_52_method_16_code 22 = .ok (.iload_n 2, 1) := by decide +kernel
theorem pd_131 : parseMethodDescriptor "([CII)[B" = some ⟨[(.array .char), .int, .int], some (.array .byte)⟩ := by decide +kernel
theorem d4_23 : decode jdk_52_method_16_code 23 = .ok (.invokestatic 119, 3) := by decide +kernel
theorem d4_26 : decode jdk_52_method_16_code 26 = .ok (.astore 5, 2) := by decide +kernel
theorem d4_28 : decode jdk_52_method_16_code 28 = .ok (.aload 5, 2) := by decide +kernel
theorem d4_30 : decode jdk_52_method_16_code 30 = .ok (.iload 4, 2) := by decide +kernel
theorem pd_136 : parseMethodDescriptor "([BI)C" = some ⟨[(.array .byte), .int], some .char⟩ := by decide +kernel
theorem d4_32 : decode jdk_52_method_16_code 32 = .ok (.invokestatic 71, 3) := by decide +kernel
theorem d4_35 : decode jdk_52_method_16_code 35 = .ok (.sipush 255, 3) := by decide +kernel
theorem d4_38 : decode jdk_52_method_16_code 38 = .ok (.if_icmp .gt 16, 3) := by decide +kernel
theorem d4_54 : decode jdk_52_method_16_code 54 = .ok (.aload 5, 2) := by decide +kernel
theorem d4_56 : decode jdk_52_method_16_code 56 = .ok (.areturn, 1) := by decide +kernel
theorem d4_57 : decode jdk_52_method_16_code 57 = .ok (.aload_n 3, 1) := by decide +kernel
theorem d4_58 : decode jdk_52_method_16_code 58 = .ok (.areturn, 1) := by decide +kernel
def Q_rmC3_1 (Z : State) (va : Addr) (kv : ClassId) (c0 : Int32) (h0 : Heap) (n0 : Nat) (v : Option Value) (h : Heap) (L : List Loc) : Prop := ∃ da : Addr, ∃ kd : ClassId, ∃ vs : List Value, ∃ ln : Int32, v = some (.ref da) ∧ Fr n0 L ∧ Keep h0 h [] ∧ Arv Z h da kd .byte ln vs (.int 0) ∧ h0.size ≤ da ∧ (ln = 1 ∨ ln = 2)
set_option maxRecDepth 65536 in
set_option maxHeartbeats 40000000 in
theorem rmC3_1 (l : Launch) (Z : State) (a0 : Array Value) (hw : ∀ d ∈ tables_1, d.before a0 Z = true) (ws : List Jvm.Cond) (va : Addr) (kv : ClassId) (c0 : Int32) (h0 : Heap) (n0 : Nat) (Z0 : n0 ≤ h0.size) (O0 : Old Z n0 h0) (V_va : Arv Z h0 va kv .char (1 : Int32) ([(.int c0)]) (.int 0)) (hn0 : (nar .char c0 = c0)) (U0 : Sta Z Z.heap "java/lang/StringUTF16" "$assertionsDisabled" "Z" (.int 1)) (U1 : Sta Z Z.heap "java/lang/StringUTF16" "HI_BYTE_SHIFT" "I" (.int 0)) (U2 : Sta Z Z.heap "java/lang/StringUTF16" "LO_BYTE_SHIFT" "I" (.int 8)) :
    MetFree l (⟨"java/lang/StringUTF16", "compress", "([CII)[B"⟩ : MethodName) (head1 (Jvm.Cond.code (⟨"java/lang/StringUTF16", "compress", "([CII)[B"⟩ : MethodName) jdk_52_method_16_code 6 (some (.array .byte)) :: ws) ({ frames := 3, cells := 2, slots := 3, locals := 40 } : Room)) (fun as' U => as' = #[(.ref va), (.int 0), (.int 1)] ∧ Z.Warmed39 U.vm ∧ U.heap = h0) (fun _ _ _ _ _ => True) (fun _ U o U' => ∃ v L, o = .returned v ∧ Q_rmC3_1 Z va kv c0 h0 n0 v U'.heap L ∧ FrameEnd U o U' L ({ frames := 3, cells := 2, slots := 3, locals := 40 } : Room).cells ({ frames := 3, cells := 2, slots := 3, locals := 40 } : Room).slots) := by
  refine MetFree.of_bodySF (plainFor_of_name pn_1) hisR ?_
  intro p e s m args below meth c s₁ Bd hml0 hP hK
  obtain ⟨rfl, hZ, hh⟩ := hP
  have hx := Bd.exec
  have hby := Bd.bytes
  have hml : c.maxLocals = 6 := hml0
  have hown : s.vm.findClass "java/lang/StringUTF16" = some m.cls := findClass_of_methodNamed Bd.named
  have hnm := (name_of_methodNamed Bd.named Bd.method).1
  have X0 : Stand p l e ({ frames := 3, cells := 2, slots := 3, locals := 40 } : Room) s m #[(.ref va), (.int 0), (.int 1)] below meth c s₁ [] 0 0 := Stand.of_body Bd
  have e0 : s₁.heap = h0 := by rw [← hh, Bd.state]; rfl
  have N0 := Fr.nil n0
  refine Go.enter (F := EndN s (Q_rmC3_1 Z va kv c0 h0 n0) ({ frames := 3, cells := 2, slots := 3, locals := 40 } : Room).cells ({ frames := 3, cells := 2, slots := 3, locals := 40 } : Room).slots) (ef_113 m va (0 : Int32) (1 : Int32)) ?_
  show Go _ _ _ _ s₁ (mkF m 0 #[rv va, iv 0, iv 1, un, un, un] [])
  refine Go.iload1 1 X0 hx (hb hby d4_0) rfl rfl ?_
  obtain ⟨da, g1⟩ : ∃ z, z = h0.size := ⟨_, rfl⟩
  have ge_da : n0 ≤ da := Nat.le_trans Z0 (Nat.le_of_eq g1.symm)
  have sz_da : h0.size ≤ da := Nat.le_trans (Keep.refl h0 []).1 (Nat.le_of_eq g1.symm)
  have ne_va_da : va ≠ da := Nat.ne_of_lt (Nat.lt_of_lt_of_le V_va.lt (Nat.le_of_eq g1.symm))
  obtain ⟨T1, h1, k1, X1, e1, E1, A1, Ea1, st1⟩ := newPE X0 hx hZ (ow hw 20 rfl) e0 (g := (mkF m 1 #[rv va, iv 0, iv 1, un, un, un] [(.int 1)])) rfl (hb hby d4_1) rfl (by decide) (cap := 1) (by decide) (by decide) (by decide) (by decide) (ad := "[B") rfl
  rw [← g1] at A1 Ea1 st1
  have V_da : Arv Z h1 da k1 .byte (1 : Int32) [(.int 0)] (.int 0) := (Arv.new A1 (by decide)).pad (pad_rep [] (.int 0) 1)
  refine Go.by st1 ?_
  show Go _ _ _ _ T1 (mkF m 3 #[rv va, iv 0, iv 1, un, un, un] [(.ref da)])
  refine Go.astore1 4 X1 hx (L' := #[rv va, iv 0, iv 1, rv da, un, un]) (hb hby d4_3) rfl rfl rfl ?_
  refine Go.aload1 5 X1 hx (hb hby d4_4) rfl rfl rfl ?_
  refine Go.iload1 6 X1 hx (hb hby d4_5) rfl rfl ?_
  refine Go.aload1 7 X1 hx (hb hby d4_6) rfl rfl rfl ?_
  refine Go.iconst 8 X1 hx (0 : Int32) (hb hby d4_7) (by decide) rfl ?_
  refine Go.iload1 9 X1 hx (hb hby d4_8) rfl rfl ?_
  have F2 : Arv Z h1 va kv .char (1 : Int32) [(.int c0)] (.int 0) := V_va.ext E1
  have F3 : n0 ≤ h1.size := Nat.le_trans Z0 E1.1
  obtain ⟨_, _, ⟨T4, L4, k4, n4⟩, -, X4, ⟨Lc4, hQ4, l4, y4, z4⟩, st4⟩ := Jvm.LawKit.callS X1 hx (y := (⟨"java/lang/StringUTF16", "compress", "([CI[BII)I"⟩ : MethodName)) hown (mvT hZ (ow hw 21 rfl)) (mvT hZ (ow hw 22 rfl)) (mvT hZ (ow hw 18 rfl)) (mvT hZ (ow hw 23 rfl)) (by decide) (backOf (W := 0) (rmC5_1 l Z a0 hw [] va da kv k1 c0 h1 n0 F3 F2 V_da ge_da ne_va_da) hZ (ow hw 23 rfl) (ow hw 18 rfl) (by decide) (by decide)) (g := (mkF m 9 #[rv va, iv 0, iv 1, rv da, un, un] [(.int 1), (.int 0), (.ref da), (.int 0), (.ref va)])) rfl (by rw [hml]; rfl) (argsL := [(.ref va), (.int 0), (.ref da), (.int 0), (.int 1)]) (rest := []) (lenOf pd_122 rfl) rfl (by show 2 * 0 + _ ≤ _; exact Nat.le_of_eq rfl) (hb hby d4_9) (fun _ _ => ⟨rfl, e1, (by decide : 1 + 0 ≤ _), (by decide : 1 + 0 ≤ _)⟩)
  dsimp only [Pt.U, Pt.locs, Pt.cells, Pt.slots] at X4 l4 y4 z4 st4 hQ4
  subst l4 y4 z4
  obtain ⟨r5, ds, rfl, N4q, K4, Q4_0, Q4_1⟩ := hQ4
  have N4 := Fr.app N0 N4q
  refine Go.by st4 ?_
  show Go _ _ _ _ T4 (mkF m 12 #[rv va, iv 0, iv 1, rv da, un, un] [(.int r5)])
  rcases Q4_1 with ⟨rfl, hg⟩ | rfl
  · show Go _ _ _ _ T4 (mkF m 12 #[rv va, iv 0, iv 1, rv da, un, un] [(.int 0)])
    refine Go.istore2 14 X4 hx (L' := #[rv va, iv 0, iv 1, rv da, iv 0, un]) (hb hby d4_12) rfl rfl ?_
    refine Go.iload2 16 X4 hx (hb hby d4_14) rfl rfl ?_
    refine Go.iload1 17 X4 hx (hb hby d4_16) rfl rfl ?_
    refine Go.icmpN 20 X4 hx (hb hby d4_17) (XT.ii_eq_f (by decide)) rfl ?_
    refine Go.aload1 21 X4 hx (hb hby d4_20) rfl rfl rfl ?_
    refine Go.iload1 22 X4 hx (hb hby d4_21) rfl rfl ?_
    refine Go.iload1 23 X4 hx (hb hby d4_22) rfl rfl ?_
    have F5 : Old Z n0 h1 := O0.ext E1
    have F6 : Old Z n0 T4.heap := F5.keep K4 (allS ge_da all0)
    have F7 : Arv Z T4.heap va kv .char (1 : Int32) [(.int c0)] (.int 0) := F2.keep K4 (ninS ne_va_da nin0)
    have F8 : n0 ≤ T4.heap.size := Nat.le_trans F3 K4.1
    have F9 : Keep h0 h1 [] := (Keep.refl h0 []).ext E1
    have F10 : Keep h0 T4.heap [] := F9.trans K4 (allS (Or.inr sz_da) all0)
    have F11 : Exa Z T4.heap da "[B" := Ea1.keep K4
    obtain ⟨_, _, ⟨T12, L12, k12, n12⟩, -, X12, ⟨Lc12, hQ12, l12, y12, z12⟩, st12⟩ := Jvm.LawKit.callS X4 hx (y := (⟨"java/lang/StringUTF16", "toBytes", "([CII)[B"⟩ : MethodName)) hown (mvT hZ (ow hw 58 rfl)) (mvT hZ (ow hw 59 rfl)) (mvT hZ (ow hw 18 rfl)) (mvT hZ (ow hw 60 rfl)) (by decide) (backOf (W := 0) (rmToB1 l Z a0 hw [] va kv c0 T4.heap n0 F8 F6 F7 U0 U1 U2) hZ (ow hw 60 rfl) (ow hw 18 rfl) (by decide) (by decide)) (g := (mkF m 23 #[rv va, iv 0, iv 1, rv da, iv 0, un] [(.int 1), (.int 0), (.ref va)])) rfl (by rw [hml]; rfl) (argsL := [(.ref va), (.int 0), (.int 1)]) (rest := []) (lenOf pd_131 rfl) rfl (by show 2 * 0 + _ ≤ _; exact Nat.le_of_eq rfl) (hb hby d4_23) (fun _ _ => ⟨rfl, rfl, (by decide : 1 + 1 ≤ _), (by decide : 1 + 2 ≤ _)⟩)
    dsimp only [Pt.U, Pt.locs, Pt.cells, Pt.slots] at X12 l12 y12 z12 st12 hQ12
    subst l12 y12 z12
    obtain ⟨tb, kt, rfl, N12q, K12, Q12_0, Q12_1⟩ := hQ12
    have N12 := Fr.app N4 N12q
    refine Go.by st12 ?_
    show Go _ _ _ _ T12 (mkF m 26 #[rv va, iv 0, iv 1, rv da, iv 0, un] [(.ref tb)])
    have ge_tb : n0 ≤ tb := Nat.le_trans F8 Q12_1
    have sz_tb : h0.size ≤ tb := Nat.le_trans F10.1 Q12_1
    have ne_da_tb : da ≠ tb := Nat.ne_of_lt (Nat.lt_of_lt_of_le Q4_0.lt Q12_1)
    have ne_va_tb : va ≠ tb := Nat.ne_of_lt (Nat.lt_of_lt_of_le F7.lt Q12_1)
    refine Go.astore2 28 X12 hx (L' := #[rv va, iv 0, iv 1, rv da, iv 0, rv tb]) (hb hby d4_26) rfl rfl rfl ?_
    refine Go.aload2 30 X12 hx (hb hby d4_28) rfl rfl rfl ?_
    refine Go.iload2 32 X12 hx (hb hby d4_30) rfl rfl ?_
    have F13 : Old Z n0 T12.heap := F6.keep K12 all0
    have F14 : n0 ≤ T12.heap.size := Nat.le_trans F8 K12.1
    obtain ⟨_, _, ⟨T15, L15, k15, n15⟩, -, X15, ⟨Lc15, hQ15, l15, y15, z15⟩, st15⟩ := Jvm.LawKit.callS X12 hx (y := (⟨"java/lang/StringUTF16", "getChar", "([BI)C"⟩ : MethodName)) hown (mvT hZ (ow hw 74 rfl)) (mvT hZ (ow hw 75 rfl)) (mvT hZ (ow hw 18 rfl)) (mvT hZ (ow hw 76 rfl)) (by decide) (backOf (W := 0) (rmGetC1_0 l Z a0 hw [] tb kt c0 (0 : Int32) (0 : Int32) T12.heap n0 F14 F13 Q12_0 hn0 U0 U1 U2) hZ (ow hw 76 rfl) (ow hw 18 rfl) (by decide) (by decide)) (g := (mkF m 32 #[rv va, iv 0, iv 1, rv da, iv 0, rv tb] [(.int 0), (.ref tb)])) rfl (by rw [hml]; rfl) (argsL := [(.ref tb), (.int 0)]) (rest := []) (lenOf pd_136 rfl) rfl (by show 2 * 0 + _ ≤ _; exact Nat.le_of_eq rfl) (hb hby d4_32) (fun _ _ => ⟨rfl, rfl, (by decide : 2 + 0 ≤ _), (by decide : 3 + 0 ≤ _)⟩)
    dsimp only [Pt.U, Pt.locs, Pt.cells, Pt.slots] at X15 l15 y15 z15 st15 hQ15
    subst l15 y15 z15
    obtain ⟨rfl, N15q, e15⟩ := hQ15
    have N15 := Fr.app N12 N15q
    refine Go.by st15 ?_
    show Go _ _ _ _ T15 (mkF m 35 #[rv va, iv 0, iv 1, rv da, iv 0, rv tb] [(.int c0)])
    refine Go.sipush 38 X15 hx (255 : Int32) (hb hby d4_35) (by decide) rfl ?_
    refine Go.icmpY 54 X15 hx (hb hby d4_38) (XT.ii_gt_t hg) (by decide) (by decide) ?_
    refine Go.aload2 56 X15 hx (hb hby d4_54) rfl rfl rfl ?_
    have F16 : Keep h0 T12.heap [] := F10.trans K12 all0
    exact Go.retA X15 hx Bd.notSynchronized Bd.returns rfl rfl (hb hby d4_56) (by rw [e15]; exact ⟨tb, kt, [(.int (own_lo c0)), (.int (own_hi c0))], (2 : Int32), rfl, N15, F16, Q12_0, sz_tb, Or.inr rfl⟩) (by decide) (by decide)
  · show Go _ _ _ _ T4 (mkF m 12 #[rv va, iv 0, iv 1, rv da, un, un] [(.int 1)])
    refine Go.istore2 14 X4 hx (L' := #[rv va, iv 0, iv 1, rv da, iv 1, un]) (hb hby d4_12) rfl rfl ?_
    refine Go.iload2 16 X4 hx (hb hby d4_14) rfl rfl ?_
    refine Go.iload1 17 X4 hx (hb hby d4_16) rfl rfl ?_
    refine Go.icmpY 57 X4 hx (hb hby d4_17) (XT.ii_eq_t rfl) (by decide) (by decide) ?_
    refine Go.aload1 58 X4 hx (hb hby d4_57) rfl rfl rfl ?_
    have F17 : Keep h0 h1 [] := (Keep.refl h0 []).ext E1
    have F18 : Keep h0 T4.heap [] := F17.trans K4 (allS (Or.inr sz_da) all0)
    exact Go.retA X4 hx Bd.notSynchronized Bd.returns rfl rfl (hb hby d4_58) ⟨da, k1, ds, (1 : Int32), rfl, N4, F18, Q4_0, sz_da, Or.inl rfl⟩ (by decide) (by decide)
theorem d6_0 : decode jdk_52_method_15_code 0 = .ok (.iload_n 1, 1) := by decide +kernel
theorem d6_1 : decode jdk_52_method_15_code 1 = .ok (.aload_n 0, 1) := by decide +kernel
theorem d6_2 : decode jdk_52_method_15_code 2 = .ok (.arraylength, 1) := by decide +kernel
theorem d6_3 : decode jdk_52_method_15_code 3 = .ok (.isub, 1) := by decide +kernel
theorem d6_4 : decode jdk_52_method_15_code 4 = .ok (.bipush 31, 2) := by decide +kernel
theorem d6_6 : decode jdk_52_method_15_code 6 = .ok (.iushr, 1) := by decide +kernel
theorem d6_7 : decode jdk_52_method_15_code 7 = .ok (.i2b, 1) := by decide +kernel
theorem d6_8 : decode jdk_52_method_15_code 8 = .ok (.ireturn, 1) := by decide +kernel
def Q_rmCoder1_0 (Z : State) (da : Addr) (kd : ClassId) (vs : List Value) (h0 : Heap) (n0 : Nat) (v : Option Value) (h : Heap) (L : List Loc) : Prop := v = some (.int 0) ∧ Fr n0 L ∧ h = h0
set_option maxRecDepth 65536 in
set_option maxHeartbeats 40000000 in
theorem rmCoder1_0 (l : Launch) (Z : State) (a0 : Array Value) (hw : ∀ d ∈ tables_1, d.before a0 Z = true) (ws : List Jvm.Cond) (da : Addr) (kd : ClassId) (vs : List Value) (h0 : Heap) (n0 : Nat) (Z0 : n0 ≤ h0.size) (V_da : Arv Z h0 da kd .byte (1 : Int32) vs (.int 0)) :
    MetFree l (⟨"java/lang/StringUTF16", "coderFromArrayLen", "([BI)B"⟩ : MethodName) (head1 (Jvm.Cond.code (⟨"java/lang/StringUTF16", "coderFromArrayLen", "([BI)B"⟩ : MethodName) jdk_52_method_15_code 2 (some .byte) :: ws) ({ frames := 0, cells := 0, slots := 0, locals := 0 } : Room)) (fun as' U => as' = #[(.ref da), (.int 1)] ∧ Z.Warmed39 U.vm ∧ U.heap = h0) (fun _ _ _ _ _ => True) (fun _ U o U' => ∃ v L, o = .returned v ∧ Q_rmCoder1_0 Z da kd vs h0 n0 v U'.heap L ∧ FrameEnd U o U' L ({ frames := 0, cells := 0, slots := 0, locals := 0 } : Room).cells ({ frames := 0, cells := 0, slots := 0, locals := 0 } : Room).slots) := by
  refine MetFree.of_bodySF (plainFor_of_name pn_1) hisR ?_
  intro p e s m args below meth c s₁ Bd hml0 hP hK
  obtain ⟨rfl, hZ, hh⟩ := hP
  have hx := Bd.exec
  have hby := Bd.bytes
  have hml : c.maxLocals = 2 := hml0
  have hown : s.vm.findClass "java/lang/StringUTF16" = some m.cls := findClass_of_methodNamed Bd.named
  have hnm := (name_of_methodNamed Bd.named Bd.method).1
  have X0 : Stand p l e ({ frames := 0, cells := 0, slots := 0, locals := 0 } : Room) s m #[(.ref da), (.int 1)] below meth c s₁ [] 0 0 := Stand.of_body Bd
  have e0 : s₁.heap = h0 := by rw [← hh, Bd.state]; rfl
  have N0 := Fr.nil n0
  refine Go.enter (F := EndN s (Q_rmCoder1_0 Z da kd vs h0 n0) ({ frames := 0, cells := 0, slots := 0, locals := 0 } : Room).cells ({ frames := 0, cells := 0, slots := 0, locals := 0 } : Room).slots) (ef_40 m da (1 : Int32)) ?_
  show Go _ _ _ _ s₁ (mkF m 0 #[rv da, iv 1] [])
  refine Go.iload1 1 X0 hx (hb hby d6_0) rfl rfl ?_
  refine Go.aload1 2 X0 hx (hb hby d6_1) rfl rfl rfl ?_
  obtain ⟨cl1, Ar1, -, S1, M1, -, -⟩ := id V_da
  refine Go.by (fun _ gk => X0.arraylength hx (by rw [e0]; exact Ar1.1) (State.isArrayOf_alike hZ.alike Ar1.2.1) (g := (mkF m 2 #[rv da, iv 1] [(.ref da), (.int 1)])) rfl rfl (hb hby d6_2) _ gk) ?_
  rw [len_of S1 M1]
  show Go _ _ _ _ s₁ (mkF m 3 #[rv da, iv 1] [(.int 1), (.int 1)])
  refine Go.isub 4 X0 hx (hb hby d6_3) rfl ?_
  rw [(by decide : ((1 : Int32) - (1 : Int32)) = (0 : Int32))]
  refine Go.bipush 6 X0 hx (31 : Int32) (hb hby d6_4) (by decide) rfl ?_
  refine Go.iushr 7 X0 hx (hb hby d6_6) rfl ?_
  rw [(by decide : (XT.ushr (0 : Int32) (31 : Int32)) = (0 : Int32))]
  refine Go.i2b 8 X0 hx (hb hby d6_7) rfl ?_
  rw [(by decide : ((0 : Int32).toInt8.toInt32) = (0 : Int32))]
  exact Go.retI X0 hx Bd.notSynchronized Bd.returns rfl (by simp) (hb hby d6_8) (by rw [e0]; exact ⟨rfl, N0, rfl⟩) (by decide) (by decide)
def Q_rmCoder1_1 (Z : State) (da : Addr) (kd : ClassId) (vs : List Value) (h0 : Heap) (n0 : Nat) (v : Option Value) (h : Heap) (L : List Loc) : Prop := v = some (.int 1) ∧ Fr n0 L ∧ h = h0
set_option maxRecDepth 65536 in
set_option maxHeartbeats 40000000 in
theorem rmCoder1_1 (l : Launch) (Z : State) (a0 : Array Value) (hw : ∀ d ∈ tables_1, d.before a0 Z = true) (ws : List Jvm.Cond) (da : Addr) (kd : ClassId) (vs : List Value) (h0 : Heap) (n0 : Nat) (Z0 : n0 ≤ h0.size) (V_da : Arv Z h0 da kd .byte (2 : Int32) vs (.int 0)) :
    MetFree l (⟨"java/lang/StringUTF16", "coderFromArrayLen", "([BI)B"⟩ : MethodName) (head1 (Jvm.Cond.code (⟨"java/lang/StringUTF16", "coderFromArrayLen", "([BI)B"⟩ : MethodName) jdk_52_method_15_code 2 (some .byte) :: ws) ({ frames := 0, cells := 0, slots := 0, locals := 0 } : Room)) (fun as' U => as' = #[(.ref da), (.int 1)] ∧ Z.Warmed39 U.vm ∧ U.heap = h0) (fun _ _ _ _ _ => True) (fun _ U o U' => ∃ v L, o = .returned v ∧ Q_rmCoder1_1 Z da kd vs h0 n0 v U'.heap L ∧ FrameEnd U o U' L ({ frames := 0, cells := 0, slots := 0, locals := 0 } : Room).cells ({ frames := 0, cells := 0, slots := 0, locals := 0 } : Room).slots) := by
  refine MetFree.of_bodySF (plainFor_of_name pn_1) hisR ?_
  intro p e s m args below meth c s₁ Bd hml0 hP hK
  obtain ⟨rfl, hZ, hh⟩ := hP
  have hx := Bd.exec
  have hby := Bd.bytes
  have hml : c.maxLocals = 2 := hml0
  have hown : s.vm.findClass "java/lang/StringUTF16" = some m.cls := findClass_of_methodNamed Bd.named
  have hnm := (name_of_methodNamed Bd.named Bd.method).1
  have X0 : Stand p l e ({ frames := 0, cells := 0, slots := 0, locals := 0 } : Room) s m #[(.ref da), (.int 1)] below meth c s₁ [] 0 0 := Stand.of_body Bd
  have e0 : s₁.heap = h0 := by rw [← hh, Bd.state]; rfl
  have N0 := Fr.nil n0
  refine Go.enter (F := EndN s (Q_rmCoder1_1 Z da kd vs h0 n0) ({ frames := 0, cells := 0, slots := 0, locals := 0 } : Room).cells ({ frames := 0, cells := 0, slots := 0, locals := 0 } : Room).slots) (ef_40 m da (1 : Int32)) ?_
  show Go _ _ _ _ s₁ (mkF m 0 #[rv da, iv 1] [])
  refine Go.iload1 1 X0 hx (hb hby d6_0) rfl rfl ?_
  refine Go.aload1 2 X0 hx (hb hby d6_1) rfl rfl rfl ?_
  obtain ⟨cl1, Ar1, -, S1, M1, -, -⟩ := id V_da
  refine Go.by (fun _ gk => X0.arraylength hx (by rw [e0]; exact Ar1.1) (State.isArrayOf_alike hZ.alike Ar1.2.1) (g := (mkF m 2 #[rv da, iv 1] [(.ref da), (.int 1)])) rfl rfl (hb hby d6_2) _ gk) ?_
  rw [len_of S1 M1]
  show Go _ _ _ _ s₁ (mkF m 3 #[rv da, iv 1] [(.int 2), (.int 1)])
  refine Go.isub 4 X0 hx (hb hby d6_3) rfl ?_
  rw [(by decide : ((1 : Int32) - (2 : Int32)) = (-1 : Int32))]
  refine Go.bipush 6 X0 hx (31 : Int32) (hb hby d6_4) (by decide) rfl ?_
  refine Go.iushr 7 X0 hx (hb hby d6_6) rfl ?_
  rw [(by decide : (XT.ushr (-1 : Int32) (31 : Int32)) = (1 : Int32))]
  refine Go.i2b 8 X0 hx (hb hby d6_7) rfl ?_
  rw [(by decide : ((1 : Int32).toInt8.toInt32) = (1 : Int32))]
  exact Go.retI X0 hx Bd.notSynchronized Bd.returns rfl (by simp) (hb hby d6_8) (by rw [e0]; exact ⟨rfl, N0, rfl⟩) (by decide) (by decide)
theorem pn_152 : plainName "java/lang/String" = true := by first | (simp [plainName, overriddenIn]; done) | decide +kernel
theorem ef_153 (m : MethodId) (x0 : Addr) (x1 : Addr) (x2 : Int32) (x3 : Int32) : entryFrame m #[(.ref x0), (.ref x1), (.int x2), (.int x3), .null] 6 = mkF m 0 #[rv x0, rv x1, iv x2, iv x3, .val .null, un] [] := by (first | (simp [entryFrame, mkF, argsToLocals, Value.category]; done) | rfl)
theorem d2_0 : decode jdk_42_method_149_code 0 = .ok (.aload_n 0, 1) := by decide +kernel
theorem d2_1 : decode jdk_42_method_149_code 1 = .ok (.invokespecial 1, 3) := by decide +kernel
theorem d2_4 : decode jdk_42_method_149_code 4 = .ok (.iload_n 3, 1) := by decide +kernel
theorem d2_5 : decode jdk_42_method_149_code 5 = .ok (.ifCond .ne 22, 3) := by decide +kernel
theorem d2_27 : decode jdk_42_method_149_code 27 = .ok (.getstatic 38, 3) := by decide +kernel
theorem d2_30 : decode jdk_42_method_149_code 30 = .ok (.ifCond .eq 28, 3) := by decide +kernel
theorem d2_33 : decode jdk_42_method_149_code 33 = .ok (.aload_n 1, 1) := by decide +kernel
theorem d2_34 : decode jdk_42_method_149_code 34 = .ok (.iload_n 2, 1) := by decide +kernel
theorem d2_35 : decode jdk_42_method_149_code 35 = .ok (.iload_n 3, 1) := by decide +kernel
theorem d2_36 : decode jdk_42_method_149_code 36 = .ok (.invokestatic 177, 3) := by decide +kernel
theorem d2_39 : decode jdk_42_method_149_code 39 = .ok (.astore 5, 2) := by decide +kernel
theorem d2_41 : decode jdk_42_method_149_code 41 = .ok (.aload_n 0, 1) := by decide +kernel
theorem d2_42 : decode jdk_42_method_149_code 42 = .ok (.aload 5, 2) := by decide +kernel
theorem d2_44 : decode jdk_42_method_149_code 44 = .ok (.iload_n 3, 1) := by decide +kernel
theorem pd_168 : parseMethodDescriptor "([BI)B" = some ⟨[(.array .byte), .int], some .byte⟩ := by decide +kernel
theorem d2_45 : decode jdk_42_method_149_code 45 = .ok (.invokestatic 47, 3) := by decide +kernel
theorem d2_48 : decode jdk_42_method_149_code 48 = .ok (.putfield 15, 3) := by decide +kernel
theorem d2_51 : decode jdk_42_method_149_code 51 = .ok (.aload_n 0, 1) := by decide +kernel
theorem d2_52 : decode jdk_42_method_149_code 52 = .ok (.aload 5, 2) := by decide +kernel
theorem d2_54 : decode jdk_42_method_149_code 54 = .ok (.putfield 9, 3) := by decide +kernel
theorem d2_57 : decode jdk_42_method_149_code 57 = .ok (.return_, 1) := by decide +kernel
def Q_rmS4_1 (Z : State) (a : Addr) (va : Addr) (kv : ClassId) (c0 : Int32) (cs : Int32) (h0 : Heap) (n0 : Nat) (v : Option Value) (h : Heap) (L : List Loc) : Prop := ∃ b : Addr, ∃ kb : ClassId, ∃ vs : List Value, ∃ ln : Int32, ∃ cd : Int32, v = none ∧ Fr n0 L ∧ Keep h0 h [a] ∧ Exa Z h a "java/lang/String" ∧ Fld Z h a "java/lang/String" "coder" "B" (.int cd) ∧ Fld Z h a "java/lang/String" "value" "[B" (.ref b) ∧ Arv Z h b kb .byte ln vs (.int 0) ∧ h0.size ≤ b ∧ ((ln = 1 ∧ cd = 0) ∨ (ln = 2 ∧ cd = 1))
set_option maxRecDepth 65536 in
set_option maxHeartbeats 40000000 in
theorem rmS4_1 (l : Launch) (Z : State) (a0 : Array Value) (hw : ∀ d ∈ tables_1, d.before a0 Z = true) (ws : List Jvm.Cond) (a : Addr) (va : Addr) (kv : ClassId) (c0 : Int32) (cs : Int32) (h0 : Heap) (n0 : Nat) (Z0 : n0 ≤ h0.size) (O0 : Old Z n0 h0) (E_a : Exa Z h0 a "java/lang/String") (F_a_value : Fld Z h0 a "java/lang/String" "value" "[B" .null) (F_a_coder : Fld Z h0 a "java/lang/String" "coder" "B" (.int 0)) (g_a : n0 ≤ a) (V_va : Arv Z h0 va kv .char (1 : Int32) ([(.int c0)]) (.int 0)) (hn0 : (nar .char c0 = c0)) (S_cs : Sta Z Z.heap "java/lang/String" "COMPACT_STRINGS" "Z" (.int cs)) (n_cs : ¬ cs = 0) (U0 : Sta Z Z.heap "java/lang/StringUTF16" "$assertionsDisabled" "Z" (.int 1)) (U1 : Sta Z Z.heap "java/lang/StringUTF16" "HI_BYTE_SHIFT" "I" (.int 0)) (U2 : Sta Z Z.heap "java/lang/StringUTF16" "LO_BYTE_SHIFT" "I" (.int 8)) :
    MetFree l (⟨"java/lang/String", "<init>", "([CIILjava/lang/Void;)V"⟩ : MethodName) (head1 (Jvm.Cond.code (⟨"java/lang/String", "<init>", "([CIILjava/lang/Void;)V"⟩ : MethodName) jdk_42_method_149_code 6 none :: ws) ({ frames := 4, cells := 2, slots := 3, locals := 57 } : Room)) (fun as' U => as' = #[(.ref a), (.ref va), (.int 0), (.int 1), .null] ∧ Z.Warmed39 U.vm ∧ U.heap = h0) (fun _ _ _ _ _ => True) (fun _ U o U' => ∃ v L, o = .returned v ∧ Q_rmS4_1 Z a va kv c0 cs h0 n0 v U'.heap L ∧ FrameEnd U o U' L ({ frames := 4, cells := 2, slots := 3, locals := 57 } : Room).cells ({ frames := 4, cells := 2, slots := 3, locals := 57 } : Room).slots) := by
  refine MetFree.of_bodySF (plainFor_of_name pn_152) hisR ?_
  intro p e s m args below meth c s₁ Bd hml0 hP hK
  obtain ⟨rfl, hZ, hh⟩ := hP
  have hx := Bd.exec
  have hby := Bd.bytes
  have hml : c.maxLocals = 6 := hml0
  have hown : s.vm.findClass "java/lang/String" = some m.cls := findClass_of_methodNamed Bd.named
  have hnm := (name_of_methodNamed Bd.named Bd.method).1
  have X0 : Stand p l e ({ frames := 4, cells := 2, slots := 3, locals := 57 } : Room) s m #[(.ref a), (.ref va), (.int 0), (.int 1), .null] below meth c s₁ [] 0 0 := Stand.of_body Bd
  have e0 : s₁.heap = h0 := by rw [← hh, Bd.state]; rfl
  have N0 := Fr.nil n0
  refine Go.enter (F := EndN s (Q_rmS4_1 Z a va kv c0 cs h0 n0) ({ frames := 4, cells := 2, slots := 3, locals := 57 } : Room).cells ({ frames := 4, cells := 2, slots := 3, locals := 57 } : Room).slots) (ef_153 m a va (0 : Int32) (1 : Int32)) ?_
  show Go _ _ _ _ s₁ (mkF m 0 #[rv a, rv va, iv 0, iv 1, .val .null, un] [])
  refine Go.aload1 1 X0 hx (hb hby d2_0) rfl rfl rfl ?_
  obtain ⟨T1, X1, e1, st1⟩ := initO X0 hx hZ hown (ow hw 12 rfl) (ow hw 13 rfl) (ow hw 14 rfl) e0 (g := (mkF m 1 #[rv a, rv va, iv 0, iv 1, .val .null, un] [(.ref a)])) rfl (by rw [hml]; rfl) rfl (hb hby d2_1) (by decide) (W := 0) (by show 2 * 0 + _ ≤ _; exact Nat.le_of_eq rfl) (by decide)
  refine Go.by st1 ?_
  show Go _ _ _ _ T1 (mkF m 4 #[rv a, rv va, iv 0, iv 1, .val .null, un] [])
  refine Go.iload1 5 X1 hx (hb hby d2_4) rfl rfl ?_
  refine Go.ifY 27 X1 hx (hb hby d2_5) (XT.i0_ne_t (by decide)) (by decide) (by decide) ?_
  have F2 : Sta Z h0 "java/lang/String" "COMPACT_STRINGS" "Z" (.int cs) := S_cs.ext O0.2
  obtain ⟨T3, X3, e3, st3⟩ := getS2 X1 hx hZ hown (host := "") (Or.inl (ow hw 15 rfl)) Via.refl e1 F2 (g := (mkF m 27 #[rv a, rv va, iv 0, iv 1, .val .null, un] [])) rfl (hb hby d2_27)
  refine Go.by st3 ?_
  show Go _ _ _ _ T3 (mkF m 30 #[rv a, rv va, iv 0, iv 1, .val .null, un] [(.int cs)])
  refine Go.ifN 33 X3 hx (hb hby d2_30) (XT.i0_eq_f n_cs) rfl ?_
  refine Go.aload1 34 X3 hx (hb hby d2_33) rfl rfl rfl ?_
  refine Go.iload1 35 X3 hx (hb hby d2_34) rfl rfl ?_
  refine Go.iload1 36 X3 hx (hb hby d2_35) rfl rfl ?_
  obtain ⟨_, _, ⟨T4, L4, k4, n4⟩, -, X4, ⟨Lc4, hQ4, l4, y4, z4⟩, st4⟩ := Jvm.LawKit.callS X3 hx (y := (⟨"java/lang/StringUTF16", "compress", "([CII)[B"⟩ : MethodName)) hown (mvT hZ (ow hw 16 rfl)) (mvT hZ (ow hw 17 rfl)) (mvT hZ (ow hw 18 rfl)) (mvT hZ (ow hw 19 rfl)) (by decide) (backOf (W := 0) (rmC3_1 l Z a0 hw [] va kv c0 h0 n0 Z0 O0 V_va hn0 U0 U1 U2) hZ (ow hw 19 rfl) (ow hw 18 rfl) (by decide) (by decide)) (g := (mkF m 36 #[rv a, rv va, iv 0, iv 1, .val .null, un] [(.int 1), (.int 0), (.ref va)])) rfl (by rw [hml]; rfl) (argsL := [(.ref va), (.int 0), (.int 1)]) (rest := []) (lenOf pd_131 rfl) rfl (by show 2 * 0 + _ ≤ _; exact Nat.le_of_eq rfl) (hb hby d2_36) (fun _ _ => ⟨rfl, e3, (by decide : 0 + 2 ≤ _), (by decide : 0 + 3 ≤ _)⟩)
  dsimp only [Pt.U, Pt.locs, Pt.cells, Pt.slots] at X4 l4 y4 z4 st4 hQ4
  subst l4 y4 z4
  obtain ⟨b, kb, vs, ln, rfl, N4q, K4, Q4_0, Q4_1, Q4_2⟩ := hQ4
  have N4 := Fr.app N0 N4q
  refine Go.by st4 ?_
  show Go _ _ _ _ T4 (mkF m 39 #[rv a, rv va, iv 0, iv 1, .val .null, un] [(.ref b)])
  have ge_b : n0 ≤ b := Nat.le_trans Z0 Q4_1
  have sz_b : h0.size ≤ b := Nat.le_trans (Keep.refl h0 [a]).1 Q4_1
  have ne_a_b : a ≠ b := Nat.ne_of_lt (Nat.lt_of_lt_of_le E_a.lt Q4_1)
  have ne_va_b : va ≠ b := Nat.ne_of_lt (Nat.lt_of_lt_of_le V_va.lt Q4_1)
  rcases Q4_2 with rfl | rfl
  · refine Go.astore2 41 X4 hx (L' := #[rv a, rv va, iv 0, iv 1, .val .null, rv b]) (hb hby d2_39) rfl rfl rfl ?_
    refine Go.aload1 42 X4 hx (hb hby d2_41) rfl rfl rfl ?_
    refine Go.aload2 44 X4 hx (hb hby d2_42) rfl rfl rfl ?_
    refine Go.iload1 45 X4 hx (hb hby d2_44) rfl rfl ?_
    have F5 : n0 ≤ T4.heap.size := Nat.le_trans Z0 K4.1
    obtain ⟨_, _, ⟨T6, L6, k6, n6⟩, -, X6, ⟨Lc6, hQ6, l6, y6, z6⟩, st6⟩ := Jvm.LawKit.callS X4 hx (y := (⟨"java/lang/StringUTF16", "coderFromArrayLen", "([BI)B"⟩ : MethodName)) hown (mvT hZ (ow hw 24 rfl)) (mvT hZ (ow hw 25 rfl)) (mvT hZ (ow hw 18 rfl)) (mvT hZ (ow hw 26 rfl)) (by decide) (backOf (W := 1) (rmCoder1_0 l Z a0 hw [] b kb vs T4.heap n0 F5 Q4_0) hZ (ow hw 26 rfl) (ow hw 18 rfl) (by decide) (by decide)) (g := (mkF m 45 #[rv a, rv va, iv 0, iv 1, .val .null, rv b] [(.int 1), (.ref b), (.ref a)])) rfl (by rw [hml]; rfl) (argsL := [(.ref b), (.int 1)]) (rest := [(.ref a)]) (lenOf pd_168 rfl) rfl (by show 2 * 0 + _ ≤ _; exact Nat.le_of_eq rfl) (hb hby d2_45) (fun _ _ => ⟨rfl, rfl, (by decide : 2 + 0 ≤ _), (by decide : 3 + 0 ≤ _)⟩)
    dsimp only [Pt.U, Pt.locs, Pt.cells, Pt.slots] at X6 l6 y6 z6 st6 hQ6
    subst l6 y6 z6
    obtain ⟨rfl, N6q, e6⟩ := hQ6
    have N6 := Fr.app N4 N6q
    refine Go.by st6 ?_
    show Go _ _ _ _ T6 (mkF m 48 #[rv a, rv va, iv 0, iv 1, .val .null, rv b] [(.int 0), (.ref a)])
    have F7 : Fld Z T4.heap a "java/lang/String" "coder" "B" (.int 0) := F_a_coder.keep K4 nin0
    have F8 : Exa Z T4.heap a "java/lang/String" := E_a.keep K4
    obtain ⟨T9, h9, X9, e9, W9, st9⟩ := putFN X6 hx hZ hown (ow hw 27 rfl) Via.refl e6 F7 F8 (Or.inr ⟨(ow hw 28 rfl), rfl, hnm⟩) (ow hw 3 rfl) (ty := .byte) (v' := (.int 0)) (by decide) rfl rfl (g := (mkF m 48 #[rv a, rv va, iv 0, iv 1, .val .null, rv b] [(.int 0), (.ref a)])) rfl rfl (hb hby d2_48)
    have N9 := Fr.snoc X9 N6 g_a
    have Fw9 : Fld Z h9 a "java/lang/String" "coder" "B" (.int 0) := F7.same W9
    refine Go.by st9 ?_
    show Go _ _ _ _ T9 (mkF m 51 #[rv a, rv va, iv 0, iv 1, .val .null, rv b] [])
    refine Go.aload1 52 X9 hx (hb hby d2_51) rfl rfl rfl ?_
    refine Go.aload2 54 X9 hx (hb hby d2_52) rfl rfl rfl ?_
    have F10 : Fld Z T4.heap a "java/lang/String" "value" "[B" .null := F_a_value.keep K4 nin0
    have F11 : Fld Z h9 a "java/lang/String" "value" "[B" .null := F10.other W9 (Or.inr (slot_ne (Or.inr (ow hw 30 rfl)) (Or.inr (ow hw 28 rfl)) (by decide) (t := (.array .byte)) (t' := .byte) (by decide) (by decide)))
    have F12 : Exa Z h9 a "java/lang/String" := F8.wr W9
    obtain ⟨T13, h13, X13, e13, W13, st13⟩ := putF X9 hx hZ hown (host := "") (Or.inl (ow hw 29 rfl)) Via.refl e9 F11 F12 (Or.inr ⟨(ow hw 30 rfl), rfl, hnm⟩) (ow hw 3 rfl) (ty := (.array .byte)) (by decide) rfl rfl (g := (mkF m 54 #[rv a, rv va, iv 0, iv 1, .val .null, rv b] [(.ref b), (.ref a)])) rfl rfl (hb hby d2_54)
    have N13 := Fr.snoc X13 N9 g_a
    have Fw13 : Fld Z h13 a "java/lang/String" "value" "[B" (.ref b) := F11.same W13
    refine Go.by st13 ?_
    show Go _ _ _ _ T13 (mkF m 57 #[rv a, rv va, iv 0, iv 1, .val .null, rv b] [])
    have F14 : Keep h0 T4.heap [a] := (Keep.refl h0 [a]).trans K4 all0
    have F15 : Keep h0 h9 [a] := F14.wr W9 (Or.inl (List.mem_of_getElem? (i := 0) rfl))
    have F16 : Keep h0 h13 [a] := F15.wr W13 (Or.inl (List.mem_of_getElem? (i := 0) rfl))
    have F17 : Exa Z h13 a "java/lang/String" := F12.wr W13
    have F18 : Fld Z h13 a "java/lang/String" "coder" "B" (.int 0) := Fw9.other W13 (Or.inr (slot_ne (Or.inr (ow hw 28 rfl)) (Or.inr (ow hw 30 rfl)) (by decide) (t := .byte) (t' := (.array .byte)) (by decide) (by decide)))
    have F19 : Arv Z h9 b kb .byte (1 : Int32) vs (.int 0) := Q4_0.other W9 (Ne.symm ne_a_b)
    have F20 : Arv Z h13 b kb .byte (1 : Int32) vs (.int 0) := F19.other W13 (Ne.symm ne_a_b)
    exact Go.retV X13 hx Bd.notSynchronized Bd.returns (hb hby d2_57) (by rw [e13]; exact ⟨b, kb, vs, (1 : Int32), (0 : Int32), rfl, N13, F16, F17, F18, Fw13, F20, sz_b, Or.inl ⟨rfl, rfl⟩⟩) (by decide) (by decide)
  · refine Go.astore2 41 X4 hx (L' := #[rv a, rv va, iv 0, iv 1, .val .null, rv b]) (hb hby d2_39) rfl rfl rfl ?_
    refine Go.aload1 42 X4 hx (hb hby d2_41) rfl rfl rfl ?_
    refine Go.aload2 44 X4 hx (hb hby d2_42) rfl rfl rfl ?_
    refine Go.iload1 45 X4 hx (hb hby d2_44) rfl rfl ?_
    have F21 : n0 ≤ T4.heap.size := Nat.le_trans Z0 K4.1
    obtain ⟨_, _, ⟨T22, L22, k22, n22⟩, -, X22, ⟨Lc22, hQ22, l22, y22, z22⟩, st22⟩ := Jvm.LawKit.callS X4 hx (y := (⟨"java/lang/StringUTF16", "coderFromArrayLen", "([BI)B"⟩ : MethodName)) hown (mvT hZ (ow hw 24 rfl)) (mvT hZ (ow hw 25 rfl)) (mvT hZ (ow hw 18 rfl)) (mvT hZ (ow hw 26 rfl)) (by decide) (backOf (W := 1) (rmCoder1_1 l Z a0 hw [] b kb vs T4.heap n0 F21 Q4_0) hZ (ow hw 26 rfl) (ow hw 18 rfl) (by decide) (by decide)) (g := (mkF m 45 #[rv a, rv va, iv 0, iv 1, .val .null, rv b] [(.int 1), (.ref b), (.ref a)])) rfl (by rw [hml]; rfl) (argsL := [(.ref b), (.int 1)]) (rest := [(.ref a)]) (lenOf pd_168 rfl) rfl (by show 2 * 0 + _ ≤ _; exact Nat.le_of_eq rfl) (hb hby d2_45) (fun _ _ => ⟨rfl, rfl, (by decide : 2 + 0 ≤ _), (by decide : 3 + 0 ≤ _)⟩)
    dsimp only [Pt.U, Pt.locs, Pt.cells, Pt.slots] at X22 l22 y22 z22 st22 hQ22
    subst l22 y22 z22
    obtain ⟨rfl, N22q, e22⟩ := hQ22
    have N22 := Fr.app N4 N22q
    refine Go.by st22 ?_
    show Go _ _ _ _ T22 (mkF m 48 #[rv a, rv va, iv 0, iv 1, .val .null, rv b] [(.int 1), (.ref a)])
    have F23 : Fld Z T4.heap a "java/lang/String" "coder" "B" (.int 0) := F_a_coder.keep K4 nin0
    have F24 : Exa Z T4.heap a "java/lang/String" := E_a.keep K4
    obtain ⟨T25, h25, X25, e25, W25, st25⟩ := putFN X22 hx hZ hown (ow hw 27 rfl) Via.refl e22 F23 F24 (Or.inr ⟨(ow hw 28 rfl), rfl, hnm⟩) (ow hw 3 rfl) (ty := .byte) (v' := (.int 1)) (by decide) rfl rfl (g := (mkF m 48 #[rv a, rv va, iv 0, iv 1, .val .null, rv b] [(.int 1), (.ref a)])) rfl rfl (hb hby d2_48)
    have N25 := Fr.snoc X25 N22 g_a
    have Fw25 : Fld Z h25 a "java/lang/String" "coder" "B" (.int 1) := F23.same W25
    refine Go.by st25 ?_
    show Go _ _ _ _ T25 (mkF m 51 #[rv a, rv va, iv 0, iv 1, .val .null, rv b] [])
    refine Go.aload1 52 X25 hx (hb hby d2_51) rfl rfl rfl ?_
    refine Go.aload2 54 X25 hx (hb hby d2_52) rfl rfl rfl ?_
    have F26 : Fld Z T4.heap a "java/lang/String" "value" "[B" .null := F_a_value.keep K4 nin0
    have F27 : Fld Z h25 a "java/lang/String" "value" "[B" .null := F26.other W25 (Or.inr (slot_ne (Or.inr (ow hw 30 rfl)) (Or.inr (ow hw 28 rfl)) (by decide) (t := (.array .byte)) (t' := .byte) (by decide) (by decide)))
    have F28 : Exa Z h25 a "java/lang/String" := F24.wr W25
    obtain ⟨T29, h29, X29, e29, W29, st29⟩ := putF X25 hx hZ hown (host := "") (Or.inl (ow hw 29 rfl)) Via.refl e25 F27 F28 (Or.inr ⟨(ow hw 30 rfl), rfl, hnm⟩) (ow hw 3 rfl) (ty := (.array .byte)) (by decide) rfl rfl (g := (mkF m 54 #[rv a, rv va, iv 0, iv 1, .val .null, rv b] [(.ref b), (.ref a)])) rfl rfl (hb hby d2_54)
    have N29 := Fr.snoc X29 N25 g_a
    have Fw29 : Fld Z h29 a "java/lang/String" "value" "[B" (.ref b) := F27.same W29
    refine Go.by st29 ?_
    show Go _ _ _ _ T29 (mkF m 57 #[rv a, rv va, iv 0, iv 1, .val .null, rv b] [])
    have F30 : Keep h0 T4.heap [a] := (Keep.refl h0 [a]).trans K4 all0
    have F31 : Keep h0 h25 [a] := F30.wr W25 (Or.inl (List.mem_of_getElem? (i := 0) rfl))
    have F32 : Keep h0 h29 [a] := F31.wr W29 (Or.inl (List.mem_of_getElem? (i := 0) rfl))
    have F33 : Exa Z h29 a "java/lang/String" := F28.wr W29
    have F34 : Fld Z h29 a "java/lang/String" "coder" "B" (.int 1) := Fw25.other W29 (Or.inr (slot_ne (Or.inr (ow hw 28 rfl)) (Or.inr (ow hw 30 rfl)) (by decide) (t := .byte) (t' := (.array .byte)) (by decide) (by decide)))
    have F35 : Arv Z h25 b kb .byte (2 : Int32) vs (.int 0) := Q4_0.other W25 (Ne.symm ne_a_b)
    have F36 : Arv Z h29 b kb .byte (2 : Int32) vs (.int 0) := F35.other W29 (Ne.symm ne_a_b)
    exact Go.retV X29 hx Bd.notSynchronized Bd.returns (hb hby d2_57) (by rw [e29]; exact ⟨b, kb, vs, (2 : Int32), (1 : Int32), rfl, N29, F32, F33, F34, Fw29, F36, sz_b, Or.inr ⟨rfl, rfl⟩⟩) (by decide) (by decide)
theorem ef_175 (m : MethodId) (x0 : Addr) (x1 : Addr) : entryFrame m #[(.ref x0), (.ref x1)] 2 = mkF m 0 #[rv x0, rv x1] [] := by (first | (simp [entryFrame, mkF, argsToLocals, Value.category]; done) | rfl)
theorem d1_0 : decode jdk_42_method_3_code 0 = .ok (.aload_n 0, 1) := by decide +kernel
theorem d1_1 : decode jdk_42_method_3_code 1 = .ok (.aload_n 1, 1) := by decide +kernel
theorem d1_2 : decode jdk_42_method_3_code 2 = .ok (.iconst 0, 1) := by decide +kernel
theorem d1_3 : decode jdk_42_method_3_code 3 = .ok (.aload_n 1, 1) := by decide +kernel
theorem d1_4 : decode jdk_42_method_3_code 4 = .ok (.arraylength, 1) := by decide +kernel
theorem d1_5 : decode jdk_42_method_3_code 5 = .ok (.aconst_null, 1) := by decide +kernel
theorem pd_182 : parseMethodDescriptor "([CIILjava/lang/Void;)V" = some ⟨[(.array .char), .int, .int, (.object "java/lang/Void")], none⟩ := by decide +kernel
theorem d1_6 : decode jdk_42_method_3_code 6 = .ok (.invokespecial 27, 3) := by decide +kernel
theorem d1_9 : decode jdk_42_method_3_code 9 = .ok (.return_, 1) := by decide +kernel
def Q_rmS1_1 (Z : State) (a : Addr) (va : Addr) (kv : ClassId) (c0 : Int32) (cs : Int32) (h0 : Heap) (n0 : Nat) (v : Option Value) (h : Heap) (L : List Loc) : Prop := ∃ b : Addr, ∃ kb : ClassId, ∃ vs : List Value, ∃ ln : Int32, ∃ cd : Int32, v = none ∧ Fr n0 L ∧ Keep h0 h [a] ∧ Exa Z h a "java/lang/String" ∧ Fld Z h a "java/lang/String" "coder" "B" (.int cd) ∧ Fld Z h a "java/lang/String" "value" "[B" (.ref b) ∧ Arv Z h b kb .byte ln vs (.int 0) ∧ h0.size ≤ b ∧ ((ln = 1 ∧ cd = 0) ∨ (ln = 2 ∧ cd = 1))
set_option maxRecDepth 65536 in
set_option maxHeartbeats 40000000 in
theorem rmS1_1 (l : Launch) (Z : State) (a0 : Array Value) (hw : ∀ d ∈ tables_1, d.before a0 Z = true) (ws : List Jvm.Cond) (a : Addr) (va : Addr) (kv : ClassId) (c0 : Int32) (cs : Int32) (h0 : Heap) (n0 : Nat) (Z0 : n0 ≤ h0.size) (O0 : Old Z n0 h0) (E_a : Exa Z h0 a "java/lang/String") (F_a_value : Fld Z h0 a "java/lang/String" "value" "[B" .null) (F_a_coder : Fld Z h0 a "java/lang/String" "coder" "B" (.int 0)) (g_a : n0 ≤ a) (V_va : Arv Z h0 va kv .char (1 : Int32) ([(.int c0)]) (.int 0)) (hn0 : (nar .char c0 = c0)) (S_cs : Sta Z Z.heap "java/lang/String" "COMPACT_STRINGS" "Z" (.int cs)) (n_cs : ¬ cs = 0) (U0 : Sta Z Z.heap "java/lang/StringUTF16" "$assertionsDisabled" "Z" (.int 1)) (U1 : Sta Z Z.heap "java/lang/StringUTF16" "HI_BYTE_SHIFT" "I" (.int 0)) (U2 : Sta Z Z.heap "java/lang/StringUTF16" "LO_BYTE_SHIFT" "I" (.int 8)) :
    MetFree l (⟨"java/lang/String", "<init>", "([C)V"⟩ : MethodName) (head1 (Jvm.Cond.code (⟨"java/lang/String", "<init>", "([C)V"⟩ : MethodName) jdk_42_method_3_code 2 none :: ws) ({ frames := 5, cells := 2, slots := 3, locals := 74 } : Room)) (fun as' U => as' = #[(.ref a), (.ref va)] ∧ Z.Warmed39 U.vm ∧ U.heap = h0) (fun _ _ _ _ _ => True) (fun _ U o U' => ∃ v L, o = .returned v ∧ Q_rmS1_1 Z a va kv c0 cs h0 n0 v U'.heap L ∧ FrameEnd U o U' L ({ frames := 5, cells := 2, slots := 3, locals := 74 } : Room).cells ({ frames := 5, cells := 2, slots := 3, locals := 74 } : Room).slots) := by
  refine MetFree.of_bodySF (plainFor_of_name pn_152) hisR ?_
  intro p e s m args below meth c s₁ Bd hml0 hP hK
  obtain ⟨rfl, hZ, hh⟩ := hP
  have hx := Bd.exec
  have hby := Bd.bytes
  have hml : c.maxLocals = 2 := hml0
  have hown : s.vm.findClass "java/lang/String" = some m.cls := findClass_of_methodNamed Bd.named
  have hnm := (name_of_methodNamed Bd.named Bd.method).1
  have X0 : Stand p l e ({ frames := 5, cells := 2, slots := 3, locals := 74 } : Room) s m #[(.ref a), (.ref va)] below meth c s₁ [] 0 0 := Stand.of_body Bd
  have e0 : s₁.heap = h0 := by rw [← hh, Bd.state]; rfl
  have N0 := Fr.nil n0
  refine Go.enter (F := EndN s (Q_rmS1_1 Z a va kv c0 cs h0 n0) ({ frames := 5, cells := 2, slots := 3, locals := 74 } : Room).cells ({ frames := 5, cells := 2, slots := 3, locals := 74 } : Room).slots) (ef_175 m a va) ?_
  show Go _ _ _ _ s₁ (mkF m 0 #[rv a, rv va] [])
  refine Go.aload1 1 X0 hx (hb hby d1_0) rfl rfl rfl ?_
  refine Go.aload1 2 X0 hx (hb hby d1_1) rfl rfl rfl ?_
  refine Go.iconst 3 X0 hx (0 : Int32) (hb hby d1_2) (by decide) rfl ?_
  refine Go.aload1 4 X0 hx (hb hby d1_3) rfl rfl rfl ?_
  obtain ⟨cl1, Ar1, -, S1, M1, -, -⟩ := id V_va
  refine Go.by (fun _ gk => X0.arraylength hx (by rw [e0]; exact Ar1.1) (State.isArrayOf_alike hZ.alike Ar1.2.1) (g := (mkF m 4 #[rv a, rv va] [(.ref va), (.int 0), (.ref va), (.ref a)])) rfl rfl (hb hby d1_4) _ gk) ?_
  rw [len_of S1 M1]
  show Go _ _ _ _ s₁ (mkF m 5 #[rv a, rv va] [(.int 1), (.int 0), (.ref va), (.ref a)])
  refine Go.aconst_null 6 X0 hx (hb hby d1_5) rfl ?_
  obtain ⟨_, _, ⟨T2, L2, k2, n2⟩, -, X2, ⟨Lc2, hQ2, l2, y2, z2⟩, st2⟩ := X0.specialBack hx (y := (⟨"java/lang/String", "<init>", "([CIILjava/lang/Void;)V"⟩ : MethodName)) rfl hown (mvT hZ (ow hw 8 rfl)) (mvT hZ (ow hw 9 rfl)) (mvT hZ (ow hw 11 rfl)) (by decide) (backOf (W := 0) (rmS4_1 l Z a0 hw [] a va kv c0 cs h0 n0 Z0 O0 E_a F_a_value F_a_coder g_a V_va hn0 S_cs n_cs U0 U1 U2) hZ (ow hw 11 rfl) (ow hw 4 rfl) (by decide) (by decide)) (g := (mkF m 6 #[rv a, rv va] [.null, (.int 1), (.int 0), (.ref va), (.ref a)])) rfl (by rw [hml]; rfl) (Steps.refl _) (a := a) (argsL := [(.ref va), (.int 0), (.int 1), .null]) (rest := []) (lenOf pd_182 rfl) rfl (by show 2 * 0 + _ ≤ _; exact Nat.le_of_eq rfl) (hb hby d1_6) (fun _ _ => ⟨rfl, e0, (by decide : 0 + 2 ≤ _), (by decide : 0 + 3 ≤ _)⟩)
  dsimp only [Pt.U, Pt.locs, Pt.cells, Pt.slots] at X2 l2 y2 z2 st2 hQ2
  subst l2 y2 z2
  obtain ⟨b, kb, vs, ln, cd, rfl, N2q, K2, Q2_0, Q2_1, Q2_2, Q2_3, Q2_4, Q2_5⟩ := hQ2
  have N2 := Fr.app N0 N2q
  refine Go.to st2 ?_
  show Go _ _ _ _ T2 (mkF m 9 #[rv a, rv va] [])
  have ge_b : n0 ≤ b := Nat.le_trans Z0 Q2_4
  have sz_b : h0.size ≤ b := Nat.le_trans (Keep.refl h0 [a]).1 Q2_4
  have ne_a_b : a ≠ b := Nat.ne_of_lt (Nat.lt_of_lt_of_le E_a.lt Q2_4)
  have ne_va_b : va ≠ b := Nat.ne_of_lt (Nat.lt_of_lt_of_le V_va.lt Q2_4)
  have F3 : Keep h0 T2.heap [a] := (Keep.refl h0 [a]).trans K2 (allS (Or.inl (List.mem_of_getElem? (i := 0) rfl)) all0)
  exact Go.retV X2 hx Bd.notSynchronized Bd.returns (hb hby d1_9) ⟨b, kb, vs, ln, cd, rfl, N2, F3, Q2_0, Q2_1, Q2_2, Q2_3, sz_b, Q2_5⟩ (by decide) (by decide)
def Q_rmNbl2 (Z : State)  (h0 : Heap) (n0 : Nat) (v : Option Value) (h : Heap) (L : List Loc) : Prop := v = some (.int 4) ∧ Fr n0 L ∧ h = h0
set_option maxRecDepth 65536 in
set_option maxHeartbeats 40000000 in
theorem rmNbl2 (l : Launch) (Z : State) (a0 : Array Value) (hw : ∀ d ∈ tables_1, d.before a0 Z = true) (ws : List Jvm.Cond)  (h0 : Heap) (n0 : Nat) (Z0 : n0 ≤ h0.size)  :
    MetFree l (⟨"java/lang/StringUTF16", "newBytesLength", "(I)I"⟩ : MethodName) (head1 (Jvm.Cond.code (⟨"java/lang/StringUTF16", "newBytesLength", "(I)I"⟩ : MethodName) jdk_52_method_3_code 1 (some .int) :: ws) ({ frames := 0, cells := 0, slots := 0, locals := 0 } : Room)) (fun as' U => as' = #[(.int 2)] ∧ Z.Warmed39 U.vm ∧ U.heap = h0) (fun _ _ _ _ _ => True) (fun _ U o U' => ∃ v L, o = .returned v ∧ Q_rmNbl2 Z  h0 n0 v U'.heap L ∧ FrameEnd U o U' L ({ frames := 0, cells := 0, slots := 0, locals := 0 } : Room).cells ({ frames := 0, cells := 0, slots := 0, locals := 0 } : Room).slots) := by
  refine MetFree.of_bodySF (plainFor_of_name pn_1) hisR ?_
  intro p e s m args below meth c s₁ Bd hml0 hP hK
  obtain ⟨rfl, hZ, hh⟩ := hP
  have hx := Bd.exec
  have hby := Bd.bytes
  have hml : c.maxLocals = 1 := hml0
  have hown : s.vm.findClass "java/lang/StringUTF16" = some m.cls := findClass_of_methodNamed Bd.named
  have hnm := (name_of_methodNamed Bd.named Bd.method).1
  have X0 : Stand p l e ({ frames := 0, cells := 0, slots := 0, locals := 0 } : Room) s m #[(.int 2)] below meth c s₁ [] 0 0 := Stand.of_body Bd
  have e0 : s₁.heap = h0 := by rw [← hh, Bd.state]; rfl
  have N0 := Fr.nil n0
  refine Go.enter (F := EndN s (Q_rmNbl2 Z  h0 n0) ({ frames := 0, cells := 0, slots := 0, locals := 0 } : Room).cells ({ frames := 0, cells := 0, slots := 0, locals := 0 } : Room).slots) (ef_2 m (2 : Int32)) ?_
  show Go _ _ _ _ s₁ (mkF m 0 #[iv 2] [])
  refine Go.iload1 1 X0 hx (hb hby d14_0) rfl rfl ?_
  refine Go.ifY 12 X0 hx (hb hby d14_1) (XT.i0_ge_t (by decide)) (by decide) (by decide) ?_
  refine Go.iload1 13 X0 hx (hb hby d14_12) rfl rfl ?_
  refine Go.by (fun _ gk => X0.ldcI hx hown (mvT hZ (ow hw 67 rfl)) (g := (mkF m 13 #[iv 2] [(.int 2)])) rfl (hb hby d14_13) gk) ?_
  show Go _ _ _ _ s₁ (mkF m 15 #[iv 2] [(.int 1073741823), (.int 2)])
  refine Go.icmpY 55 X0 hx (hb hby d14_15) (XT.ii_lt_t (by decide)) (by decide) (by decide) ?_
  refine Go.iload1 56 X0 hx (hb hby d14_55) rfl rfl ?_
  refine Go.iconst 57 X0 hx (1 : Int32) (hb hby d14_56) (by decide) rfl ?_
  refine Go.ishl 58 X0 hx (hb hby d14_57) rfl ?_
  rw [(by decide : ((2 : Int32) <<< ((1 : Int32) &&& 31)) = (4 : Int32))]
  exact Go.retI X0 hx Bd.notSynchronized Bd.returns rfl (by simp) (hb hby d14_58) (by rw [e0]; exact ⟨rfl, N0, rfl⟩) (by decide) (by decide)
def Q_rmNbf2 (Z : State)  (h0 : Heap) (n0 : Nat) (v : Option Value) (h : Heap) (L : List Loc) : Prop := ∃ tb : Addr, ∃ kt : ClassId, v = some (.ref tb) ∧ Fr n0 L ∧ Keep h0 h [] ∧ Arv Z h tb kt .byte (4 : Int32) ([(.int 0), (.int 0), (.int 0), (.int 0)]) (.int 0) ∧ h0.size ≤ tb
set_option maxRecDepth 65536 in
set_option maxHeartbeats 40000000 in
theorem rmNbf2 (l : Launch) (Z : State) (a0 : Array Value) (hw : ∀ d ∈ tables_1, d.before a0 Z = true) (ws : List Jvm.Cond)  (h0 : Heap) (n0 : Nat) (Z0 : n0 ≤ h0.size)  :
    MetFree l (⟨"java/lang/StringUTF16", "newBytesFor", "(I)[B"⟩ : MethodName) (head1 (Jvm.Cond.code (⟨"java/lang/StringUTF16", "newBytesFor", "(I)[B"⟩ : MethodName) jdk_52_method_2_code 1 (some (.array .byte)) :: ws) ({ frames := 1, cells := 1, slots := 4, locals := 12 } : Room)) (fun as' U => as' = #[(.int 2)] ∧ Z.Warmed39 U.vm ∧ U.heap = h0) (fun _ _ _ _ _ => True) (fun _ U o U' => ∃ v L, o = .returned v ∧ Q_rmNbf2 Z  h0 n0 v U'.heap L ∧ FrameEnd U o U' L ({ frames := 1, cells := 1, slots := 4, locals := 12 } : Room).cells ({ frames := 1, cells := 1, slots := 4, locals := 12 } : Room).slots) := by
  refine MetFree.of_bodySF (plainFor_of_name pn_1) hisR ?_
  intro p e s m args below meth c s₁ Bd hml0 hP hK
  obtain ⟨rfl, hZ, hh⟩ := hP
  have hx := Bd.exec
  have hby := Bd.bytes
  have hml : c.maxLocals = 1 := hml0
  have hown : s.vm.findClass "java/lang/StringUTF16" = some m.cls := findClass_of_methodNamed Bd.named
  have hnm := (name_of_methodNamed Bd.named Bd.method).1
  have X0 : Stand p l e ({ frames := 1, cells := 1, slots := 4, locals := 12 } : Room) s m #[(.int 2)] below meth c s₁ [] 0 0 := Stand.of_body Bd
  have e0 : s₁.heap = h0 := by rw [← hh, Bd.state]; rfl
  have N0 := Fr.nil n0
  refine Go.enter (F := EndN s (Q_rmNbf2 Z  h0 n0) ({ frames := 1, cells := 1, slots := 4, locals := 12 } : Room).cells ({ frames := 1, cells := 1, slots := 4, locals := 12 } : Room).slots) (ef_2 m (2 : Int32)) ?_
  show Go _ _ _ _ s₁ (mkF m 0 #[iv 2] [])
  refine Go.iload1 1 X0 hx (hb hby d13_0) rfl rfl ?_
  obtain ⟨_, _, ⟨T1, L1, k1, n1⟩, -, X1, ⟨Lc1, hQ1, l1, y1, z1⟩, st1⟩ := Jvm.LawKit.callS X0 hx (y := (⟨"java/lang/StringUTF16", "newBytesLength", "(I)I"⟩ : MethodName)) hown (mvT hZ (ow hw 64 rfl)) (mvT hZ (ow hw 65 rfl)) (mvT hZ (ow hw 18 rfl)) (mvT hZ (ow hw 66 rfl)) (by decide) (backOf (W := 0) (rmNbl2 l Z a0 hw []  h0 n0 Z0 ) hZ (ow hw 66 rfl) (ow hw 18 rfl) (by decide) (by decide)) (g := (mkF m 1 #[iv 2] [(.int 2)])) rfl (by rw [hml]; rfl) (argsL := [(.int 2)]) (rest := []) (lenOf pd_13 rfl) rfl (by show 2 * 0 + _ ≤ _; exact Nat.le_of_eq rfl) (hb hby d13_1) (fun _ _ => ⟨rfl, e0, (by decide : 0 + 0 ≤ _), (by decide : 0 + 0 ≤ _)⟩)
  dsimp only [Pt.U, Pt.locs, Pt.cells, Pt.slots] at X1 l1 y1 z1 st1 hQ1
  subst l1 y1 z1
  obtain ⟨rfl, N1q, e1⟩ := hQ1
  have N1 := Fr.app N0 N1q
  refine Go.by st1 ?_
  show Go _ _ _ _ T1 (mkF m 4 #[iv 2] [(.int 4)])
  obtain ⟨tb, g2⟩ : ∃ z, z = h0.size := ⟨_, rfl⟩
  have ge_tb : n0 ≤ tb := Nat.le_trans Z0 (Nat.le_of_eq g2.symm)
  have sz_tb : h0.size ≤ tb := Nat.le_trans (Keep.refl h0 []).1 (Nat.le_of_eq g2.symm)
  obtain ⟨T2, h2, k2, X2, e2, E2, A2, Ea2, st2⟩ := newPE X1 hx hZ (ow hw 20 rfl) e1 (g := (mkF m 4 #[iv 2] [(.int 4)])) rfl (hb hby d13_4) rfl (by decide) (cap := 4) (by decide) (by decide) (by decide) (by decide) (ad := "[B") rfl
  rw [← g2] at A2 Ea2 st2
  have V_tb : Arv Z h2 tb k2 .byte (4 : Int32) [(.int 0), (.int 0), (.int 0), (.int 0)] (.int 0) := (Arv.new A2 (by decide)).pad (pad_rep [] (.int 0) 4)
  refine Go.by st2 ?_
  show Go _ _ _ _ T2 (mkF m 6 #[iv 2] [(.ref tb)])
  have F3 : Keep h0 h2 [] := (Keep.refl h0 []).ext E2
  exact Go.retA X2 hx Bd.notSynchronized Bd.returns rfl rfl (hb hby d13_6) (by rw [e2]; exact ⟨tb, k2, rfl, N1, F3, V_tb, sz_tb⟩) (by decide) (by decide)
def Q_rmPut2_0 (Z : State) (tb : Addr) (kt : ClassId) (c0 : Int32) (x0 : Int32) (x1 : Int32) (x2 : Int32) (x3 : Int32) (h0 : Heap) (n0 : Nat) (v : Option Value) (h : Heap) (L : List Loc) : Prop := v = none ∧ Fr n0 L ∧ Keep h0 h [tb] ∧ Arv Z h tb kt .byte (4 : Int32) ([(.int (own_lo c0)), (.int (own_hi c0)), (.int x2), (.int x3)]) (.int 0)
set_option maxRecDepth 65536 in
set_option maxHeartbeats 40000000 in
theorem rmPut2_0 (l : Launch) (Z : State) (a0 : Array Value) (hw : ∀ d ∈ tables_1, d.before a0 Z = true) (ws : List Jvm.Cond) (tb : Addr) (kt : ClassId) (c0 : Int32) (x0 : Int32) (x1 : Int32) (x2 : Int32) (x3 : Int32) (h0 : Heap) (n0 : Nat) (Z0 : n0 ≤ h0.size) (O0 : Old Z n0 h0) (V_tb : Arv Z h0 tb kt .byte (4 : Int32) ([(.int x0), (.int x1), (.int x2), (.int x3)]) (.int 0)) (g_tb : n0 ≤ tb) (U0 : Sta Z Z.heap "java/lang/StringUTF16" "$assertionsDisabled" "Z" (.int 1)) (U1 : Sta Z Z.heap "java/lang/StringUTF16" "HI_BYTE_SHIFT" "I" (.int 0)) (U2 : Sta Z Z.heap "java/lang/StringUTF16" "LO_BYTE_SHIFT" "I" (.int 8)) :
    MetFree l (⟨"java/lang/StringUTF16", "putChar", "([BII)V"⟩ : MethodName) (head1 (Jvm.Cond.code (⟨"java/lang/StringUTF16", "putChar", "([BII)V"⟩ : MethodName) jdk_52_method_4_code 3 none :: ws) ({ frames := 0, cells := 0, slots := 0, locals := 0 } : Room)) (fun as' U => as' = #[(.ref tb), (.int 0), (.int c0)] ∧ Z.Warmed39 U.vm ∧ U.heap = h0) (fun _ _ _ _ _ => True) (fun _ U o U' => ∃ v L, o = .returned v ∧ Q_rmPut2_0 Z tb kt c0 x0 x1 x2 x3 h0 n0 v U'.heap L ∧ FrameEnd U o U' L ({ frames := 0, cells := 0, slots := 0, locals := 0 } : Room).cells ({ frames := 0, cells := 0, slots := 0, locals := 0 } : Room).slots) := by
  refine MetFree.of_bodySF (plainFor_of_name pn_1) hisR ?_
  intro p e s m args below meth c s₁ Bd hml0 hP hK
  obtain ⟨rfl, hZ, hh⟩ := hP
  have hx := Bd.exec
  have hby := Bd.bytes
  have hml : c.maxLocals = 3 := hml0
  have hown : s.vm.findClass "java/lang/StringUTF16" = some m.cls := findClass_of_methodNamed Bd.named
  have hnm := (name_of_methodNamed Bd.named Bd.method).1
  have X0 : Stand p l e ({ frames := 0, cells := 0, slots := 0, locals := 0 } : Room) s m #[(.ref tb), (.int 0), (.int c0)] below meth c s₁ [] 0 0 := Stand.of_body Bd
  have e0 : s₁.heap = h0 := by rw [← hh, Bd.state]; rfl
  have N0 := Fr.nil n0
  refine Go.enter (F := EndN s (Q_rmPut2_0 Z tb kt c0 x0 x1 x2 x3 h0 n0) ({ frames := 0, cells := 0, slots := 0, locals := 0 } : Room).cells ({ frames := 0, cells := 0, slots := 0, locals := 0 } : Room).slots) (ef_17 m tb (0 : Int32) c0) ?_
  show Go _ _ _ _ s₁ (mkF m 0 #[rv tb, iv 0, iv c0] [])
  have F1 : Sta Z h0 "java/lang/StringUTF16" "$assertionsDisabled" "Z" (.int 1) := U0.ext O0.2
  obtain ⟨T2, X2, e2, st2⟩ := getS2 X0 hx hZ hown (host := "") (Or.inl (ow hw 71 rfl)) Via.refl e0 F1 (g := (mkF m 0 #[rv tb, iv 0, iv c0] [])) rfl (hb hby d15_0)
  refine Go.by st2 ?_
  show Go _ _ _ _ T2 (mkF m 3 #[rv tb, iv 0, iv c0] [(.int 1)])
  refine Go.ifY 28 X2 hx (hb hby d15_3) (XT.i0_ne_t (by decide)) (by decide) (by decide) ?_
  refine Go.iload1 29 X2 hx (hb hby d15_28) rfl rfl ?_
  refine Go.iconst 30 X2 hx (1 : Int32) (hb hby d15_29) (by decide) rfl ?_
  refine Go.ishl 31 X2 hx (hb hby d15_30) rfl ?_
  rw [(by decide : ((0 : Int32) <<< ((1 : Int32) &&& 31)) = (0 : Int32))]
  refine Go.istore1 32 X2 hx (L' := #[rv tb, iv 0, iv c0]) (hb hby d15_31) rfl rfl ?_
  refine Go.aload1 33 X2 hx (hb hby d15_32) rfl rfl rfl ?_
  refine Go.iload1 34 X2 hx (hb hby d15_33) rfl rfl ?_
  refine Go.iinc 37 X2 hx (1 : Int32) (L' := #[rv tb, iv 1, iv c0]) (hb hby d15_34) (by decide) rfl rfl rfl ?_
  refine Go.iload1 38 X2 hx (hb hby d15_37) rfl rfl ?_
  have F3 : Sta Z h0 "java/lang/StringUTF16" "HI_BYTE_SHIFT" "I" (.int 0) := U1.ext O0.2
  obtain ⟨T4, X4, e4, st4⟩ := getS2 X2 hx hZ hown (host := "") (Or.inl (ow hw 72 rfl)) Via.refl e2 F3 (g := (mkF m 38 #[rv tb, iv 1, iv c0] [(.int c0), (.int 0), (.ref tb)])) rfl (hb hby d15_38)
  refine Go.by st4 ?_
  show Go _ _ _ _ T4 (mkF m 41 #[rv tb, iv 1, iv c0] [(.int 0), (.int c0), (.int 0), (.ref tb)])
  refine Go.ishr 42 X4 hx (hb hby d15_41) rfl ?_
  refine Go.i2b 43 X4 hx (hb hby d15_42) rfl ?_
  obtain ⟨cl5, Ar5, q5, S5, M5, H5, G5⟩ := id V_tb
  have hin5 : ¬ ((0 : Int32) < 0 ∨ cl5.slots.size ≤ (0 : Int32).toNatClampNeg) := inb_of S5 ⟨by decide, by decide⟩
  obtain ⟨T5, h5, X5, e5, W5, st5⟩ := stB X4 hx hZ e4 Ar5 (j := (0 : Int32)) hin5 (g := (mkF m 43 #[rv tb, iv 1, iv c0] [(.int ((c0 >>> ((0 : Int32) &&& 31)).toInt8.toInt32)), (.int 0), (.ref tb)])) rfl rfl (hb hby d15_43)
  have N5 := Fr.snoc X5 N0 g_tb
  have V5 : Arv Z h5 tb kt .byte (4 : Int32) [(.int (nar .byte ((c0 >>> ((0 : Int32) &&& 31)).toInt8.toInt32))), (.int x1), (.int x2), (.int x3)] (.int 0) := Arv.set Ar5 q5 S5 M5 H5 G5 (fits_nar_byte _) W5 0 rfl (Nat.le_of_ble_eq_true rfl)
  refine Go.by st5 ?_
  show Go _ _ _ _ T5 (mkF m 44 #[rv tb, iv 1, iv c0] [])
  replace V5 : Arv Z h5 tb kt .byte (4 : Int32) [(.int (own_lo c0)), (.int x1), (.int x2), (.int x3)] (.int 0) := V5
  refine Go.aload1 45 X5 hx (hb hby d15_44) rfl rfl rfl ?_
  refine Go.iload1 46 X5 hx (hb hby d15_45) rfl rfl ?_
  refine Go.iload1 47 X5 hx (hb hby d15_46) rfl rfl ?_
  have F6 : Old Z n0 h5 := O0.wr W5 g_tb
  have F7 : Sta Z h5 "java/lang/StringUTF16" "LO_BYTE_SHIFT" "I" (.int 8) := U2.ext F6.2
  obtain ⟨T8, X8, e8, st8⟩ := getS2 X5 hx hZ hown (host := "") (Or.inl (ow hw 73 rfl)) Via.refl e5 F7 (g := (mkF m 47 #[rv tb, iv 1, iv c0] [(.int c0), (.int 1), (.ref tb)])) rfl (hb hby d15_47)
  refine Go.by st8 ?_
  show Go _ _ _ _ T8 (mkF m 50 #[rv tb, iv 1, iv c0] [(.int 8), (.int c0), (.int 1), (.ref tb)])
  refine Go.ishr 51 X8 hx (hb hby d15_50) rfl ?_
  refine Go.i2b 52 X8 hx (hb hby d15_51) rfl ?_
  obtain ⟨cl9, Ar9, q9, S9, M9, H9, G9⟩ := id V5
  have hin9 : ¬ ((1 : Int32) < 0 ∨ cl9.slots.size ≤ (1 : Int32).toNatClampNeg) := inb_of S9 ⟨by decide, by decide⟩
  obtain ⟨T9, h9, X9, e9, W9, st9⟩ := stB X8 hx hZ e8 Ar9 (j := (1 : Int32)) hin9 (g := (mkF m 52 #[rv tb, iv 1, iv c0] [(.int ((c0 >>> ((8 : Int32) &&& 31)).toInt8.toInt32)), (.int 1), (.ref tb)])) rfl rfl (hb hby d15_52)
  have N9 := Fr.snoc X9 N5 g_tb
  have V9 : Arv Z h9 tb kt .byte (4 : Int32) [(.int (own_lo c0)), (.int (nar .byte ((c0 >>> ((8 : Int32) &&& 31)).toInt8.toInt32))), (.int x2), (.int x3)] (.int 0) := Arv.set Ar9 q9 S9 M9 H9 G9 (fits_nar_byte _) W9 1 rfl (Nat.le_of_ble_eq_true rfl)
  refine Go.by st9 ?_
  show Go _ _ _ _ T9 (mkF m 53 #[rv tb, iv 1, iv c0] [])
  replace V9 : Arv Z h9 tb kt .byte (4 : Int32) [(.int (own_lo c0)), (.int (own_hi c0)), (.int x2), (.int x3)] (.int 0) := V9
  have F10 : Keep h0 h5 [tb] := (Keep.refl h0 [tb]).wr W5 (Or.inl (List.mem_of_getElem? (i := 0) rfl))
  have F11 : Keep h0 h9 [tb] := F10.wr W9 (Or.inl (List.mem_of_getElem? (i := 0) rfl))
  exact Go.retV X9 hx Bd.notSynchronized Bd.returns (hb hby d15_53) (by rw [e9]; exact ⟨rfl, N9, F11, V9⟩) (by decide) (by decide)
def Q_rmGetC2_0 (Z : State) (tb : Addr) (kt : ClassId) (c0 : Int32) (x0 : Int32) (x1 : Int32) (x2 : Int32) (x3 : Int32) (h0 : Heap) (n0 : Nat) (v : Option Value) (h : Heap) (L : List Loc) : Prop := v = some (.int c0) ∧ Fr n0 L ∧ h = h0
set_option maxRecDepth 65536 in
set_option maxHeartbeats 40000000 in
theorem rmGetC2_0 (l : Launch) (Z : State) (a0 : Array Value) (hw : ∀ d ∈ tables_1, d.before a0 Z = true) (ws : List Jvm.Cond) (tb : Addr) (kt : ClassId) (c0 : Int32) (x0 : Int32) (x1 : Int32) (x2 : Int32) (x3 : Int32) (h0 : Heap) (n0 : Nat) (Z0 : n0 ≤ h0.size) (O0 : Old Z n0 h0) (V_tb : Arv Z h0 tb kt .byte (4 : Int32) ([(.int (own_lo c0)), (.int (own_hi c0)), (.int x2), (.int x3)]) (.int 0)) (hn0 : (nar .char c0 = c0)) (U0 : Sta Z Z.heap "java/lang/StringUTF16" "$assertionsDisabled" "Z" (.int 1)) (U1 : Sta Z Z.heap "java/lang/StringUTF16" "HI_BYTE_SHIFT" "I" (.int 0)) (U2 : Sta Z Z.heap "java/lang/StringUTF16" "LO_BYTE_SHIFT" "I" (.int 8)) :
    MetFree l (⟨"java/lang/StringUTF16", "getChar", "([BI)C"⟩ : MethodName) (head1 (Jvm.Cond.code (⟨"java/lang/StringUTF16", "getChar", "([BI)C"⟩ : MethodName) jdk_52_method_5_code 2 (some .char) :: ws) ({ frames := 0, cells := 0, slots := 0, locals := 0 } : Room)) (fun as' U => as' = #[(.ref tb), (.int 0)] ∧ Z.Warmed39 U.vm ∧ U.heap = h0) (fun _ _ _ _ _ => True) (fun _ U o U' => ∃ v L, o = .returned v ∧ Q_rmGetC2_0 Z tb kt c0 x0 x1 x2 x3 h0 n0 v U'.heap L ∧ FrameEnd U o U' L ({ frames := 0, cells := 0, slots := 0, locals := 0 } : Room).cells ({ frames := 0, cells := 0, slots := 0, locals := 0 } : Room).slots) := by
  refine MetFree.of_bodySF (plainFor_of_name pn_1) hisR ?_
  intro p e s m args below meth c s₁ Bd hml0 hP hK
  obtain ⟨rfl, hZ, hh⟩ := hP
  have hx := Bd.exec
  have hby := Bd.bytes
  have hml : c.maxLocals = 2 := hml0
  have hown : s.vm.findClass "java/lang/StringUTF16" = some m.cls := findClass_of_methodNamed Bd.named
  have hnm := (name_of_methodNamed Bd.named Bd.method).1
  have X0 : Stand p l e ({ frames := 0, cells := 0, slots := 0, locals := 0 } : Room) s m #[(.ref tb), (.int 0)] below meth c s₁ [] 0 0 := Stand.of_body Bd
  have e0 : s₁.heap = h0 := by rw [← hh, Bd.state]; rfl
  have N0 := Fr.nil n0
  refine Go.enter (F := EndN s (Q_rmGetC2_0 Z tb kt c0 x0 x1 x2 x3 h0 n0) ({ frames := 0, cells := 0, slots := 0, locals := 0 } : Room).cells ({ frames := 0, cells := 0, slots := 0, locals := 0 } : Room).slots) (ef_40 m tb (0 : Int32)) ?_
  show Go _ _ _ _ s₁ (mkF m 0 #[rv tb, iv 0] [])
  have F1 : Sta Z h0 "java/lang/StringUTF16" "$assertionsDisabled" "Z" (.int 1) := U0.ext O0.2
  obtain ⟨T2, X2, e2, st2⟩ := getS2 X0 hx hZ hown (host := "") (Or.inl (ow hw 71 rfl)) Via.refl e0 F1 (g := (mkF m 0 #[rv tb, iv 0] [])) rfl (hb hby d16_0)
  refine Go.by st2 ?_
  show Go _ _ _ _ T2 (mkF m 3 #[rv tb, iv 0] [(.int 1)])
  refine Go.ifY 28 X2 hx (hb hby d16_3) (XT.i0_ne_t (by decide)) (by decide) (by decide) ?_
  refine Go.iload1 29 X2 hx (hb hby d16_28) rfl rfl ?_
  refine Go.iconst 30 X2 hx (1 : Int32) (hb hby d16_29) (by decide) rfl ?_
  refine Go.ishl 31 X2 hx (hb hby d16_30) rfl ?_
  rw [(by decide : ((0 : Int32) <<< ((1 : Int32) &&& 31)) = (0 : Int32))]
  refine Go.istore1 32 X2 hx (L' := #[rv tb, iv 0]) (hb hby d16_31) rfl rfl ?_
  refine Go.aload1 33 X2 hx (hb hby d16_32) rfl rfl rfl ?_
  refine Go.iload1 34 X2 hx (hb hby d16_33) rfl rfl ?_
  refine Go.iinc 37 X2 hx (1 : Int32) (L' := #[rv tb, iv 1]) (hb hby d16_34) (by decide) rfl rfl rfl ?_
  obtain ⟨cl3, Ar3, -, S3, M3, H3, -⟩ := id V_tb
  have hin3 : ¬ ((0 : Int32) < 0 ∨ cl3.slots.size ≤ (0 : Int32).toNatClampNeg) := inb_of S3 ⟨by decide, by decide⟩
  refine Go.by (fun _ gk => X2.baloadBytes hx (j := (0 : Int32)) (v := (.int (own_lo c0))) (by rw [e2]; exact Ar3.1) (State.isArrayOf_alike hZ.alike Ar3.2.1) Ar3.2.2 hin3 (Has.at H3 hin3 rfl) (g := (mkF m 37 #[rv tb, iv 1] [(.int 0), (.ref tb)])) rfl rfl (hb hby d16_37) _ gk) ?_
  show Go _ _ _ _ T2 (mkF m 38 #[rv tb, iv 1] [(.int (own_lo c0))])
  refine Go.sipush 41 X2 hx (255 : Int32) (hb hby d16_38) (by decide) rfl ?_
  refine Go.iand 42 X2 hx (hb hby d16_41) rfl ?_
  have F4 : Sta Z h0 "java/lang/StringUTF16" "HI_BYTE_SHIFT" "I" (.int 0) := U1.ext O0.2
  obtain ⟨T5, X5, e5, st5⟩ := getS2 X2 hx hZ hown (host := "") (Or.inl (ow hw 72 rfl)) Via.refl e2 F4 (g := (mkF m 42 #[rv tb, iv 1] [(.int ((own_lo c0) &&& (255 : Int32)))])) rfl (hb hby d16_42)
  refine Go.by st5 ?_
  show Go _ _ _ _ T5 (mkF m 45 #[rv tb, iv 1] [(.int 0), (.int ((own_lo c0) &&& (255 : Int32)))])
  refine Go.ishl 46 X5 hx (hb hby d16_45) rfl ?_
  refine Go.aload1 47 X5 hx (hb hby d16_46) rfl rfl rfl ?_
  refine Go.iload1 48 X5 hx (hb hby d16_47) rfl rfl ?_
  obtain ⟨cl6, Ar6, -, S6, M6, H6, -⟩ := id V_tb
  have hin6 : ¬ ((1 : Int32) < 0 ∨ cl6.slots.size ≤ (1 : Int32).toNatClampNeg) := inb_of S6 ⟨by decide, by decide⟩
  refine Go.by (fun _ gk => X5.baloadBytes hx (j := (1 : Int32)) (v := (.int (own_hi c0))) (by rw [e5]; exact Ar6.1) (State.isArrayOf_alike hZ.alike Ar6.2.1) Ar6.2.2 hin6 (Has.at H6 hin6 rfl) (g := (mkF m 48 #[rv tb, iv 1] [(.int 1), (.ref tb), (.int (((own_lo c0) &&& (255 : Int32)) <<< ((0 : Int32) &&& 31)))])) rfl rfl (hb hby d16_48) _ gk) ?_
  show Go _ _ _ _ T5 (mkF m 49 #[rv tb, iv 1] [(.int (own_hi c0)), (.int (((own_lo c0) &&& (255 : Int32)) <<< ((0 : Int32) &&& 31)))])
  refine Go.sipush 52 X5 hx (255 : Int32) (hb hby d16_49) (by decide) rfl ?_
  refine Go.iand 53 X5 hx (hb hby d16_52) rfl ?_
  have F7 : Sta Z h0 "java/lang/StringUTF16" "LO_BYTE_SHIFT" "I" (.int 8) := U2.ext O0.2
  obtain ⟨T8, X8, e8, st8⟩ := getS2 X5 hx hZ hown (host := "") (Or.inl (ow hw 73 rfl)) Via.refl e5 F7 (g := (mkF m 53 #[rv tb, iv 1] [(.int ((own_hi c0) &&& (255 : Int32))), (.int (((own_lo c0) &&& (255 : Int32)) <<< ((0 : Int32) &&& 31)))])) rfl (hb hby d16_53)
  refine Go.by st8 ?_
  show Go _ _ _ _ T8 (mkF m 56 #[rv tb, iv 1] [(.int 8), (.int ((own_hi c0) &&& (255 : Int32))), (.int (((own_lo c0) &&& (255 : Int32)) <<< ((0 : Int32) &&& 31)))])
  refine Go.ishl 57 X8 hx (hb hby d16_56) rfl ?_
  refine Go.ior 58 X8 hx (hb hby d16_57) rfl ?_
  refine Go.i2c 59 X8 hx (hb hby d16_58) rfl ?_
  rw [own_u16 hn0]
  show Go _ _ _ _ T8 (mkF m 59 #[rv tb, iv 1] [(.int c0)])
  exact Go.retI X8 hx Bd.notSynchronized Bd.returns (own_retc hn0) (by simp) (hb hby d16_59) (by rw [e8]; exact ⟨rfl, N0, rfl⟩) (by decide) (by decide)
def Q_rmPut2_1 (Z : State) (tb : Addr) (kt : ClassId) (c0 : Int32) (x0 : Int32) (x1 : Int32) (x2 : Int32) (x3 : Int32) (h0 : Heap) (n0 : Nat) (v : Option Value) (h : Heap) (L : List Loc) : Prop := v = none ∧ Fr n0 L ∧ Keep h0 h [tb] ∧ Arv Z h tb kt .byte (4 : Int32) ([(.int x0), (.int x1), (.int (own_lo c0)), (.int (own_hi c0))]) (.int 0)
set_option maxRecDepth 65536 in
set_option maxHeartbeats 40000000 in
theorem rmPut2_1 (l : Launch) (Z : State) (a0 : Array Value) (hw : ∀ d ∈ tables_1, d.before a0 Z = true) (ws : List Jvm.Cond) (tb : Addr) (kt : ClassId) (c0 : Int32) (x0 : Int32) (x1 : Int32) (x2 : Int32) (x3 : Int32) (h0 : Heap) (n0 : Nat) (Z0 : n0 ≤ h0.size) (O0 : Old Z n0 h0) (V_tb : Arv Z h0 tb kt .byte (4 : Int32) ([(.int x0), (.int x1), (.int x2), (.int x3)]) (.int 0)) (g_tb : n0 ≤ tb) (U0 : Sta Z Z.heap "java/lang/StringUTF16" "$assertionsDisabled" "Z" (.int 1)) (U1 : Sta Z Z.heap "java/lang/StringUTF16" "HI_BYTE_SHIFT" "I" (.int 0)) (U2 : Sta Z Z.heap "java/lang/StringUTF16" "LO_BYTE_SHIFT" "I" (.int 8)) :
    MetFree l (⟨"java/lang/StringUTF16", "putChar", "([BII)V"⟩ : MethodName) (head1 (Jvm.Cond.code (⟨"java/lang/StringUTF16", "putChar", "([BII)V"⟩ : MethodName) jdk_52_method_4_code 3 none :: ws) ({ frames := 0, cells := 0, slots := 0, locals := 0 } : Room)) (fun as' U => as' = #[(.ref tb), (.int 1), (.int c0)] ∧ Z.Warmed39 U.vm ∧ U.heap = h0) (fun _ _ _ _ _ => True) (fun _ U o U' => ∃ v L, o = .returned v ∧ Q_rmPut2_1 Z tb kt c0 x0 x1 x2 x3 h0 n0 v U'.heap L ∧ FrameEnd U o U' L ({ frames := 0, cells := 0, slots := 0, locals := 0 } : Room).cells ({ frames := 0, cells := 0, slots := 0, locals := 0 } : Room).slots) := by
  refine MetFree.of_bodySF (plainFor_of_name pn_1) hisR ?_
  intro p e s m args below meth c s₁ Bd hml0 hP hK
  obtain ⟨rfl, hZ, hh⟩ := hP
  have hx := Bd.exec
  have hby := Bd.bytes
  have hml : c.maxLocals = 3 := hml0
  have hown : s.vm.findClass "java/lang/StringUTF16" = some m.cls := findClass_of_methodNamed Bd.named
  have hnm := (name_of_methodNamed Bd.named Bd.method).1
  have X0 : Stand p l e ({ frames := 0, cells := 0, slots := 0, locals := 0 } : Room) s m #[(.ref tb), (.int 1), (.int c0)] below meth c s₁ [] 0 0 := Stand.of_body Bd
  have e0 : s₁.heap = h0 := by rw [← hh, Bd.state]; rfl
  have N0 := Fr.nil n0
  refine Go.enter (F := EndN s (Q_rmPut2_1 Z tb kt c0 x0 x1 x2 x3 h0 n0) ({ frames := 0, cells := 0, slots := 0, locals := 0 } : Room).cells ({ frames := 0, cells := 0, slots := 0, locals := 0 } : Room).slots) (ef_17 m tb (1 : Int32) c0) ?_
  show Go _ _ _ _ s₁ (mkF m 0 #[rv tb, iv 1, iv c0] [])
  have F1 : Sta Z h0 "java/lang/StringUTF16" "$assertionsDisabled" "Z" (.int 1) := U0.ext O0.2
  obtain ⟨T2, X2, e2, st2⟩ := getS2 X0 hx hZ hown (host := "") (Or.inl (ow hw 71 rfl)) Via.refl e0 F1 (g := (mkF m 0 #[rv tb, iv 1, iv c0] [])) rfl (hb hby d15_0)
  refine Go.by st2 ?_
  show Go _ _ _ _ T2 (mkF m 3 #[rv tb, iv 1, iv c0] [(.int 1)])
  refine Go.ifY 28 X2 hx (hb hby d15_3) (XT.i0_ne_t (by decide)) (by decide) (by decide) ?_
  refine Go.iload1 29 X2 hx (hb hby d15_28) rfl rfl ?_
  refine Go.iconst 30 X2 hx (1 : Int32) (hb hby d15_29) (by decide) rfl ?_
  refine Go.ishl 31 X2 hx (hb hby d15_30) rfl ?_
  rw [(by decide : ((1 : Int32) <<< ((1 : Int32) &&& 31)) = (2 : Int32))]
  refine Go.istore1 32 X2 hx (L' := #[rv tb, iv 2, iv c0]) (hb hby d15_31) rfl rfl ?_
  refine Go.aload1 33 X2 hx (hb hby d15_32) rfl rfl rfl ?_
  refine Go.iload1 34 X2 hx (hb hby d15_33) rfl rfl ?_
  refine Go.iinc 37 X2 hx (1 : Int32) (L' := #[rv tb, iv 3, iv c0]) (hb hby d15_34) (by decide) rfl rfl rfl ?_
  refine Go.iload1 38 X2 hx (hb hby d15_37) rfl rfl ?_
  have F3 : Sta Z h0 "java/lang/StringUTF16" "HI_BYTE_SHIFT" "I" (.int 0) := U1.ext O0.2
  obtain ⟨T4, X4, e4, st4⟩ := getS2 X2 hx hZ hown (host := "") (Or.inl (ow hw 72 rfl)) Via.refl e2 F3 (g := (mkF m 38 #[rv tb, iv 3, iv c0] [(.int c0), (.int 2), (.ref tb)])) rfl (hb hby d15_38)
  refine Go.by st4 ?_
  show Go _ _ _ _ T4 (mkF m 41 #[rv tb, iv 3, iv c0] [(.int 0), (.int c0), (.int 2), (.ref tb)])
  refine Go.ishr 42 X4 hx (hb hby d15_41) rfl ?_
  refine Go.i2b 43 X4 hx (hb hby d15_42) rfl ?_
  obtain ⟨cl5, Ar5, q5, S5, M5, H5, G5⟩ := id V_tb
  have hin5 : ¬ ((2 : Int32) < 0 ∨ cl5.slots.size ≤ (2 : Int32).toNatClampNeg) := inb_of S5 ⟨by decide, by decide⟩
  obtain ⟨T5, h5, X5, e5, W5, st5⟩ := stB X4 hx hZ e4 Ar5 (j := (2 : Int32)) hin5 (g := (mkF m 43 #[rv tb, iv 3, iv c0] [(.int ((c0 >>> ((0 : Int32) &&& 31)).toInt8.toInt32)), (.int 2), (.ref tb)])) rfl rfl (hb hby d15_43)
  have N5 := Fr.snoc X5 N0 g_tb
  have V5 : Arv Z h5 tb kt .byte (4 : Int32) [(.int x0), (.int x1), (.int (nar .byte ((c0 >>> ((0 : Int32) &&& 31)).toInt8.toInt32))), (.int x3)] (.int 0) := Arv.set Ar5 q5 S5 M5 H5 G5 (fits_nar_byte _) W5 2 rfl (Nat.le_of_ble_eq_true rfl)
  refine Go.by st5 ?_
  show Go _ _ _ _ T5 (mkF m 44 #[rv tb, iv 3, iv c0] [])
  replace V5 : Arv Z h5 tb kt .byte (4 : Int32) [(.int x0), (.int x1), (.int (own_lo c0)), (.int x3)] (.int 0) := V5
  refine Go.aload1 45 X5 hx (hb hby d15_44) rfl rfl rfl ?_
  refine Go.iload1 46 X5 hx (hb hby d15_45) rfl rfl ?_
  refine Go.iload1 47 X5 hx (hb hby d15_46) rfl rfl ?_
  have F6 : Old Z n0 h5 := O0.wr W5 g_tb
  have F7 : Sta Z h5 "java/lang/StringUTF16" "LO_BYTE_SHIFT" "I" (.int 8) := U2.ext F6.2
  obtain ⟨T8, X8, e8, st8⟩ := getS2 X5 hx hZ hown (host := "") (Or.inl (ow hw 73 rfl)) Via.refl e5 F7 (g := (mkF m 47 #[rv tb, iv 3, iv c0] [(.int c0), (.int 3), (.ref tb)])) rfl (hb hby d15_47)
  refine Go.by st8 ?_
  show Go _ _ _ _ T8 (mkF m 50 #[rv tb, iv 3, iv c0] [(.int 8), (.int c0), (.int 3), (.ref tb)])
  refine Go.ishr 51 X8 hx (hb hby d15_50) rfl ?_
  refine Go.i2b 52 X8 hx (hb hby d15_51) rfl ?_
  obtain ⟨cl9, Ar9, q9, S9, M9, H9, G9⟩ := id V5
  have hin9 : ¬ ((3 : Int32) < 0 ∨ cl9.slots.size ≤ (3 : Int32).toNatClampNeg) := inb_of S9 ⟨by decide, by decide⟩
  obtain ⟨T9, h9, X9, e9, W9, st9⟩ := stB X8 hx hZ e8 Ar9 (j := (3 : Int32)) hin9 (g := (mkF m 52 #[rv tb, iv 3, iv c0] [(.int ((c0 >>> ((8 : Int32) &&& 31)).toInt8.toInt32)), (.int 3), (.ref tb)])) rfl rfl (hb hby d15_52)
  have N9 := Fr.snoc X9 N5 g_tb
  have V9 : Arv Z h9 tb kt .byte (4 : Int32) [(.int x0), (.int x1), (.int (own_lo c0)), (.int (nar .byte ((c0 >>> ((8 : Int32) &&& 31)).toInt8.toInt32)))] (.int 0) := Arv.set Ar9 q9 S9 M9 H9 G9 (fits_nar_byte _) W9 3 rfl (Nat.le_of_ble_eq_true rfl)
  refine Go.by st9 ?_
  show Go _ _ _ _ T9 (mkF m 53 #[rv tb, iv 3, iv c0] [])
  replace V9 : Arv Z h9 tb kt .byte (4 : Int32) [(.int x0), (.int x1), (.int (own_lo c0)), (.int (own_hi c0))] (.int 0) := V9
  have F10 : Keep h0 h5 [tb] := (Keep.refl h0 [tb]).wr W5 (Or.inl (List.mem_of_getElem? (i := 0) rfl))
  have F11 : Keep h0 h9 [tb] := F10.wr W9 (Or.inl (List.mem_of_getElem? (i := 0) rfl))
  exact Go.retV X9 hx Bd.notSynchronized Bd.returns (hb hby d15_53) (by rw [e9]; exact ⟨rfl, N9, F11, V9⟩) (by decide) (by decide)
def Q_rmGetC2_1 (Z : State) (tb : Addr) (kt : ClassId) (c0 : Int32) (x0 : Int32) (x1 : Int32) (x2 : Int32) (x3 : Int32) (h0 : Heap) (n0 : Nat) (v : Option Value) (h : Heap) (L : List Loc) : Prop := v = some (.int c0) ∧ Fr n0 L ∧ h = h0
set_option maxRecDepth 65536 in
set_option maxHeartbeats 40000000 in
theorem rmGetC2_1 (l : Launch) (Z : State) (a0 : Array Value) (hw : ∀ d ∈ tables_1, d.before a0 Z = true) (ws : List Jvm.Cond) (tb : Addr) (kt : ClassId) (c0 : Int32) (x0 : Int32) (x1 : Int32) (x2 : Int32) (x3 : Int32) (h0 : Heap) (n0 : Nat) (Z0 : n0 ≤ h0.size) (O0 : Old Z n0 h0) (V_tb : Arv Z h0 tb kt .byte (4 : Int32) ([(.int x0), (.int x1), (.int (own_lo c0)), (.int (own_hi c0))]) (.int 0)) (hn0 : (nar .char c0 = c0)) (U0 : Sta Z Z.heap "java/lang/StringUTF16" "$assertionsDisabled" "Z" (.int 1)) (U1 : Sta Z Z.heap "java/lang/StringUTF16" "HI_BYTE_SHIFT" "I" (.int 0)) (U2 : Sta Z Z.heap "java/lang/StringUTF16" "LO_BYTE_SHIFT" "I" (.int 8)) :
    MetFree l (⟨"java/lang/StringUTF16", "getChar", "([BI)C"⟩ : MethodName) (head1 (Jvm.Cond.code (⟨"java/lang/StringUTF16", "getChar", "([BI)C"⟩ : MethodName) jdk_52_method_5_code 2 (some .char) :: ws) ({ frames := 0, cells := 0, slots := 0, locals := 0 } : Room)) (fun as' U => as' = #[(.ref tb), (.int 1)] ∧ Z.Warmed39 U.vm ∧ U.heap = h0) (fun _ _ _ _ _ => True) (fun _ U o U' => ∃ v L, o = .returned v ∧ Q_rmGetC2_1 Z tb kt c0 x0 x1 x2 x3 h0 n0 v U'.heap L ∧ FrameEnd U o U' L ({ frames := 0, cells := 0, slots := 0, locals := 0 } : Room).cells ({ frames := 0, cells := 0, slots := 0, locals := 0 } : Room).slots) := by
  refine MetFree.of_bodySF (plainFor_of_name pn_1) hisR ?_
  intro p e s m args below meth c s₁ Bd hml0 hP hK
  obtain ⟨rfl, hZ, hh⟩ := hP
  have hx := Bd.exec
  have hby := Bd.bytes
  have hml : c.maxLocals = 2 := hml0
  have hown : s.vm.findClass "java/lang/StringUTF16" = some m.cls := findClass_of_methodNamed Bd.named
  have hnm := (name_of_methodNamed Bd.named Bd.method).1
  have X0 : Stand p l e ({ frames := 0, cells := 0, slots := 0, locals := 0 } : Room) s m #[(.ref tb), (.int 1)] below meth c s₁ [] 0 0 := Stand.of_body Bd
  have e0 : s₁.heap = h0 := by rw [← hh, Bd.state]; rfl
  have N0 := Fr.nil n0
  refine Go.enter (F := EndN s (Q_rmGetC2_1 Z tb kt c0 x0 x1 x2 x3 h0 n0) ({ frames := 0, cells := 0, slots := 0, locals := 0 } : Room).cells ({ frames := 0, cells := 0, slots := 0, locals := 0 } : Room).slots) (ef_40 m tb (1 : Int32)) ?_
  show Go _ _ _ _ s₁ (mkF m 0 #[rv tb, iv 1] [])
  have F1 : Sta Z h0 "java/lang/StringUTF16" "$assertionsDisabled" "Z" (.int 1) := U0.ext O0.2
  obtain ⟨T2, X2, e2, st2⟩ := getS2 X0 hx hZ hown (host := "") (Or.inl (ow hw 71 rfl)) Via.refl e0 F1 (g := (mkF m 0 #[rv tb, iv 1] [])) rfl (hb hby d16_0)
  refine Go.by st2 ?_
  show Go _ _ _ _ T2 (mkF m 3 #[rv tb, iv 1] [(.int 1)])
  refine Go.ifY 28 X2 hx (hb hby d16_3) (XT.i0_ne_t (by decide)) (by decide) (by decide) ?_
  refine Go.iload1 29 X2 hx (hb hby d16_28) rfl rfl ?_
  refine Go.iconst 30 X2 hx (1 : Int32) (hb hby d16_29) (by decide) rfl ?_
  refine Go.ishl 31 X2 hx (hb hby d16_30) rfl ?_
  rw [(by decide : ((1 : Int32) <<< ((1 : Int32) &&& 31)) = (2 : Int32))]
  refine Go.istore1 32 X2 hx (L' := #[rv tb, iv 2]) (hb hby d16_31) rfl rfl ?_
  refine Go.aload1 33 X2 hx (hb hby d16_32) rfl rfl rfl ?_
  refine Go.iload1 34 X2 hx (hb hby d16_33) rfl rfl ?_
  refine Go.iinc 37 X2 hx (1 : Int32) (L' := #[rv tb, iv 3]) (hb hby d16_34) (by decide) rfl rfl rfl ?_
  obtain ⟨cl3, Ar3, -, S3, M3, H3, -⟩ := id V_tb
  have hin3 : ¬ ((2 : Int32) < 0 ∨ cl3.slots.size ≤ (2 : Int32).toNatClampNeg) := inb_of S3 ⟨by decide, by decide⟩
  refine Go.by (fun _ gk => X2.baloadBytes hx (j := (2 : Int32)) (v := (.int (own_lo c0))) (by rw [e2]; exact Ar3.1) (State.isArrayOf_alike hZ.alike Ar3.2.1) Ar3.2.2 hin3 (Has.at H3 hin3 rfl) (g := (mkF m 37 #[rv tb, iv 3] [(.int 2), (.ref tb)])) rfl rfl (hb hby d16_37) _ gk) ?_
  show Go _ _ _ _ T2 (mkF m 38 #[rv tb, iv 3] [(.int (own_lo c0))])
  refine Go.sipush 41 X2 hx (255 : Int32) (hb hby d16_38) (by decide) rfl ?_
  refine Go.iand 42 X2 hx (hb hby d16_41) rfl ?_
  have F4 : Sta Z h0 "java/lang/StringUTF16" "HI_BYTE_SHIFT" "I" (.int 0) := U1.ext O0.2
  obtain ⟨T5, X5, e5, st5⟩ := getS2 X2 hx hZ hown (host := "") (Or.inl (ow hw 72 rfl)) Via.refl e2 F4 (g := (mkF m 42 #[rv tb, iv 3] [(.int ((own_lo c0) &&& (255 : Int32)))])) rfl (hb hby d16_42)
  refine Go.by st5 ?_
  show Go _ _ _ _ T5 (mkF m 45 #[rv tb, iv 3] [(.int 0), (.int ((own_lo c0) &&& (255 : Int32)))])
  refine Go.ishl 46 X5 hx (hb hby d16_45) rfl ?_
  refine Go.aload1 47 X5 hx (hb hby d16_46) rfl rfl rfl ?_
  refine Go.iload1 48 X5 hx (hb hby d16_47) rfl rfl ?_
  obtain ⟨cl6, Ar6, -, S6, M6, H6, -⟩ := id V_tb
  have hin6 : ¬ ((3 : Int32) < 0 ∨ cl6.slots.size ≤ (3 : Int32).toNatClampNeg) := inb_of S6 ⟨by decide, by decide⟩
  refine Go.by (fun _ gk => X5.baloadBytes hx (j := (3 : Int32)) (v := (.int (own_hi c0))) (by rw [e5]; exact Ar6.1) (State.isArrayOf_alike hZ.alike Ar6.2.1) Ar6.2.2 hin6 (Has.at H6 hin6 rfl) (g := (mkF m 48 #[rv tb, iv 3] [(.int 3), (.ref tb), (.int (((own_lo c0) &&& (255 : Int32)) <<< ((0 : Int32) &&& 31)))])) rfl rfl (hb hby d16_48) _ gk) ?_
  show Go _ _ _ _ T5 (mkF m 49 #[rv tb, iv 3] [(.int (own_hi c0)), (.int (((own_lo c0) &&& (255 : Int32)) <<< ((0 : Int32) &&& 31)))])
  refine Go.sipush 52 X5 hx (255 : Int32) (hb hby d16_49) (by decide) rfl ?_
  refine Go.iand 53 X5 hx (hb hby d16_52) rfl ?_
  have F7 : Sta Z h0 "java/lang/StringUTF16" "LO_BYTE_SHIFT" "I" (.int 8) := U2.ext O0.2
  obtain ⟨T8, X8, e8, st8⟩ := getS2 X5 hx hZ hown (host := "") (Or.inl (ow hw 73 rfl)) Via.refl e5 F7 (g := (mkF m 53 #[rv tb, iv 3] [(.int ((own_hi c0) &&& (255 : Int32))), (.int (((own_lo c0) &&& (255 : Int32)) <<< ((0 : Int32) &&& 31)))])) rfl (hb hby d16_53)
  refine Go.by st8 ?_
  show Go _ _ _ _ T8 (mkF m 56 #[rv tb, iv 3] [(.int 8), (.int ((own_hi c0) &&& (255 : Int32))), (.int (((own_lo c0) &&& (255 : Int32)) <<< ((0 : Int32) &&& 31)))])
  refine Go.ishl 57 X8 hx (hb hby d16_56) rfl ?_
  refine Go.ior 58 X8 hx (hb hby d16_57) rfl ?_
  refine Go.i2c 59 X8 hx (hb hby d16_58) rfl ?_
  rw [own_u16 hn0]
  show Go _ _ _ _ T8 (mkF m 59 #[rv tb, iv 3] [(.int c0)])
  exact Go.retI X8 hx Bd.notSynchronized Bd.returns (own_retc hn0) (by simp) (hb hby d16_59) (by rw [e8]; exact ⟨rfl, N0, rfl⟩) (by decide) (by decide)
def Q_rmToB2 (Z : State) (va : Addr) (kv : ClassId) (c0 : Int32) (c1 : Int32) (h0 : Heap) (n0 : Nat) (v : Option Value) (h : Heap) (L : List Loc) : Prop := ∃ tb : Addr, ∃ kt : ClassId, v = some (.ref tb) ∧ Fr n0 L ∧ Keep h0 h [] ∧ Arv Z h tb kt .byte (4 : Int32) ([(.int (own_lo c0)), (.int (own_hi c0)), (.int (own_lo c1)), (.int (own_hi c1))]) (.int 0) ∧ h0.size ≤ tb
set_option maxRecDepth 65536 in
set_option maxHeartbeats 40000000 in
theorem rmToB2 (l : Launch) (Z : State) (a0 : Array Value) (hw : ∀ d ∈ tables_1, d.before a0 Z = true) (ws : List Jvm.Cond) (va : Addr) (kv : ClassId) (c0 : Int32) (c1 : Int32) (h0 : Heap) (n0 : Nat) (Z0 : n0 ≤ h0.size) (O0 : Old Z n0 h0) (V_va : Arv Z h0 va kv .char (2 : Int32) ([(.int c0), (.int c1)]) (.int 0)) (U0 : Sta Z Z.heap "java/lang/StringUTF16" "$assertionsDisabled" "Z" (.int 1)) (U1 : Sta Z Z.heap "java/lang/StringUTF16" "HI_BYTE_SHIFT" "I" (.int 0)) (U2 : Sta Z Z.heap "java/lang/StringUTF16" "LO_BYTE_SHIFT" "I" (.int 8)) :
    MetFree l (⟨"java/lang/StringUTF16", "toBytes", "([CII)[B"⟩ : MethodName) (head1 (Jvm.Cond.code (⟨"java/lang/StringUTF16", "toBytes", "([CII)[B"⟩ : MethodName) jdk_52_method_14_code 5 (some (.array .byte)) :: ws) ({ frames := 2, cells := 1, slots := 4, locals := 24 } : Room)) (fun as' U => as' = #[(.ref va), (.int 0), (.int 2)] ∧ Z.Warmed39 U.vm ∧ U.heap = h0) (fun _ _ _ _ _ => True) (fun _ U o U' => ∃ v L, o = .returned v ∧ Q_rmToB2 Z va kv c0 c1 h0 n0 v U'.heap L ∧ FrameEnd U o U' L ({ frames := 2, cells := 1, slots := 4, locals := 24 } : Room).cells ({ frames := 2, cells := 1, slots := 4, locals := 24 } : Room).slots) := by
  refine MetFree.of_bodySF (plainFor_of_name pn_1) hisR ?_
  intro p e s m args below meth c s₁ Bd hml0 hP hK
  obtain ⟨rfl, hZ, hh⟩ := hP
  have hx := Bd.exec
  have hby := Bd.bytes
  have hml : c.maxLocals = 5 := hml0
  have hown : s.vm.findClass "java/lang/StringUTF16" = some m.cls := findClass_of_methodNamed Bd.named
  have hnm := (name_of_methodNamed Bd.named Bd.method).1
  have X0 : Stand p l e ({ frames := 2, cells := 1, slots := 4, locals := 24 } : Room) s m #[(.ref va), (.int 0), (.int 2)] below meth c s₁ [] 0 0 := Stand.of_body Bd
  have e0 : s₁.heap = h0 := by rw [← hh, Bd.state]; rfl
  have N0 := Fr.nil n0
  refine Go.enter (F := EndN s (Q_rmToB2 Z va kv c0 c1 h0 n0) ({ frames := 2, cells := 1, slots := 4, locals := 24 } : Room).cells ({ frames := 2, cells := 1, slots := 4, locals := 24 } : Room).slots) (ef_65 m va (0 : Int32) (2 : Int32)) ?_
  show Go _ _ _ _ s₁ (mkF m 0 #[rv va, iv 0, iv 2, un, un] [])
  refine Go.iload1 1 X0 hx (hb hby d12_0) rfl rfl ?_
  obtain ⟨_, _, ⟨T1, L1, k1, n1⟩, -, X1, ⟨Lc1, hQ1, l1, y1, z1⟩, st1⟩ := Jvm.LawKit.callS X0 hx (y := (⟨"java/lang/StringUTF16", "newBytesFor", "(I)[B"⟩ : MethodName)) hown (mvT hZ (ow hw 61 rfl)) (mvT hZ (ow hw 62 rfl)) (mvT hZ (ow hw 18 rfl)) (mvT hZ (ow hw 63 rfl)) (by decide) (backOf (W := 0) (rmNbf2 l Z a0 hw []  h0 n0 Z0 ) hZ (ow hw 63 rfl) (ow hw 18 rfl) (by decide) (by decide)) (g := (mkF m 1 #[rv va, iv 0, iv 2, un, un] [(.int 2)])) rfl (by rw [hml]; rfl) (argsL := [(.int 2)]) (rest := []) (lenOf pd_67 rfl) rfl (by show 2 * 0 + _ ≤ _; exact Nat.le_of_eq rfl) (hb hby d12_1) (fun _ _ => ⟨rfl, e0, (by decide : 0 + 1 ≤ _), (by decide : 0 + 4 ≤ _)⟩)
  dsimp only [Pt.U, Pt.locs, Pt.cells, Pt.slots] at X1 l1 y1 z1 st1 hQ1
  subst l1 y1 z1
  obtain ⟨tb, kt, rfl, N1q, K1, Q1_0, Q1_1⟩ := hQ1
  have N1 := Fr.app N0 N1q
  refine Go.by st1 ?_
  show Go _ _ _ _ T1 (mkF m 4 #[rv va, iv 0, iv 2, un, un] [(.ref tb)])
  have ge_tb : n0 ≤ tb := Nat.le_trans Z0 Q1_1
  have sz_tb : h0.size ≤ tb := Nat.le_trans (Keep.refl h0 []).1 Q1_1
  have ne_va_tb : va ≠ tb := Nat.ne_of_lt (Nat.lt_of_lt_of_le V_va.lt Q1_1)
  refine Go.astore1 5 X1 hx (L' := #[rv va, iv 0, iv 2, rv tb, un]) (hb hby d12_4) rfl rfl rfl ?_
  refine Go.iconst 6 X1 hx (0 : Int32) (hb hby d12_5) (by decide) rfl ?_
  refine Go.istore2 8 X1 hx (L' := #[rv va, iv 0, iv 2, rv tb, iv 0]) (hb hby d12_6) rfl rfl ?_
  refine Go.iload2 10 X1 hx (hb hby d12_8) rfl rfl ?_
  refine Go.iload1 11 X1 hx (hb hby d12_10) rfl rfl ?_
  refine Go.icmpN 14 X1 hx (hb hby d12_11) (XT.ii_ge_f (by decide)) rfl ?_
  refine Go.aload1 15 X1 hx (hb hby d12_14) rfl rfl rfl ?_
  refine Go.iload2 17 X1 hx (hb hby d12_15) rfl rfl ?_
  refine Go.aload1 18 X1 hx (hb hby d12_17) rfl rfl rfl ?_
  refine Go.iload1 19 X1 hx (hb hby d12_18) rfl rfl ?_
  have F2 : Arv Z T1.heap va kv .char (2 : Int32) [(.int c0), (.int c1)] (.int 0) := V_va.keep K1 nin0
  obtain ⟨cl3, Ar3, -, S3, M3, H3, -⟩ := id F2
  have hin3 : ¬ ((0 : Int32) < 0 ∨ cl3.slots.size ≤ (0 : Int32).toNatClampNeg) := inb_of S3 ⟨by decide, by decide⟩
  refine Go.by (fun _ gk => X1.caload hx (j := (0 : Int32)) (v := (.int c0)) (by exact Ar3.1) (State.isArrayOf_alike hZ.alike Ar3.2.1) Ar3.2.2 hin3 (Has.at H3 hin3 rfl) (g := (mkF m 19 #[rv va, iv 0, iv 2, rv tb, iv 0] [(.int 0), (.ref va), (.int 0), (.ref tb)])) rfl rfl (hb hby d12_19) _ gk) ?_
  show Go _ _ _ _ T1 (mkF m 20 #[rv va, iv 0, iv 2, rv tb, iv 0] [(.int c0), (.int 0), (.ref tb)])
  have F4 : Old Z n0 T1.heap := O0.keep K1 all0
  have F5 : n0 ≤ T1.heap.size := Nat.le_trans Z0 K1.1
  obtain ⟨_, _, ⟨T6, L6, k6, n6⟩, -, X6, ⟨Lc6, hQ6, l6, y6, z6⟩, st6⟩ := Jvm.LawKit.callS X1 hx (y := (⟨"java/lang/StringUTF16", "putChar", "([BII)V"⟩ : MethodName)) hown (mvT hZ (ow hw 68 rfl)) (mvT hZ (ow hw 69 rfl)) (mvT hZ (ow hw 18 rfl)) (mvT hZ (ow hw 70 rfl)) (by decide) (backOf (W := 0) (rmPut2_0 l Z a0 hw [] tb kt c0 (0 : Int32) (0 : Int32) (0 : Int32) (0 : Int32) T1.heap n0 F5 F4 Q1_0 ge_tb U0 U1 U2) hZ (ow hw 70 rfl) (ow hw 18 rfl) (by decide) (by decide)) (g := (mkF m 20 #[rv va, iv 0, iv 2, rv tb, iv 0] [(.int c0), (.int 0), (.ref tb)])) rfl (by rw [hml]; rfl) (argsL := [(.ref tb), (.int 0), (.int c0)]) (rest := []) (lenOf pd_80 rfl) rfl (by show 2 * 0 + _ ≤ _; exact Nat.le_of_eq rfl) (hb hby d12_20) (fun _ _ => ⟨rfl, rfl, (by decide : 1 + 0 ≤ _), (by decide : 4 + 0 ≤ _)⟩)
  dsimp only [Pt.U, Pt.locs, Pt.cells, Pt.slots] at X6 l6 y6 z6 st6 hQ6
  subst l6 y6 z6
  obtain ⟨rfl, N6q, K6, Q6_0⟩ := hQ6
  have N6 := Fr.app N1 N6q
  refine Go.by st6 ?_
  show Go _ _ _ _ T6 (mkF m 23 #[rv va, iv 0, iv 2, rv tb, iv 0] [])
  refine Go.iinc 26 X6 hx (1 : Int32) (L' := #[rv va, iv 1, iv 2, rv tb, iv 0]) (hb hby d12_23) (by decide) rfl rfl rfl ?_
  refine Go.iinc 29 X6 hx (1 : Int32) (L' := #[rv va, iv 1, iv 2, rv tb, iv 1]) (hb hby d12_26) (by decide) rfl rfl rfl ?_
  refine Go.goto 8 X6 hx (hb hby d12_29) (by decide) (by decide) ?_
  refine Go.iload2 10 X6 hx (hb hby d12_8) rfl rfl ?_
  refine Go.iload1 11 X6 hx (hb hby d12_10) rfl rfl ?_
  refine Go.icmpN 14 X6 hx (hb hby d12_11) (XT.ii_ge_f (by decide)) rfl ?_
  refine Go.aload1 15 X6 hx (hb hby d12_14) rfl rfl rfl ?_
  refine Go.iload2 17 X6 hx (hb hby d12_15) rfl rfl ?_
  refine Go.aload1 18 X6 hx (hb hby d12_17) rfl rfl rfl ?_
  refine Go.iload1 19 X6 hx (hb hby d12_18) rfl rfl ?_
  have F7 : Arv Z T6.heap va kv .char (2 : Int32) [(.int c0), (.int c1)] (.int 0) := F2.keep K6 (ninS ne_va_tb nin0)
  obtain ⟨cl8, Ar8, -, S8, M8, H8, -⟩ := id F7
  have hin8 : ¬ ((1 : Int32) < 0 ∨ cl8.slots.size ≤ (1 : Int32).toNatClampNeg) := inb_of S8 ⟨by decide, by decide⟩
  refine Go.by (fun _ gk => X6.caload hx (j := (1 : Int32)) (v := (.int c1)) (by exact Ar8.1) (State.isArrayOf_alike hZ.alike Ar8.2.1) Ar8.2.2 hin8 (Has.at H8 hin8 rfl) (g := (mkF m 19 #[rv va, iv 1, iv 2, rv tb, iv 1] [(.int 1), (.ref va), (.int 1), (.ref tb)])) rfl rfl (hb hby d12_19) _ gk) ?_
  show Go _ _ _ _ T6 (mkF m 20 #[rv va, iv 1, iv 2, rv tb, iv 1] [(.int c1), (.int 1), (.ref tb)])
  have F9 : Old Z n0 T6.heap := F4.keep K6 (allS ge_tb all0)
  have F10 : n0 ≤ T6.heap.size := Nat.le_trans F5 K6.1
  obtain ⟨_, _, ⟨T11, L11, k11, n11⟩, -, X11, ⟨Lc11, hQ11, l11, y11, z11⟩, st11⟩ := Jvm.LawKit.callS X6 hx (y := (⟨"java/lang/StringUTF16", "putChar", "([BII)V"⟩ : MethodName)) hown (mvT hZ (ow hw 68 rfl)) (mvT hZ (ow hw 69 rfl)) (mvT hZ (ow hw 18 rfl)) (mvT hZ (ow hw 70 rfl)) (by decide) (backOf (W := 0) (rmPut2_1 l Z a0 hw [] tb kt c1 (own_lo c0) (own_hi c0) (0 : Int32) (0 : Int32) T6.heap n0 F10 F9 Q6_0 ge_tb U0 U1 U2) hZ (ow hw 70 rfl) (ow hw 18 rfl) (by decide) (by decide)) (g := (mkF m 20 #[rv va, iv 1, iv 2, rv tb, iv 1] [(.int c1), (.int 1), (.ref tb)])) rfl (by rw [hml]; rfl) (argsL := [(.ref tb), (.int 1), (.int c1)]) (rest := []) (lenOf pd_80 rfl) rfl (by show 2 * 0 + _ ≤ _; exact Nat.le_of_eq rfl) (hb hby d12_20) (fun _ _ => ⟨rfl, rfl, (by decide : 1 + 0 ≤ _), (by decide : 4 + 0 ≤ _)⟩)
  dsimp only [Pt.U, Pt.locs, Pt.cells, Pt.slots] at X11 l11 y11 z11 st11 hQ11
  subst l11 y11 z11
  obtain ⟨rfl, N11q, K11, Q11_0⟩ := hQ11
  have N11 := Fr.app N6 N11q
  refine Go.by st11 ?_
  show Go _ _ _ _ T11 (mkF m 23 #[rv va, iv 1, iv 2, rv tb, iv 1] [])
  refine Go.iinc 26 X11 hx (1 : Int32) (L' := #[rv va, iv 2, iv 2, rv tb, iv 1]) (hb hby d12_23) (by decide) rfl rfl rfl ?_
  refine Go.iinc 29 X11 hx (1 : Int32) (L' := #[rv va, iv 2, iv 2, rv tb, iv 2]) (hb hby d12_26) (by decide) rfl rfl rfl ?_
  refine Go.goto 8 X11 hx (hb hby d12_29) (by decide) (by decide) ?_
  refine Go.iload2 10 X11 hx (hb hby d12_8) rfl rfl ?_
  refine Go.iload1 11 X11 hx (hb hby d12_10) rfl rfl ?_
  refine Go.icmpY 32 X11 hx (hb hby d12_11) (XT.ii_ge_t (by decide)) (by decide) (by decide) ?_
  refine Go.aload1 33 X11 hx (hb hby d12_32) rfl rfl rfl ?_
  have F12 : Keep h0 T1.heap [] := (Keep.refl h0 []).trans K1 all0
  have F13 : Keep h0 T6.heap [] := F12.trans K6 (allS (Or.inr sz_tb) all0)
  have F14 : Keep h0 T11.heap [] := F13.trans K11 (allS (Or.inr sz_tb) all0)
  exact Go.retA X11 hx Bd.notSynchronized Bd.returns rfl rfl (hb hby d12_33) ⟨tb, kt, rfl, N11, F14, Q11_0, sz_tb⟩ (by decide) (by decide)
def Q_rmC5_2 (Z : State) (va : Addr) (da : Addr) (kv : ClassId) (kd : ClassId) (c0 : Int32) (c1 : Int32) (h0 : Heap) (n0 : Nat) (v : Option Value) (h : Heap) (L : List Loc) : Prop := ∃ r : Int32, ∃ ds : List Value, v = some (.int r) ∧ Fr n0 L ∧ Keep h0 h [da] ∧ Arv Z h da kd .byte (2 : Int32) ds (.int 0) ∧ ((r = 0 ∧ 255 < c0) ∨ (r = 1 ∧ 255 < c1) ∨ r = 2)
set_option maxRecDepth 65536 in
set_option maxHeartbeats 40000000 in
theorem rmC5_2 (l : Launch) (Z : State) (a0 : Array Value) (hw : ∀ d ∈ tables_1, d.before a0 Z = true) (ws : List Jvm.Cond) (va : Addr) (da : Addr) (kv : ClassId) (kd : ClassId) (c0 : Int32) (c1 : Int32) (h0 : Heap) (n0 : Nat) (Z0 : n0 ≤ h0.size) (V_va : Arv Z h0 va kv .char (2 : Int32) ([(.int c0), (.int c1)]) (.int 0)) (V_da : Arv Z h0 da kd .byte (2 : Int32) ([(.int 0), (.int 0)]) (.int 0)) (g_da : n0 ≤ da) (ne_va_da : va ≠ da) :
    MetFree l (⟨"java/lang/StringUTF16", "compress", "([CI[BII)I"⟩ : MethodName) (head1 (Jvm.Cond.code (⟨"java/lang/StringUTF16", "compress", "([CI[BII)I"⟩ : MethodName) jdk_52_method_21_code 7 (some .int) :: ws) ({ frames := 0, cells := 0, slots := 0, locals := 0 } : Room)) (fun as' U => as' = #[(.ref va), (.int 0), (.ref da), (.int 0), (.int 2)] ∧ Z.Warmed39 U.vm ∧ U.heap = h0) (fun _ _ _ _ _ => True) (fun _ U o U' => ∃ v L, o = .returned v ∧ Q_rmC5_2 Z va da kv kd c0 c1 h0 n0 v U'.heap L ∧ FrameEnd U o U' L ({ frames := 0, cells := 0, slots := 0, locals := 0 } : Room).cells ({ frames := 0, cells := 0, slots := 0, locals := 0 } : Room).slots) := by
  refine MetFree.of_bodySF (plainFor_of_name pn_1) hisR ?_
  intro p e s m args below meth c s₁ Bd hml0 hP hK
  obtain ⟨rfl, hZ, hh⟩ := hP
  have hx := Bd.exec
  have hby := Bd.bytes
  have hml : c.maxLocals = 7 := hml0
  have hown : s.vm.findClass "java/lang/StringUTF16" = some m.cls := findClass_of_methodNamed Bd.named
  have hnm := (name_of_methodNamed Bd.named Bd.method).1
  have X0 : Stand p l e ({ frames := 0, cells := 0, slots := 0, locals := 0 } : Room) s m #[(.ref va), (.int 0), (.ref da), (.int 0), (.int 2)] below meth c s₁ [] 0 0 := Stand.of_body Bd
  have e0 : s₁.heap = h0 := by rw [← hh, Bd.state]; rfl
  have N0 := Fr.nil n0
  refine Go.enter (F := EndN s (Q_rmC5_2 Z va da kv kd c0 c1 h0 n0) ({ frames := 0, cells := 0, slots := 0, locals := 0 } : Room).cells ({ frames := 0, cells := 0, slots := 0, locals := 0 } : Room).slots) (ef_87 m va (0 : Int32) da (0 : Int32) (2 : Int32)) ?_
  show Go _ _ _ _ s₁ (mkF m 0 #[rv va, iv 0, rv da, iv 0, iv 2, un, un] [])
  refine Go.iconst 1 X0 hx (0 : Int32) (hb hby d5_0) (by decide) rfl ?_
  refine Go.istore2 3 X0 hx (L' := #[rv va, iv 0, rv da, iv 0, iv 2, iv 0, un]) (hb hby d5_1) rfl rfl ?_
  refine Go.iload2 5 X0 hx (hb hby d5_3) rfl rfl ?_
  refine Go.iload2 7 X0 hx (hb hby d5_5) rfl rfl ?_
  refine Go.icmpN 10 X0 hx (hb hby d5_7) (XT.ii_ge_f (by decide)) rfl ?_
  refine Go.aload1 11 X0 hx (hb hby d5_10) rfl rfl rfl ?_
  refine Go.iload1 12 X0 hx (hb hby d5_11) rfl rfl ?_
  obtain ⟨cl1, Ar1, -, S1, M1, H1, -⟩ := id V_va
  have hin1 : ¬ ((0 : Int32) < 0 ∨ cl1.slots.size ≤ (0 : Int32).toNatClampNeg) := inb_of S1 ⟨by decide, by decide⟩
  refine Go.by (fun _ gk => X0.caload hx (j := (0 : Int32)) (v := (.int c0)) (by rw [e0]; exact Ar1.1) (State.isArrayOf_alike hZ.alike Ar1.2.1) Ar1.2.2 hin1 (Has.at H1 hin1 rfl) (g := (mkF m 12 #[rv va, iv 0, rv da, iv 0, iv 2, iv 0, un] [(.int 0), (.ref va)])) rfl rfl (hb hby d5_12) _ gk) ?_
  show Go _ _ _ _ s₁ (mkF m 13 #[rv va, iv 0, rv da, iv 0, iv 2, iv 0, un] [(.int c0)])
  refine Go.istore2 15 X0 hx (L' := #[rv va, iv 0, rv da, iv 0, iv 2, iv 0, iv c0]) (hb hby d5_13) rfl rfl ?_
  refine Go.iload2 17 X0 hx (hb hby d5_15) rfl rfl ?_
  refine Go.sipush 20 X0 hx (255 : Int32) (hb hby d5_17) (by decide) rfl ?_
  by_cases hb2 : (255 : Int32) < c0
  · refine Go.icmpN 23 X0 hx (hb hby d5_20) (XT.ii_le_f hb2) rfl ?_
    refine Go.iload2 25 X0 hx (hb hby d5_23) rfl rfl ?_
    exact Go.retI X0 hx Bd.notSynchronized Bd.returns rfl (by simp) (hb hby d5_25) (by rw [e0]; exact ⟨(0 : Int32), [(.int 0), (.int 0)], rfl, N0, (Keep.refl h0 [da]), V_da, Or.inl ⟨rfl, hb2⟩⟩) (by decide) (by decide)
  · refine Go.icmpY 26 X0 hx (hb hby d5_20) (XT.ii_le_t hb2) (by decide) (by decide) ?_
    refine Go.aload1 27 X0 hx (hb hby d5_26) rfl rfl rfl ?_
    refine Go.iload1 28 X0 hx (hb hby d5_27) rfl rfl ?_
    refine Go.iload2 30 X0 hx (hb hby d5_28) rfl rfl ?_
    refine Go.i2b 31 X0 hx (hb hby d5_30) rfl ?_
    obtain ⟨cl3, Ar3, q3, S3, M3, H3, G3⟩ := id V_da
    have hin3 : ¬ ((0 : Int32) < 0 ∨ cl3.slots.size ≤ (0 : Int32).toNatClampNeg) := inb_of S3 ⟨by decide, by decide⟩
    obtain ⟨T3, h3, X3, e3, W3, st3⟩ := stB X0 hx hZ e0 Ar3 (j := (0 : Int32)) hin3 (g := (mkF m 31 #[rv va, iv 0, rv da, iv 0, iv 2, iv 0, iv c0] [(.int (c0.toInt8.toInt32)), (.int 0), (.ref da)])) rfl rfl (hb hby d5_31)
    have N3 := Fr.snoc X3 N0 g_da
    have V3 : Arv Z h3 da kd .byte (2 : Int32) [(.int (nar .byte (c0.toInt8.toInt32))), (.int 0)] (.int 0) := Arv.set Ar3 q3 S3 M3 H3 G3 (fits_nar_byte _) W3 0 rfl (Nat.le_of_ble_eq_true rfl)
    refine Go.by st3 ?_
    show Go _ _ _ _ T3 (mkF m 32 #[rv va, iv 0, rv da, iv 0, iv 2, iv 0, iv c0] [])
    refine Go.iinc 35 X3 hx (1 : Int32) (L' := #[rv va, iv 1, rv da, iv 0, iv 2, iv 0, iv c0]) (hb hby d5_32) (by decide) rfl rfl rfl ?_
    refine Go.iinc 38 X3 hx (1 : Int32) (L' := #[rv va, iv 1, rv da, iv 1, iv 2, iv 0, iv c0]) (hb hby d5_35) (by decide) rfl rfl rfl ?_
    refine Go.iinc 41 X3 hx (1 : Int32) (L' := #[rv va, iv 1, rv da, iv 1, iv 2, iv 1, iv c0]) (hb hby d5_38) (by decide) rfl rfl rfl ?_
    refine Go.goto 3 X3 hx (hb hby d5_41) (by decide) (by decide) ?_
    refine Go.iload2 5 X3 hx (hb hby d5_3) rfl rfl ?_
    refine Go.iload2 7 X3 hx (hb hby d5_5) rfl rfl ?_
    refine Go.icmpN 10 X3 hx (hb hby d5_7) (XT.ii_ge_f (by decide)) rfl ?_
    refine Go.aload1 11 X3 hx (hb hby d5_10) rfl rfl rfl ?_
    refine Go.iload1 12 X3 hx (hb hby d5_11) rfl rfl ?_
    have F4 : Arv Z h3 va kv .char (2 : Int32) [(.int c0), (.int c1)] (.int 0) := V_va.other W3 ne_va_da
    obtain ⟨cl5, Ar5, -, S5, M5, H5, -⟩ := id F4
    have hin5 : ¬ ((1 : Int32) < 0 ∨ cl5.slots.size ≤ (1 : Int32).toNatClampNeg) := inb_of S5 ⟨by decide, by decide⟩
    refine Go.by (fun _ gk => X3.caload hx (j := (1 : Int32)) (v := (.int c1)) (by rw [e3]; exact Ar5.1) (State.isArrayOf_alike hZ.alike Ar5.2.1) Ar5.2.2 hin5 (Has.at H5 hin5 rfl) (g := (mkF m 12 #[rv va, iv 1, rv da, iv 1, iv 2, iv 1, iv c0] [(.int 1), (.ref va)])) rfl rfl (hb hby d5_12) _ gk) ?_
    show Go _ _ _ _ T3 (mkF m 13 #[rv va, iv 1, rv da, iv 1, iv 2, iv 1, iv c0] [(.int c1)])
    refine Go.istore2 15 X3 hx (L' := #[rv va, iv 1, rv da, iv 1, iv 2, iv 1, iv c1]) (hb hby d5_13) rfl rfl ?_
    refine Go.iload2 17 X3 hx (hb hby d5_15) rfl rfl ?_
    refine Go.sipush 20 X3 hx (255 : Int32) (hb hby d5_17) (by decide) rfl ?_
    by_cases hb6 : (255 : Int32) < c1
    · refine Go.icmpN 23 X3 hx (hb hby d5_20) (XT.ii_le_f hb6) rfl ?_
      refine Go.iload2 25 X3 hx (hb hby d5_23) rfl rfl ?_
      have F7 : Keep h0 h3 [da] := (Keep.refl h0 [da]).wr W3 (Or.inl (List.mem_of_getElem? (i := 0) rfl))
      exact Go.retI X3 hx Bd.notSynchronized Bd.returns rfl (by simp) (hb hby d5_25) (by rw [e3]; exact ⟨(1 : Int32), [(.int (nar .byte (c0.toInt8.toInt32))), (.int 0)], rfl, N3, F7, V3, Or.inr (Or.inl ⟨rfl, hb6⟩)⟩) (by decide) (by decide)
    · refine Go.icmpY 26 X3 hx (hb hby d5_20) (XT.ii_le_t hb6) (by decide) (by decide) ?_
      refine Go.aload1 27 X3 hx (hb hby d5_26) rfl rfl rfl ?_
      refine Go.iload1 28 X3 hx (hb hby d5_27) rfl rfl ?_
      refine Go.iload2 30 X3 hx (hb hby d5_28) rfl rfl ?_
      refine Go.i2b 31 X3 hx (hb hby d5_30) rfl ?_
      obtain ⟨cl8, Ar8, q8, S8, M8, H8, G8⟩ := id V3
      have hin8 : ¬ ((1 : Int32) < 0 ∨ cl8.slots.size ≤ (1 : Int32).toNatClampNeg) := inb_of S8 ⟨by decide, by decide⟩
      obtain ⟨T8, h8, X8, e8, W8, st8⟩ := stB X3 hx hZ e3 Ar8 (j := (1 : Int32)) hin8 (g := (mkF m 31 #[rv va, iv 1, rv da, iv 1, iv 2, iv 1, iv c1] [(.int (c1.toInt8.toInt32)), (.int 1), (.ref da)])) rfl rfl (hb hby d5_31)
      have N8 := Fr.snoc X8 N3 g_da
      have V8 : Arv Z h8 da kd .byte (2 : Int32) [(.int (nar .byte (c0.toInt8.toInt32))), (.int (nar .byte (c1.toInt8.toInt32)))] (.int 0) := Arv.set Ar8 q8 S8 M8 H8 G8 (fits_nar_byte _) W8 1 rfl (Nat.le_of_ble_eq_true rfl)
      refine Go.by st8 ?_
      show Go _ _ _ _ T8 (mkF m 32 #[rv va, iv 1, rv da, iv 1, iv 2, iv 1, iv c1] [])
      refine Go.iinc 35 X8 hx (1 : Int32) (L' := #[rv va, iv 2, rv da, iv 1, iv 2, iv 1, iv c1]) (hb hby d5_32) (by decide) rfl rfl rfl ?_
      refine Go.iinc 38 X8 hx (1 : Int32) (L' := #[rv va, iv 2, rv da, iv 2, iv 2, iv 1, iv c1]) (hb hby d5_35) (by decide) rfl rfl rfl ?_
      refine Go.iinc 41 X8 hx (1 : Int32) (L' := #[rv va, iv 2, rv da, iv 2, iv 2, iv 2, iv c1]) (hb hby d5_38) (by decide) rfl rfl rfl ?_
      refine Go.goto 3 X8 hx (hb hby d5_41) (by decide) (by decide) ?_
      refine Go.iload2 5 X8 hx (hb hby d5_3) rfl rfl ?_
      refine Go.iload2 7 X8 hx (hb hby d5_5) rfl rfl ?_
      refine Go.icmpY 44 X8 hx (hb hby d5_7) (XT.ii_ge_t (by decide)) (by decide) (by decide) ?_
      refine Go.iload2 46 X8 hx (hb hby d5_44) rfl rfl ?_
      have F9 : Keep h0 h3 [da] := (Keep.refl h0 [da]).wr W3 (Or.inl (List.mem_of_getElem? (i := 0) rfl))
      have F10 : Keep h0 h8 [da] := F9.wr W8 (Or.inl (List.mem_of_getElem? (i := 0) rfl))
      exact Go.retI X8 hx Bd.notSynchronized Bd.returns rfl (by simp) (hb hby d5_46) (by rw [e8]; exact ⟨(2 : Int32), [(.int (nar .byte (c0.toInt8.toInt32))), (.int (nar .byte (c1.toInt8.toInt32)))], rfl, N8, F10, V8, Or.inr (Or.inr (rfl))⟩) (by decide) (by decide)
def Q_rmC3_2 (Z : State) (va : Addr) (kv : ClassId) (c0 : Int32) (c1 : Int32) (h0 : Heap) (n0 : Nat) (v : Option Value) (h : Heap) (L : List Loc) : Prop := ∃ da : Addr, ∃ kd : ClassId, ∃ vs : List Value, ∃ ln : Int32, v = some (.ref da) ∧ Fr n0 L ∧ Keep h0 h [] ∧ Arv Z h da kd .byte ln vs (.int 0) ∧ h0.size ≤ da ∧ (ln = 2 ∨ ln = 4)
set_option maxRecDepth 65536 in
set_option maxHeartbeats 40000000 in
theorem rmC3_2 (l : Launch) (Z : State) (a0 : Array Value) (hw : ∀ d ∈ tables_1, d.before a0 Z = true) (ws : List Jvm.Cond) (va : Addr) (kv : ClassId) (c0 : Int32) (c1 : Int32) (h0 : Heap) (n0 : Nat) (Z0 : n0 ≤ h0.size) (O0 : Old Z n0 h0) (V_va : Arv Z h0 va kv .char (2 : Int32) ([(.int c0), (.int c1)]) (.int 0)) (hn0 : (nar .char c0 = c0)) (hn1 : (nar .char c1 = c1)) (U0 : Sta Z Z.heap "java/lang/StringUTF16" "$assertionsDisabled" "Z" (.int 1)) (U1 : Sta Z Z.heap "java/lang/StringUTF16" "HI_BYTE_SHIFT" "I" (.int 0)) (U2 : Sta Z Z.heap "java/lang/StringUTF16" "LO_BYTE_SHIFT" "I" (.int 8)) :
    MetFree l (⟨"java/lang/StringUTF16", "compress", "([CII)[B"⟩ : MethodName) (head1 (Jvm.Cond.code (⟨"java/lang/StringUTF16", "compress", "([CII)[B"⟩ : MethodName) jdk_52_method_16_code 6 (some (.array .byte)) :: ws) ({ frames := 3, cells := 2, slots := 6, locals := 40 } : Room)) (fun as' U => as' = #[(.ref va), (.int 0), (.int 2)] ∧ Z.Warmed39 U.vm ∧ U.heap = h0) (fun _ _ _ _ _ => True) (fun _ U o U' => ∃ v L, o = .returned v ∧ Q_rmC3_2 Z va kv c0 c1 h0 n0 v U'.heap L ∧ FrameEnd U o U' L ({ frames := 3, cells := 2, slots := 6, locals := 40 } : Room).cells ({ frames := 3, cells := 2, slots := 6, locals := 40 } : Room).slots) := by
  refine MetFree.of_bodySF (plainFor_of_name pn_1) hisR ?_
  intro p e s m args below meth c s₁ Bd hml0 hP hK
  obtain ⟨rfl, hZ, hh⟩ := hP
  have hx := Bd.exec
  have hby := Bd.bytes
  have hml : c.maxLocals = 6 := hml0
  have hown : s.vm.findClass "java/lang/StringUTF16" = some m.cls := findClass_of_methodNamed Bd.named
  have hnm := (name_of_methodNamed Bd.named Bd.method).1
  have X0 : Stand p l e ({ frames := 3, cells := 2, slots := 6, locals := 40 } : Room) s m #[(.ref va), (.int 0), (.int 2)] below meth c s₁ [] 0 0 := Stand.of_body Bd
  have e0 : s₁.heap = h0 := by rw [← hh, Bd.state]; rfl
  have N0 := Fr.nil n0
  refine Go.enter (F := EndN s (Q_rmC3_2 Z va kv c0 c1 h0 n0) ({ frames := 3, cells := 2, slots := 6, locals := 40 } : Room).cells ({ frames := 3, cells := 2, slots := 6, locals := 40 } : Room).slots) (ef_113 m va (0 : Int32) (2 : Int32)) ?_
  show Go _ _ _ _ s₁ (mkF m 0 #[rv va, iv 0, iv 2, un, un, un] [])
  refine Go.iload1 1 X0 hx (hb hby d4_0) rfl rfl ?_
  obtain ⟨da, g1⟩ : ∃ z, z = h0.size := ⟨_, rfl⟩
  have ge_da : n0 ≤ da := Nat.le_trans Z0 (Nat.le_of_eq g1.symm)
  have sz_da : h0.size ≤ da := Nat.le_trans (Keep.refl h0 []).1 (Nat.le_of_eq g1.symm)
  have ne_va_da : va ≠ da := Nat.ne_of_lt (Nat.lt_of_lt_of_le V_va.lt (Nat.le_of_eq g1.symm))
  obtain ⟨T1, h1, k1, X1, e1, E1, A1, Ea1, st1⟩ := newPE X0 hx hZ (ow hw 20 rfl) e0 (g := (mkF m 1 #[rv va, iv 0, iv 2, un, un, un] [(.int 2)])) rfl (hb hby d4_1) rfl (by decide) (cap := 2) (by decide) (by decide) (by decide) (by decide) (ad := "[B") rfl
  rw [← g1] at A1 Ea1 st1
  have V_da : Arv Z h1 da k1 .byte (2 : Int32) [(.int 0), (.int 0)] (.int 0) := (Arv.new A1 (by decide)).pad (pad_rep [] (.int 0) 2)
  refine Go.by st1 ?_
  show Go _ _ _ _ T1 (mkF m 3 #[rv va, iv 0, iv 2, un, un, un] [(.ref da)])
  refine Go.astore1 4 X1 hx (L' := #[rv va, iv 0, iv 2, rv da, un, un]) (hb hby d4_3) rfl rfl rfl ?_
  refine Go.aload1 5 X1 hx (hb hby d4_4) rfl rfl rfl ?_
  refine Go.iload1 6 X1 hx (hb hby d4_5) rfl rfl ?_
  refine Go.aload1 7 X1 hx (hb hby d4_6) rfl rfl rfl ?_
  refine Go.iconst 8 X1 hx (0 : Int32) (hb hby d4_7) (by decide) rfl ?_
  refine Go.iload1 9 X1 hx (hb hby d4_8) rfl rfl ?_
  have F2 : Arv Z h1 va kv .char (2 : Int32) [(.int c0), (.int c1)] (.int 0) := V_va.ext E1
  have F3 : n0 ≤ h1.size := Nat.le_trans Z0 E1.1
  obtain ⟨_, _, ⟨T4, L4, k4, n4⟩, -, X4, ⟨Lc4, hQ4, l4, y4, z4⟩, st4⟩ := Jvm.LawKit.callS X1 hx (y := (⟨"java/lang/StringUTF16", "compress", "([CI[BII)I"⟩ : MethodName)) hown (mvT hZ (ow hw 21 rfl)) (mvT hZ (ow hw 22 rfl)) (mvT hZ (ow hw 18 rfl)) (mvT hZ (ow hw 23 rfl)) (by decide) (backOf (W := 0) (rmC5_2 l Z a0 hw [] va da kv k1 c0 c1 h1 n0 F3 F2 V_da ge_da ne_va_da) hZ (ow hw 23 rfl) (ow hw 18 rfl) (by decide) (by decide)) (g := (mkF m 9 #[rv va, iv 0, iv 2, rv da, un, un] [(.int 2), (.int 0), (.ref da), (.int 0), (.ref va)])) rfl (by rw [hml]; rfl) (argsL := [(.ref va), (.int 0), (.ref da), (.int 0), (.int 2)]) (rest := []) (lenOf pd_122 rfl) rfl (by show 2 * 0 + _ ≤ _; exact Nat.le_of_eq rfl) (hb hby d4_9) (fun _ _ => ⟨rfl, e1, (by decide : 1 + 0 ≤ _), (by decide : 2 + 0 ≤ _)⟩)
  dsimp only [Pt.U, Pt.locs, Pt.cells, Pt.slots] at X4 l4 y4 z4 st4 hQ4
  subst l4 y4 z4
  obtain ⟨r5, ds, rfl, N4q, K4, Q4_0, Q4_1⟩ := hQ4
  have N4 := Fr.app N0 N4q
  refine Go.by st4 ?_
  show Go _ _ _ _ T4 (mkF m 12 #[rv va, iv 0, iv 2, rv da, un, un] [(.int r5)])
  rcases Q4_1 with ⟨rfl, hg⟩ | ⟨rfl, hg⟩ | rfl
  · show Go _ _ _ _ T4 (mkF m 12 #[rv va, iv 0, iv 2, rv da, un, un] [(.int 0)])
    refine Go.istore2 14 X4 hx (L' := #[rv va, iv 0, iv 2, rv da, iv 0, un]) (hb hby d4_12) rfl rfl ?_
    refine Go.iload2 16 X4 hx (hb hby d4_14) rfl rfl ?_
    refine Go.iload1 17 X4 hx (hb hby d4_16) rfl rfl ?_
    refine Go.icmpN 20 X4 hx (hb hby d4_17) (XT.ii_eq_f (by decide)) rfl ?_
    refine Go.aload1 21 X4 hx (hb hby d4_20) rfl rfl rfl ?_
    refine Go.iload1 22 X4 hx (hb hby d4_21) rfl rfl ?_
    refine Go.iload1 23 X4 hx (hb hby d4_22) rfl rfl ?_
    have F5 : Old Z n0 h1 := O0.ext E1
    have F6 : Old Z n0 T4.heap := F5.keep K4 (allS ge_da all0)
    have F7 : Arv Z T4.heap va kv .char (2 : Int32) [(.int c0), (.int c1)] (.int 0) := F2.keep K4 (ninS ne_va_da nin0)
    have F8 : n0 ≤ T4.heap.size := Nat.le_trans F3 K4.1
    have F9 : Keep h0 h1 [] := (Keep.refl h0 []).ext E1
    have F10 : Keep h0 T4.heap [] := F9.trans K4 (allS (Or.inr sz_da) all0)
    have F11 : Exa Z T4.heap da "[B" := Ea1.keep K4
    obtain ⟨_, _, ⟨T12, L12, k12, n12⟩, -, X12, ⟨Lc12, hQ12, l12, y12, z12⟩, st12⟩ := Jvm.LawKit.callS X4 hx (y := (⟨"java/lang/StringUTF16", "toBytes", "([CII)[B"⟩ : MethodName)) hown (mvT hZ (ow hw 58 rfl)) (mvT hZ (ow hw 59 rfl)) (mvT hZ (ow hw 18 rfl)) (mvT hZ (ow hw 60 rfl)) (by decide) (backOf (W := 0) (rmToB2 l Z a0 hw [] va kv c0 c1 T4.heap n0 F8 F6 F7 U0 U1 U2) hZ (ow hw 60 rfl) (ow hw 18 rfl) (by decide) (by decide)) (g := (mkF m 23 #[rv va, iv 0, iv 2, rv da, iv 0, un] [(.int 2), (.int 0), (.ref va)])) rfl (by rw [hml]; rfl) (argsL := [(.ref va), (.int 0), (.int 2)]) (rest := []) (lenOf pd_131 rfl) rfl (by show 2 * 0 + _ ≤ _; exact Nat.le_of_eq rfl) (hb hby d4_23) (fun _ _ => ⟨rfl, rfl, (by decide : 1 + 1 ≤ _), (by decide : 2 + 4 ≤ _)⟩)
    dsimp only [Pt.U, Pt.locs, Pt.cells, Pt.slots] at X12 l12 y12 z12 st12 hQ12
    subst l12 y12 z12
    obtain ⟨tb, kt, rfl, N12q, K12, Q12_0, Q12_1⟩ := hQ12
    have N12 := Fr.app N4 N12q
    refine Go.by st12 ?_
    show Go _ _ _ _ T12 (mkF m 26 #[rv va, iv 0, iv 2, rv da, iv 0, un] [(.ref tb)])
    have ge_tb : n0 ≤ tb := Nat.le_trans F8 Q12_1
    have sz_tb : h0.size ≤ tb := Nat.le_trans F10.1 Q12_1
    have ne_da_tb : da ≠ tb := Nat.ne_of_lt (Nat.lt_of_lt_of_le Q4_0.lt Q12_1)
    have ne_va_tb : va ≠ tb := Nat.ne_of_lt (Nat.lt_of_lt_of_le F7.lt Q12_1)
    refine Go.astore2 28 X12 hx (L' := #[rv va, iv 0, iv 2, rv da, iv 0, rv tb]) (hb hby d4_26) rfl rfl rfl ?_
    refine Go.aload2 30 X12 hx (hb hby d4_28) rfl rfl rfl ?_
    refine Go.iload2 32 X12 hx (hb hby d4_30) rfl rfl ?_
    have F13 : Old Z n0 T12.heap := F6.keep K12 all0
    have F14 : n0 ≤ T12.heap.size := Nat.le_trans F8 K12.1
    obtain ⟨_, _, ⟨T15, L15, k15, n15⟩, -, X15, ⟨Lc15, hQ15, l15, y15, z15⟩, st15⟩ := Jvm.LawKit.callS X12 hx (y := (⟨"java/lang/StringUTF16", "getChar", "([BI)C"⟩ : MethodName)) hown (mvT hZ (ow hw 74 rfl)) (mvT hZ (ow hw 75 rfl)) (mvT hZ (ow hw 18 rfl)) (mvT hZ (ow hw 76 rfl)) (by decide) (backOf (W := 0) (rmGetC2_0 l Z a0 hw [] tb kt c0 (0 : Int32) (0 : Int32) (own_lo c1) (own_hi c1) T12.heap n0 F14 F13 Q12_0 hn0 U0 U1 U2) hZ (ow hw 76 rfl) (ow hw 18 rfl) (by decide) (by decide)) (g := (mkF m 32 #[rv va, iv 0, iv 2, rv da, iv 0, rv tb] [(.int 0), (.ref tb)])) rfl (by rw [hml]; rfl) (argsL := [(.ref tb), (.int 0)]) (rest := []) (lenOf pd_136 rfl) rfl (by show 2 * 0 + _ ≤ _; exact Nat.le_of_eq rfl) (hb hby d4_32) (fun _ _ => ⟨rfl, rfl, (by decide : 2 + 0 ≤ _), (by decide : 6 + 0 ≤ _)⟩)
    dsimp only [Pt.U, Pt.locs, Pt.cells, Pt.slots] at X15 l15 y15 z15 st15 hQ15
    subst l15 y15 z15
    obtain ⟨rfl, N15q, e15⟩ := hQ15
    have N15 := Fr.app N12 N15q
    refine Go.by st15 ?_
    show Go _ _ _ _ T15 (mkF m 35 #[rv va, iv 0, iv 2, rv da, iv 0, rv tb] [(.int c0)])
    refine Go.sipush 38 X15 hx (255 : Int32) (hb hby d4_35) (by decide) rfl ?_
    refine Go.icmpY 54 X15 hx (hb hby d4_38) (XT.ii_gt_t hg) (by decide) (by decide) ?_
    refine Go.aload2 56 X15 hx (hb hby d4_54) rfl rfl rfl ?_
    have F16 : Keep h0 T12.heap [] := F10.trans K12 all0
    exact Go.retA X15 hx Bd.notSynchronized Bd.returns rfl rfl (hb hby d4_56) (by rw [e15]; exact ⟨tb, kt, [(.int (own_lo c0)), (.int (own_hi c0)), (.int (own_lo c1)), (.int (own_hi c1))], (4 : Int32), rfl, N15, F16, Q12_0, sz_tb, Or.inr rfl⟩) (by decide) (by decide)
  · show Go _ _ _ _ T4 (mkF m 12 #[rv va, iv 0, iv 2, rv da, un, un] [(.int 1)])
    refine Go.istore2 14 X4 hx (L' := #[rv va, iv 0, iv 2, rv da, iv 1, un]) (hb hby d4_12) rfl rfl ?_
    refine Go.iload2 16 X4 hx (hb hby d4_14) rfl rfl ?_
    refine Go.iload1 17 X4 hx (hb hby d4_16) rfl rfl ?_
    refine Go.icmpN 20 X4 hx (hb hby d4_17) (XT.ii_eq_f (by decide)) rfl ?_
    refine Go.aload1 21 X4 hx (hb hby d4_20) rfl rfl rfl ?_
    refine Go.iload1 22 X4 hx (hb hby d4_21) rfl rfl ?_
    refine Go.iload1 23 X4 hx (hb hby d4_22) rfl rfl ?_
    have F17 : Old Z n0 h1 := O0.ext E1
    have F18 : Old Z n0 T4.heap := F17.keep K4 (allS ge_da all0)
    have F19 : Arv Z T4.heap va kv .char (2 : Int32) [(.int c0), (.int c1)] (.int 0) := F2.keep K4 (ninS ne_va_da nin0)
    have F20 : n0 ≤ T4.heap.size := Nat.le_trans F3 K4.1
    have F21 : Keep h0 h1 [] := (Keep.refl h0 []).ext E1
    have F22 : Keep h0 T4.heap [] := F21.trans K4 (allS (Or.inr sz_da) all0)
    have F23 : Exa Z T4.heap da "[B" := Ea1.keep K4
    obtain ⟨_, _, ⟨T24, L24, k24, n24⟩, -, X24, ⟨Lc24, hQ24, l24, y24, z24⟩, st24⟩ := Jvm.LawKit.callS X4 hx (y := (⟨"java/lang/StringUTF16", "toBytes", "([CII)[B"⟩ : MethodName)) hown (mvT hZ (ow hw 58 rfl)) (mvT hZ (ow hw 59 rfl)) (mvT hZ (ow hw 18 rfl)) (mvT hZ (ow hw 60 rfl)) (by decide) (backOf (W := 0) (rmToB2 l Z a0 hw [] va kv c0 c1 T4.heap n0 F20 F18 F19 U0 U1 U2) hZ (ow hw 60 rfl) (ow hw 18 rfl) (by decide) (by decide)) (g := (mkF m 23 #[rv va, iv 0, iv 2, rv da, iv 1, un] [(.int 2), (.int 0), (.ref va)])) rfl (by rw [hml]; rfl) (argsL := [(.ref va), (.int 0), (.int 2)]) (rest := []) (lenOf pd_131 rfl) rfl (by show 2 * 0 + _ ≤ _; exact Nat.le_of_eq rfl) (hb hby d4_23) (fun _ _ => ⟨rfl, rfl, (by decide : 1 + 1 ≤ _), (by decide : 2 + 4 ≤ _)⟩)
    dsimp only [Pt.U, Pt.locs, Pt.cells, Pt.slots] at X24 l24 y24 z24 st24 hQ24
    subst l24 y24 z24
    obtain ⟨tb, kt, rfl, N24q, K24, Q24_0, Q24_1⟩ := hQ24
    have N24 := Fr.app N4 N24q
    refine Go.by st24 ?_
    show Go _ _ _ _ T24 (mkF m 26 #[rv va, iv 0, iv 2, rv da, iv 1, un] [(.ref tb)])
    have ge_tb : n0 ≤ tb := Nat.le_trans F20 Q24_1
    have sz_tb : h0.size ≤ tb := Nat.le_trans F22.1 Q24_1
    have ne_da_tb : da ≠ tb := Nat.ne_of_lt (Nat.lt_of_lt_of_le Q4_0.lt Q24_1)
    have ne_va_tb : va ≠ tb := Nat.ne_of_lt (Nat.lt_of_lt_of_le F19.lt Q24_1)
    refine Go.astore2 28 X24 hx (L' := #[rv va, iv 0, iv 2, rv da, iv 1, rv tb]) (hb hby d4_26) rfl rfl rfl ?_
    refine Go.aload2 30 X24 hx (hb hby d4_28) rfl rfl rfl ?_
    refine Go.iload2 32 X24 hx (hb hby d4_30) rfl rfl ?_
    have F25 : Old Z n0 T24.heap := F18.keep K24 all0
    have F26 : n0 ≤ T24.heap.size := Nat.le_trans F20 K24.1
    obtain ⟨_, _, ⟨T27, L27, k27, n27⟩, -, X27, ⟨Lc27, hQ27, l27, y27, z27⟩, st27⟩ := Jvm.LawKit.callS X24 hx (y := (⟨"java/lang/StringUTF16", "getChar", "([BI)C"⟩ : MethodName)) hown (mvT hZ (ow hw 74 rfl)) (mvT hZ (ow hw 75 rfl)) (mvT hZ (ow hw 18 rfl)) (mvT hZ (ow hw 76 rfl)) (by decide) (backOf (W := 0) (rmGetC2_1 l Z a0 hw [] tb kt c1 (own_lo c0) (own_hi c0) (0 : Int32) (0 : Int32) T24.heap n0 F26 F25 Q24_0 hn1 U0 U1 U2) hZ (ow hw 76 rfl) (ow hw 18 rfl) (by decide) (by decide)) (g := (mkF m 32 #[rv va, iv 0, iv 2, rv da, iv 1, rv tb] [(.int 1), (.ref tb)])) rfl (by rw [hml]; rfl) (argsL := [(.ref tb), (.int 1)]) (rest := []) (lenOf pd_136 rfl) rfl (by show 2 * 0 + _ ≤ _; exact Nat.le_of_eq rfl) (hb hby d4_32) (fun _ _ => ⟨rfl, rfl, (by decide : 2 + 0 ≤ _), (by decide : 6 + 0 ≤ _)⟩)
    dsimp only [Pt.U, Pt.locs, Pt.cells, Pt.slots] at X27 l27 y27 z27 st27 hQ27
    subst l27 y27 z27
    obtain ⟨rfl, N27q, e27⟩ := hQ27
    have N27 := Fr.app N24 N27q
    refine Go.by st27 ?_
    show Go _ _ _ _ T27 (mkF m 35 #[rv va, iv 0, iv 2, rv da, iv 1, rv tb] [(.int c1)])
    refine Go.sipush 38 X27 hx (255 : Int32) (hb hby d4_35) (by decide) rfl ?_
    refine Go.icmpY 54 X27 hx (hb hby d4_38) (XT.ii_gt_t hg) (by decide) (by decide) ?_
    refine Go.aload2 56 X27 hx (hb hby d4_54) rfl rfl rfl ?_
    have F28 : Keep h0 T24.heap [] := F22.trans K24 all0
    exact Go.retA X27 hx Bd.notSynchronized Bd.returns rfl rfl (hb hby d4_56) (by rw [e27]; exact ⟨tb, kt, [(.int (own_lo c0)), (.int (own_hi c0)), (.int (own_lo c1)), (.int (own_hi c1))], (4 : Int32), rfl, N27, F28, Q24_0, sz_tb, Or.inr rfl⟩) (by decide) (by decide)
  · show Go _ _ _ _ T4 (mkF m 12 #[rv va, iv 0, iv 2, rv da, un, un] [(.int 2)])
    refine Go.istore2 14 X4 hx (L' := #[rv va, iv 0, iv 2, rv da, iv 2, un]) (hb hby d4_12) rfl rfl ?_
    refine Go.iload2 16 X4 hx (hb hby d4_14) rfl rfl ?_
    refine Go.iload1 17 X4 hx (hb hby d4_16) rfl rfl ?_
    refine Go.icmpY 57 X4 hx (hb hby d4_17) (XT.ii_eq_t rfl) (by decide) (by decide) ?_
    refine Go.aload1 58 X4 hx (hb hby d4_57) rfl rfl rfl ?_
    have F29 : Keep h0 h1 [] := (Keep.refl h0 []).ext E1
    have F30 : Keep h0 T4.heap [] := F29.trans K4 (allS (Or.inr sz_da) all0)
    exact Go.retA X4 hx Bd.notSynchronized Bd.returns rfl rfl (hb hby d4_58) ⟨da, k1, ds, (2 : Int32), rfl, N4, F30, Q4_0, sz_da, Or.inl rfl⟩ (by decide) (by decide)
def Q_rmCoder2_0 (Z : State) (da : Addr) (kd : ClassId) (vs : List Value) (h0 : Heap) (n0 : Nat) (v : Option Value) (h : Heap) (L : List Loc) : Prop := v = some (.int 0) ∧ Fr n0 L ∧ h = h0
set_option maxRecDepth 65536 in
set_option maxHeartbeats 40000000 in
theorem rmCoder2_0 (l : Launch) (Z : State) (a0 : Array Value) (hw : ∀ d ∈ tables_1, d.before a0 Z = true) (ws : List Jvm.Cond) (da : Addr) (kd : ClassId) (vs : List Value) (h0 : Heap) (n0 : Nat) (Z0 : n0 ≤ h0.size) (V_da : Arv Z h0 da kd .byte (2 : Int32) vs (.int 0)) :
    MetFree l (⟨"java/lang/StringUTF16", "coderFromArrayLen", "([BI)B"⟩ : MethodName) (head1 (Jvm.Cond.code (⟨"java/lang/StringUTF16", "coderFromArrayLen", "([BI)B"⟩ : MethodName) jdk_52_method_15_code 2 (some .byte) :: ws) ({ frames := 0, cells := 0, slots := 0, locals := 0 } : Room)) (fun as' U => as' = #[(.ref da), (.int 2)] ∧ Z.Warmed39 U.vm ∧ U.heap = h0) (fun _ _ _ _ _ => True) (fun _ U o U' => ∃ v L, o = .returned v ∧ Q_rmCoder2_0 Z da kd vs h0 n0 v U'.heap L ∧ FrameEnd U o U' L ({ frames := 0, cells := 0, slots := 0, locals := 0 } : Room).cells ({ frames := 0, cells := 0, slots := 0, locals := 0 } : Room).slots) := by
  refine MetFree.of_bodySF (plainFor_of_name pn_1) hisR ?_
  intro p e s m args below meth c s₁ Bd hml0 hP hK
  obtain ⟨rfl, hZ, hh⟩ := hP
  have hx := Bd.exec
  have hby := Bd.bytes
  have hml : c.maxLocals = 2 := hml0
  have hown : s.vm.findClass "java/lang/StringUTF16" = some m.cls := findClass_of_methodNamed Bd.named
  have hnm := (name_of_methodNamed Bd.named Bd.method).1
  have X0 : Stand p l e ({ frames := 0, cells := 0, slots := 0, locals := 0 } : Room) s m #[(.ref da), (.int 2)] below meth c s₁ [] 0 0 := Stand.of_body Bd
  have e0 : s₁.heap = h0 := by rw [← hh, Bd.state]; rfl
  have N0 := Fr.nil n0
  refine Go.enter (F := EndN s (Q_rmCoder2_0 Z da kd vs h0 n0) ({ frames := 0, cells := 0, slots := 0, locals := 0 } : Room).cells ({ frames := 0, cells := 0, slots := 0, locals := 0 } : Room).slots) (ef_40 m da (2 : Int32)) ?_
  show Go _ _ _ _ s₁ (mkF m 0 #[rv da, iv 2] [])
  refine Go.iload1 1 X0 hx (hb hby d6_0) rfl rfl ?_
  refine Go.aload1 2 X0 hx (hb hby d6_1) rfl rfl rfl ?_
  obtain ⟨cl1, Ar1, -, S1, M1, -, -⟩ := id V_da
  refine Go.by (fun _ gk => X0.arraylength hx (by rw [e0]; exact Ar1.1) (State.isArrayOf_alike hZ.alike Ar1.2.1) (g := (mkF m 2 #[rv da, iv 2] [(.ref da), (.int 2)])) rfl rfl (hb hby d6_2) _ gk) ?_
  rw [len_of S1 M1]
  show Go _ _ _ _ s₁ (mkF m 3 #[rv da, iv 2] [(.int 2), (.int 2)])
  refine Go.isub 4 X0 hx (hb hby d6_3) rfl ?_
  rw [(by decide : ((2 : Int32) - (2 : Int32)) = (0 : Int32))]
  refine Go.bipush 6 X0 hx (31 : Int32) (hb hby d6_4) (by decide) rfl ?_
  refine Go.iushr 7 X0 hx (hb hby d6_6) rfl ?_
  rw [(by decide : (XT.ushr (0 : Int32) (31 : Int32)) = (0 : Int32))]
  refine Go.i2b 8 X0 hx (hb hby d6_7) rfl ?_
  rw [(by decide : ((0 : Int32).toInt8.toInt32) = (0 : Int32))]
  exact Go.retI X0 hx Bd.notSynchronized Bd.returns rfl (by simp) (hb hby d6_8) (by rw [e0]; exact ⟨rfl, N0, rfl⟩) (by decide) (by decide)
def Q_rmCoder2_1 (Z : State) (da : Addr) (kd : ClassId) (vs : List Value) (h0 : Heap) (n0 : Nat) (v : Option Value) (h : Heap) (L : List Loc) : Prop := v = some (.int 1) ∧ Fr n0 L ∧ h = h0
set_option maxRecDepth 65536 in
set_option maxHeartbeats 40000000 in
theorem rmCoder2_1 (l : Launch) (Z : State) (a0 : Array Value) (hw : ∀ d ∈ tables_1, d.before a0 Z = true) (ws : List Jvm.Cond) (da : Addr) (kd : ClassId) (vs : List Value) (h0 : Heap) (n0 : Nat) (Z0 : n0 ≤ h0.size) (V_da : Arv Z h0 da kd .byte (4 : Int32) vs (.int 0)) :
    MetFree l (⟨"java/lang/StringUTF16", "coderFromArrayLen", "([BI)B"⟩ : MethodName) (head1 (Jvm.Cond.code (⟨"java/lang/StringUTF16", "coderFromArrayLen", "([BI)B"⟩ : MethodName) jdk_52_method_15_code 2 (some .byte) :: ws) ({ frames := 0, cells := 0, slots := 0, locals := 0 } : Room)) (fun as' U => as' = #[(.ref da), (.int 2)] ∧ Z.Warmed39 U.vm ∧ U.heap = h0) (fun _ _ _ _ _ => True) (fun _ U o U' => ∃ v L, o = .returned v ∧ Q_rmCoder2_1 Z da kd vs h0 n0 v U'.heap L ∧ FrameEnd U o U' L ({ frames := 0, cells := 0, slots := 0, locals := 0 } : Room).cells ({ frames := 0, cells := 0, slots := 0, locals := 0 } : Room).slots) := by
  refine MetFree.of_bodySF (plainFor_of_name pn_1) hisR ?_
  intro p e s m args below meth c s₁ Bd hml0 hP hK
  obtain ⟨rfl, hZ, hh⟩ := hP
  have hx := Bd.exec
  have hby := Bd.bytes
  have hml : c.maxLocals = 2 := hml0
  have hown : s.vm.findClass "java/lang/StringUTF16" = some m.cls := findClass_of_methodNamed Bd.named
  have hnm := (name_of_methodNamed Bd.named Bd.method).1
  have X0 : Stand p l e ({ frames := 0, cells := 0, slots := 0, locals := 0 } : Room) s m #[(.ref da), (.int 2)] below meth c s₁ [] 0 0 := Stand.of_body Bd
  have e0 : s₁.heap = h0 := by rw [← hh, Bd.state]; rfl
  have N0 := Fr.nil n0
  refine Go.enter (F := EndN s (Q_rmCoder2_1 Z da kd vs h0 n0) ({ frames := 0, cells := 0, slots := 0, locals := 0 } : Room).cells ({ frames := 0, cells := 0, slots := 0, locals := 0 } : Room).slots) (ef_40 m da (2 : Int32)) ?_
  show Go _ _ _ _ s₁ (mkF m 0 #[rv da, iv 2] [])
  refine Go.iload1 1 X0 hx (hb hby d6_0) rfl rfl ?_
  refine Go.aload1 2 X0 hx (hb hby d6_1) rfl rfl rfl ?_
  obtain ⟨cl1, Ar1, -, S1, M1, -, -⟩ := id V_da
  refine Go.by (fun _ gk => X0.arraylength hx (by rw [e0]; exact Ar1.1) (State.isArrayOf_alike hZ.alike Ar1.2.1) (g := (mkF m 2 #[rv da, iv 2] [(.ref da), (.int 2)])) rfl rfl (hb hby d6_2) _ gk) ?_
  rw [len_of S1 M1]
  show Go _ _ _ _ s₁ (mkF m 3 #[rv da, iv 2] [(.int 4), (.int 2)])
  refine Go.isub 4 X0 hx (hb hby d6_3) rfl ?_
  rw [(by decide : ((2 : Int32) - (4 : Int32)) = (-2 : Int32))]
  refine Go.bipush 6 X0 hx (31 : Int32) (hb hby d6_4) (by decide) rfl ?_
  refine Go.iushr 7 X0 hx (hb hby d6_6) rfl ?_
  rw [(by decide : (XT.ushr (-2 : Int32) (31 : Int32)) = (1 : Int32))]
  refine Go.i2b 8 X0 hx (hb hby d6_7) rfl ?_
  rw [(by decide : ((1 : Int32).toInt8.toInt32) = (1 : Int32))]
  exact Go.retI X0 hx Bd.notSynchronized Bd.returns rfl (by simp) (hb hby d6_8) (by rw [e0]; exact ⟨rfl, N0, rfl⟩) (by decide) (by decide)
def Q_rmS4_2 (Z : State) (a : Addr) (va : Addr) (kv : ClassId) (c0 : Int32) (c1 : Int32) (cs : Int32) (h0 : Heap) (n0 : Nat) (v : Option Value) (h : Heap) (L : List Loc) : Prop := ∃ b : Addr, ∃ kb : ClassId, ∃ vs : List Value, ∃ ln : Int32, ∃ cd : Int32, v = none ∧ Fr n0 L ∧ Keep h0 h [a] ∧ Exa Z h a "java/lang/String" ∧ Fld Z h a "java/lang/String" "coder" "B" (.int cd) ∧ Fld Z h a "java/lang/String" "value" "[B" (.ref b) ∧ Arv Z h b kb .byte ln vs (.int 0) ∧ h0.size ≤ b ∧ ((ln = 2 ∧ cd = 0) ∨ (ln = 4 ∧ cd = 1))
set_option maxRecDepth 65536 in
set_option maxHeartbeats 40000000 in
theorem rmS4_2 (l : Launch) (Z : State) (a0 : Array Value) (hw : ∀ d ∈ tables_1, d.before a0 Z = true) (ws : List Jvm.Cond) (a : Addr) (va : Addr) (kv : ClassId) (c0 : Int32) (c1 : Int32) (cs : Int32) (h0 : Heap) (n0 : Nat) (Z0 : n0 ≤ h0.size) (O0 : Old Z n0 h0) (E_a : Exa Z h0 a "java/lang/String") (F_a_value : Fld Z h0 a "java/lang/String" "value" "[B" .null) (F_a_coder : Fld Z h0 a "java/lang/String" "coder" "B" (.int 0)) (g_a : n0 ≤ a) (V_va : Arv Z h0 va kv .char (2 : Int32) ([(.int c0), (.int c1)]) (.int 0)) (hn0 : (nar .char c0 = c0)) (hn1 : (nar .char c1 = c1)) (S_cs : Sta Z Z.heap "java/lang/String" "COMPACT_STRINGS" "Z" (.int cs)) (n_cs : ¬ cs = 0) (U0 : Sta Z Z.heap "java/lang/StringUTF16" "$assertionsDisabled" "Z" (.int 1)) (U1 : Sta Z Z.heap "java/lang/StringUTF16" "HI_BYTE_SHIFT" "I" (.int 0)) (U2 : Sta Z Z.heap "java/lang/StringUTF16" "LO_BYTE_SHIFT" "I" (.int 8)) :
    MetFree l (⟨"java/lang/String", "<init>", "([CIILjava/lang/Void;)V"⟩ : MethodName) (head1 (Jvm.Cond.code (⟨"java/lang/String", "<init>", "([CIILjava/lang/Void;)V"⟩ : MethodName) jdk_42_method_149_code 6 none :: ws) ({ frames := 4, cells := 2, slots := 6, locals := 57 } : Room)) (fun as' U => as' = #[(.ref a), (.ref va), (.int 0), (.int 2), .null] ∧ Z.Warmed39 U.vm ∧ U.heap = h0) (fun _ _ _ _ _ => True) (fun _ U o U' => ∃ v L, o = .returned v ∧ Q_rmS4_2 Z a va kv c0 c1 cs h0 n0 v U'.heap L ∧ FrameEnd U o U' L ({ frames := 4, cells := 2, slots := 6, locals := 57 } : Room).cells ({ frames := 4, cells := 2, slots := 6, locals := 57 } : Room).slots) := by
  refine MetFree.of_bodySF (plainFor_of_name pn_152) hisR ?_
  intro p e s m args below meth c s₁ Bd hml0 hP hK
  obtain ⟨rfl, hZ, hh⟩ := hP
  have hx := Bd.exec
  have hby := Bd.bytes
  have hml : c.maxLocals = 6 := hml0
  have hown : s.vm.findClass "java/lang/String" = some m.cls := findClass_of_methodNamed Bd.named
  have hnm := (name_of_methodNamed Bd.named Bd.method).1
  have X0 : Stand p l e ({ frames := 4, cells := 2, slots := 6, locals := 57 } : Room) s m #[(.ref a), (.ref va), (.int 0), (.int 2), .null] below meth c s₁ [] 0 0 := Stand.of_body Bd
  have e0 : s₁.heap = h0 := by rw [← hh, Bd.state]; rfl
  have N0 := Fr.nil n0
  refine Go.enter (F := EndN s (Q_rmS4_2 Z a va kv c0 c1 cs h0 n0) ({ frames := 4, cells := 2, slots := 6, locals := 57 } : Room).cells ({ frames := 4, cells := 2, slots := 6, locals := 57 } : Room).slots) (ef_153 m a va (0 : Int32) (2 : Int32)) ?_
  show Go _ _ _ _ s₁ (mkF m 0 #[rv a, rv va, iv 0, iv 2, .val .null, un] [])
  refine Go.aload1 1 X0 hx (hb hby d2_0) rfl rfl rfl ?_
  obtain ⟨T1, X1, e1, st1⟩ := initO X0 hx hZ hown (ow hw 12 rfl) (ow hw 13 rfl) (ow hw 14 rfl) e0 (g := (mkF m 1 #[rv a, rv va, iv 0, iv 2, .val .null, un] [(.ref a)])) rfl (by rw [hml]; rfl) rfl (hb hby d2_1) (by decide) (W := 0) (by show 2 * 0 + _ ≤ _; exact Nat.le_of_eq rfl) (by decide)
  refine Go.by st1 ?_
  show Go _ _ _ _ T1 (mkF m 4 #[rv a, rv va, iv 0, iv 2, .val .null, un] [])
  refine Go.iload1 5 X1 hx (hb hby d2_4) rfl rfl ?_
  refine Go.ifY 27 X1 hx (hb hby d2_5) (XT.i0_ne_t (by decide)) (by decide) (by decide) ?_
  have F2 : Sta Z h0 "java/lang/String" "COMPACT_STRINGS" "Z" (.int cs) := S_cs.ext O0.2
  obtain ⟨T3, X3, e3, st3⟩ := getS2 X1 hx hZ hown (host := "") (Or.inl (ow hw 15 rfl)) Via.refl e1 F2 (g := (mkF m 27 #[rv a, rv va, iv 0, iv 2, .val .null, un] [])) rfl (hb hby d2_27)
  refine Go.by st3 ?_
  show Go _ _ _ _ T3 (mkF m 30 #[rv a, rv va, iv 0, iv 2, .val .null, un] [(.int cs)])
  refine Go.ifN 33 X3 hx (hb hby d2_30) (XT.i0_eq_f n_cs) rfl ?_
  refine Go.aload1 34 X3 hx (hb hby d2_33) rfl rfl rfl ?_
  refine Go.iload1 35 X3 hx (hb hby d2_34) rfl rfl ?_
  refine Go.iload1 36 X3 hx (hb hby d2_35) rfl rfl ?_
  obtain ⟨_, _, ⟨T4, L4, k4, n4⟩, -, X4, ⟨Lc4, hQ4, l4, y4, z4⟩, st4⟩ := Jvm.LawKit.callS X3 hx (y := (⟨"java/lang/StringUTF16", "compress", "([CII)[B"⟩ : MethodName)) hown (mvT hZ (ow hw 16 rfl)) (mvT hZ (ow hw 17 rfl)) (mvT hZ (ow hw 18 rfl)) (mvT hZ (ow hw 19 rfl)) (by decide) (backOf (W := 0) (rmC3_2 l Z a0 hw [] va kv c0 c1 h0 n0 Z0 O0 V_va hn0 hn1 U0 U1 U2) hZ (ow hw 19 rfl) (ow hw 18 rfl) (by decide) (by decide)) (g := (mkF m 36 #[rv a, rv va, iv 0, iv 2, .val .null, un] [(.int 2), (.int 0), (.ref va)])) rfl (by rw [hml]; rfl) (argsL := [(.ref va), (.int 0), (.int 2)]) (rest := []) (lenOf pd_131 rfl) rfl (by show 2 * 0 + _ ≤ _; exact Nat.le_of_eq rfl) (hb hby d2_36) (fun _ _ => ⟨rfl, e3, (by decide : 0 + 2 ≤ _), (by decide : 0 + 6 ≤ _)⟩)
  dsimp only [Pt.U, Pt.locs, Pt.cells, Pt.slots] at X4 l4 y4 z4 st4 hQ4
  subst l4 y4 z4
  obtain ⟨b, kb, vs, ln, rfl, N4q, K4, Q4_0, Q4_1, Q4_2⟩ := hQ4
  have N4 := Fr.app N0 N4q
  refine Go.by st4 ?_
  show Go _ _ _ _ T4 (mkF m 39 #[rv a, rv va, iv 0, iv 2, .val .null, un] [(.ref b)])
  have ge_b : n0 ≤ b := Nat.le_trans Z0 Q4_1
  have sz_b : h0.size ≤ b := Nat.le_trans (Keep.refl h0 [a]).1 Q4_1
  have ne_a_b : a ≠ b := Nat.ne_of_lt (Nat.lt_of_lt_of_le E_a.lt Q4_1)
  have ne_va_b : va ≠ b := Nat.ne_of_lt (Nat.lt_of_lt_of_le V_va.lt Q4_1)
  rcases Q4_2 with rfl | rfl
  · refine Go.astore2 41 X4 hx (L' := #[rv a, rv va, iv 0, iv 2, .val .null, rv b]) (hb hby d2_39) rfl rfl rfl ?_
    refine Go.aload1 42 X4 hx (hb hby d2_41) rfl rfl rfl ?_
    refine Go.aload2 44 X4 hx (hb hby d2_42) rfl rfl rfl ?_
    refine Go.iload1 45 X4 hx (hb hby d2_44) rfl rfl ?_
    have F5 : n0 ≤ T4.heap.size := Nat.le_trans Z0 K4.1
    obtain ⟨_, _, ⟨T6, L6, k6, n6⟩, -, X6, ⟨Lc6, hQ6, l6, y6, z6⟩, st6⟩ := Jvm.LawKit.callS X4 hx (y := (⟨"java/lang/StringUTF16", "coderFromArrayLen", "([BI)B"⟩ : MethodName)) hown (mvT hZ (ow hw 24 rfl)) (mvT hZ (ow hw 25 rfl)) (mvT hZ (ow hw 18 rfl)) (mvT hZ (ow hw 26 rfl)) (by decide) (backOf (W := 1) (rmCoder2_0 l Z a0 hw [] b kb vs T4.heap n0 F5 Q4_0) hZ (ow hw 26 rfl) (ow hw 18 rfl) (by decide) (by decide)) (g := (mkF m 45 #[rv a, rv va, iv 0, iv 2, .val .null, rv b] [(.int 2), (.ref b), (.ref a)])) rfl (by rw [hml]; rfl) (argsL := [(.ref b), (.int 2)]) (rest := [(.ref a)]) (lenOf pd_168 rfl) rfl (by show 2 * 0 + _ ≤ _; exact Nat.le_of_eq rfl) (hb hby d2_45) (fun _ _ => ⟨rfl, rfl, (by decide : 2 + 0 ≤ _), (by decide : 6 + 0 ≤ _)⟩)
    dsimp only [Pt.U, Pt.locs, Pt.cells, Pt.slots] at X6 l6 y6 z6 st6 hQ6
    subst l6 y6 z6
    obtain ⟨rfl, N6q, e6⟩ := hQ6
    have N6 := Fr.app N4 N6q
    refine Go.by st6 ?_
    show Go _ _ _ _ T6 (mkF m 48 #[rv a, rv va, iv 0, iv 2, .val .null, rv b] [(.int 0), (.ref a)])
    have F7 : Fld Z T4.heap a "java/lang/String" "coder" "B" (.int 0) := F_a_coder.keep K4 nin0
    have F8 : Exa Z T4.heap a "java/lang/String" := E_a.keep K4
    obtain ⟨T9, h9, X9, e9, W9, st9⟩ := putFN X6 hx hZ hown (ow hw 27 rfl) Via.refl e6 F7 F8 (Or.inr ⟨(ow hw 28 rfl), rfl, hnm⟩) (ow hw 3 rfl) (ty := .byte) (v' := (.int 0)) (by decide) rfl rfl (g := (mkF m 48 #[rv a, rv va, iv 0, iv 2, .val .null, rv b] [(.int 0), (.ref a)])) rfl rfl (hb hby d2_48)
    have N9 := Fr.snoc X9 N6 g_a
    have Fw9 : Fld Z h9 a "java/lang/String" "coder" "B" (.int 0) := F7.same W9
    refine Go.by st9 ?_
    show Go _ _ _ _ T9 (mkF m 51 #[rv a, rv va, iv 0, iv 2, .val .null, rv b] [])
    refine Go.aload1 52 X9 hx (hb hby d2_51) rfl rfl rfl ?_
    refine Go.aload2 54 X9 hx (hb hby d2_52) rfl rfl rfl ?_
    have F10 : Fld Z T4.heap a "java/lang/String" "value" "[B" .null := F_a_value.keep K4 nin0
    have F11 : Fld Z h9 a "java/lang/String" "value" "[B" .null := F10.other W9 (Or.inr (slot_ne (Or.inr (ow hw 30 rfl)) (Or.inr (ow hw 28 rfl)) (by decide) (t := (.array .byte)) (t' := .byte) (by decide) (by decide)))
    have F12 : Exa Z h9 a "java/lang/String" := F8.wr W9
    obtain ⟨T13, h13, X13, e13, W13, st13⟩ := putF X9 hx hZ hown (host := "") (Or.inl (ow hw 29 rfl)) Via.refl e9 F11 F12 (Or.inr ⟨(ow hw 30 rfl), rfl, hnm⟩) (ow hw 3 rfl) (ty := (.array .byte)) (by decide) rfl rfl (g := (mkF m 54 #[rv a, rv va, iv 0, iv 2, .val .null, rv b] [(.ref b), (.ref a)])) rfl rfl (hb hby d2_54)
    have N13 := Fr.snoc X13 N9 g_a
    have Fw13 : Fld Z h13 a "java/lang/String" "value" "[B" (.ref b) := F11.same W13
    refine Go.by st13 ?_
    show Go _ _ _ _ T13 (mkF m 57 #[rv a, rv va, iv 0, iv 2, .val .null, rv b] [])
    have F14 : Keep h0 T4.heap [a] := (Keep.refl h0 [a]).trans K4 all0
    have F15 : Keep h0 h9 [a] := F14.wr W9 (Or.inl (List.mem_of_getElem? (i := 0) rfl))
    have F16 : Keep h0 h13 [a] := F15.wr W13 (Or.inl (List.mem_of_getElem? (i := 0) rfl))
    have F17 : Exa Z h13 a "java/lang/String" := F12.wr W13
    have F18 : Fld Z h13 a "java/lang/String" "coder" "B" (.int 0) := Fw9.other W13 (Or.inr (slot_ne (Or.inr (ow hw 28 rfl)) (Or.inr (ow hw 30 rfl)) (by decide) (t := .byte) (t' := (.array .byte)) (by decide) (by decide)))
    have F19 : Arv Z h9 b kb .byte (2 : Int32) vs (.int 0) := Q4_0.other W9 (Ne.symm ne_a_b)
    have F20 : Arv Z h13 b kb .byte (2 : Int32) vs (.int 0) := F19.other W13 (Ne.symm ne_a_b)
    exact Go.retV X13 hx Bd.notSynchronized Bd.returns (hb hby d2_57) (by rw [e13]; exact ⟨b, kb, vs, (2 : Int32), (0 : Int32), rfl, N13, F16, F17, F18, Fw13, F20, sz_b, Or.inl ⟨rfl, rfl⟩⟩) (by decide) (by decide)
  · refine Go.astore2 41 X4 hx (L' := #[rv a, rv va, iv 0, iv 2, .val .null, rv b]) (hb hby d2_39) rfl rfl rfl ?_
    refine Go.aload1 42 X4 hx (hb hby d2_41) rfl rfl rfl ?_
    refine Go.aload2 44 X4 hx (hb hby d2_42) rfl rfl rfl ?_
    refine Go.iload1 45 X4 hx (hb hby d2_44) rfl rfl ?_
    have F21 : n0 ≤ T4.heap.size := Nat.le_trans Z0 K4.1
    obtain ⟨_, _, ⟨T22, L22, k22, n22⟩, -, X22, ⟨Lc22, hQ22, l22, y22, z22⟩, st22⟩ := Jvm.LawKit.callS X4 hx (y := (⟨"java/lang/StringUTF16", "coderFromArrayLen", "([BI)B"⟩ : MethodName)) hown (mvT hZ (ow hw 24 rfl)) (mvT hZ (ow hw 25 rfl)) (mvT hZ (ow hw 18 rfl)) (mvT hZ (ow hw 26 rfl)) (by decide) (backOf (W := 1) (rmCoder2_1 l Z a0 hw [] b kb vs T4.heap n0 F21 Q4_0) hZ (ow hw 26 rfl) (ow hw 18 rfl) (by decide) (by decide)) (g := (mkF m 45 #[rv a, rv va, iv 0, iv 2, .val .null, rv b] [(.int 2), (.ref b), (.ref a)])) rfl (by rw [hml]; rfl) (argsL := [(.ref b), (.int 2)]) (rest := [(.ref a)]) (lenOf pd_168 rfl) rfl (by show 2 * 0 + _ ≤ _; exact Nat.le_of_eq rfl) (hb hby d2_45) (fun _ _ => ⟨rfl, rfl, (by decide : 2 + 0 ≤ _), (by decide : 6 + 0 ≤ _)⟩)
    dsimp only [Pt.U, Pt.locs, Pt.cells, Pt.slots] at X22 l22 y22 z22 st22 hQ22
    subst l22 y22 z22
    obtain ⟨rfl, N22q, e22⟩ := hQ22
    have N22 := Fr.app N4 N22q
    refine Go.by st22 ?_
    show Go _ _ _ _ T22 (mkF m 48 #[rv a, rv va, iv 0, iv 2, .val .null, rv b] [(.int 1), (.ref a)])
    have F23 : Fld Z T4.heap a "java/lang/String" "coder" "B" (.int 0) := F_a_coder.keep K4 nin0
    have F24 : Exa Z T4.heap a "java/lang/String" := E_a.keep K4
    obtain ⟨T25, h25, X25, e25, W25, st25⟩ := putFN X22 hx hZ hown (ow hw 27 rfl) Via.refl e22 F23 F24 (Or.inr ⟨(ow hw 28 rfl), rfl, hnm⟩) (ow hw 3 rfl) (ty := .byte) (v' := (.int 1)) (by decide) rfl rfl (g := (mkF m 48 #[rv a, rv va, iv 0, iv 2, .val .null, rv b] [(.int 1), (.ref a)])) rfl rfl (hb hby d2_48)
    have N25 := Fr.snoc X25 N22 g_a
    have Fw25 : Fld Z h25 a "java/lang/String" "coder" "B" (.int 1) := F23.same W25
    refine Go.by st25 ?_
    show Go _ _ _ _ T25 (mkF m 51 #[rv a, rv va, iv 0, iv 2, .val .null, rv b] [])
    refine Go.aload1 52 X25 hx (hb hby d2_51) rfl rfl rfl ?_
    refine Go.aload2 54 X25 hx (hb hby d2_52) rfl rfl rfl ?_
    have F26 : Fld Z T4.heap a "java/lang/String" "value" "[B" .null := F_a_value.keep K4 nin0
    have F27 : Fld Z h25 a "java/lang/String" "value" "[B" .null := F26.other W25 (Or.inr (slot_ne (Or.inr (ow hw 30 rfl)) (Or.inr (ow hw 28 rfl)) (by decide) (t := (.array .byte)) (t' := .byte) (by decide) (by decide)))
    have F28 : Exa Z h25 a "java/lang/String" := F24.wr W25
    obtain ⟨T29, h29, X29, e29, W29, st29⟩ := putF X25 hx hZ hown (host := "") (Or.inl (ow hw 29 rfl)) Via.refl e25 F27 F28 (Or.inr ⟨(ow hw 30 rfl), rfl, hnm⟩) (ow hw 3 rfl) (ty := (.array .byte)) (by decide) rfl rfl (g := (mkF m 54 #[rv a, rv va, iv 0, iv 2, .val .null, rv b] [(.ref b), (.ref a)])) rfl rfl (hb hby d2_54)
    have N29 := Fr.snoc X29 N25 g_a
    have Fw29 : Fld Z h29 a "java/lang/String" "value" "[B" (.ref b) := F27.same W29
    refine Go.by st29 ?_
    show Go _ _ _ _ T29 (mkF m 57 #[rv a, rv va, iv 0, iv 2, .val .null, rv b] [])
    have F30 : Keep h0 T4.heap [a] := (Keep.refl h0 [a]).trans K4 all0
    have F31 : Keep h0 h25 [a] := F30.wr W25 (Or.inl (List.mem_of_getElem? (i := 0) rfl))
    have F32 : Keep h0 h29 [a] := F31.wr W29 (Or.inl (List.mem_of_getElem? (i := 0) rfl))
    have F33 : Exa Z h29 a "java/lang/String" := F28.wr W29
    have F34 : Fld Z h29 a "java/lang/String" "coder" "B" (.int 1) := Fw25.other W29 (Or.inr (slot_ne (Or.inr (ow hw 28 rfl)) (Or.inr (ow hw 30 rfl)) (by decide) (t := .byte) (t' := (.array .byte)) (by decide) (by decide)))
    have F35 : Arv Z h25 b kb .byte (4 : Int32) vs (.int 0) := Q4_0.other W25 (Ne.symm ne_a_b)
    have F36 : Arv Z h29 b kb .byte (4 : Int32) vs (.int 0) := F35.other W29 (Ne.symm ne_a_b)
    exact Go.retV X29 hx Bd.notSynchronized Bd.returns (hb hby d2_57) (by rw [e29]; exact ⟨b, kb, vs, (4 : Int32), (1 : Int32), rfl, N29, F32, F33, F34, Fw29, F36, sz_b, Or.inr ⟨rfl, rfl⟩⟩) (by decide) (by decide)
def Q_rmS1_2 (Z : State) (a : Addr) (va : Addr) (kv : ClassId) (c0 : Int32) (c1 : Int32) (cs : Int32) (h0 : Heap) (n0 : Nat) (v : Option Value) (h : Heap) (L : List Loc) : Prop := ∃ b : Addr, ∃ kb : ClassId, ∃ vs : List Value, ∃ ln : Int32, ∃ cd : Int32, v = none ∧ Fr n0 L ∧ Keep h0 h [a] ∧ Exa Z h a "java/lang/String" ∧ Fld Z h a "java/lang/String" "coder" "B" (.int cd) ∧ Fld Z h a "java/lang/String" "value" "[B" (.ref b) ∧ Arv Z h b kb .byte ln vs (.int 0) ∧ h0.size ≤ b ∧ ((ln = 2 ∧ cd = 0) ∨ (ln = 4 ∧ cd = 1))
set_option maxRecDepth 65536 in
set_option maxHeartbeats 40000000 in
theorem rmS1_2 (l : Launch) (Z : State) (a0 : Array Value) (hw : ∀ d ∈ tables_1, d.before a0 Z = true) (ws : List Jvm.Cond) (a : Addr) (va : Addr) (kv : ClassId) (c0 : Int32) (c1 : Int32) (cs : Int32) (h0 : Heap) (n0 : Nat) (Z0 : n0 ≤ h0.size) (O0 : Old Z n0 h0) (E_a : Exa Z h0 a "java/lang/String") (F_a_value : Fld Z h0 a "java/lang/String" "value" "[B" .null) (F_a_coder : Fld Z h0 a "java/lang/String" "coder" "B" (.int 0)) (g_a : n0 ≤ a) (V_va : Arv Z h0 va kv .char (2 : Int32) ([(.int c0), (.int c1)]) (.int 0)) (hn0 : (nar .char c0 = c0)) (hn1 : (nar .char c1 = c1)) (S_cs : Sta Z Z.heap "java/lang/String" "COMPACT_STRINGS" "Z" (.int cs)) (n_cs : ¬ cs = 0) (U0 : Sta Z Z.heap "java/lang/StringUTF16" "$assertionsDisabled" "Z" (.int 1)) (U1 : Sta Z Z.heap "java/lang/StringUTF16" "HI_BYTE_SHIFT" "I" (.int 0)) (U2 : Sta Z Z.heap "java/lang/StringUTF16" "LO_BYTE_SHIFT" "I" (.int 8)) :
    MetFree l (⟨"java/lang/String", "<init>", "([C)V"⟩ : MethodName) (head1 (Jvm.Cond.code (⟨"java/lang/String", "<init>", "([C)V"⟩ : MethodName) jdk_42_method_3_code 2 none :: ws) ({ frames := 5, cells := 2, slots := 6, locals := 74 } : Room)) (fun as' U => as' = #[(.ref a), (.ref va)] ∧ Z.Warmed39 U.vm ∧ U.heap = h0) (fun _ _ _ _ _ => True) (fun _ U o U' => ∃ v L, o = .returned v ∧ Q_rmS1_2 Z a va kv c0 c1 cs h0 n0 v U'.heap L ∧ FrameEnd U o U' L ({ frames := 5, cells := 2, slots := 6, locals := 74 } : Room).cells ({ frames := 5, cells := 2, slots := 6, locals := 74 } : Room).slots) := by
  refine MetFree.of_bodySF (plainFor_of_name pn_152) hisR ?_
  intro p e s m args below meth c s₁ Bd hml0 hP hK
  obtain ⟨rfl, hZ, hh⟩ := hP
  have hx := Bd.exec
  have hby := Bd.bytes
  have hml : c.maxLocals = 2 := hml0
  have hown : s.vm.findClass "java/lang/String" = some m.cls := findClass_of_methodNamed Bd.named
  have hnm := (name_of_methodNamed Bd.named Bd.method).1
  have X0 : Stand p l e ({ frames := 5, cells := 2, slots := 6, locals := 74 } : Room) s m #[(.ref a), (.ref va)] below meth c s₁ [] 0 0 := Stand.of_body Bd
  have e0 : s₁.heap = h0 := by rw [← hh, Bd.state]; rfl
  have N0 := Fr.nil n0
  refine Go.enter (F := EndN s (Q_rmS1_2 Z a va kv c0 c1 cs h0 n0) ({ frames := 5, cells := 2, slots := 6, locals := 74 } : Room).cells ({ frames := 5, cells := 2, slots := 6, locals := 74 } : Room).slots) (ef_175 m a va) ?_
  show Go _ _ _ _ s₁ (mkF m 0 #[rv a, rv va] [])
  refine Go.aload1 1 X0 hx (hb hby d1_0) rfl rfl rfl ?_
  refine Go.aload1 2 X0 hx (hb hby d1_1) rfl rfl rfl ?_
  refine Go.iconst 3 X0 hx (0 : Int32) (hb hby d1_2) (by decide) rfl ?_
  refine Go.aload1 4 X0 hx (hb hby d1_3) rfl rfl rfl ?_
  obtain ⟨cl1, Ar1, -, S1, M1, -, -⟩ := id V_va
  refine Go.by (fun _ gk => X0.arraylength hx (by rw [e0]; exact Ar1.1) (State.isArrayOf_alike hZ.alike Ar1.2.1) (g := (mkF m 4 #[rv a, rv va] [(.ref va), (.int 0), (.ref va), (.ref a)])) rfl rfl (hb hby d1_4) _ gk) ?_
  rw [len_of S1 M1]
  show Go _ _ _ _ s₁ (mkF m 5 #[rv a, rv va] [(.int 2), (.int 0), (.ref va), (.ref a)])
  refine Go.aconst_null 6 X0 hx (hb hby d1_5) rfl ?_
  obtain ⟨_, _, ⟨T2, L2, k2, n2⟩, -, X2, ⟨Lc2, hQ2, l2, y2, z2⟩, st2⟩ := X0.specialBack hx (y := (⟨"java/lang/String", "<init>", "([CIILjava/lang/Void;)V"⟩ : MethodName)) rfl hown (mvT hZ (ow hw 8 rfl)) (mvT hZ (ow hw 9 rfl)) (mvT hZ (ow hw 11 rfl)) (by decide) (backOf (W := 0) (rmS4_2 l Z a0 hw [] a va kv c0 c1 cs h0 n0 Z0 O0 E_a F_a_value F_a_coder g_a V_va hn0 hn1 S_cs n_cs U0 U1 U2) hZ (ow hw 11 rfl) (ow hw 4 rfl) (by decide) (by decide)) (g := (mkF m 6 #[rv a, rv va] [.null, (.int 2), (.int 0), (.ref va), (.ref a)])) rfl (by rw [hml]; rfl) (Steps.refl _) (a := a) (argsL := [(.ref va), (.int 0), (.int 2), .null]) (rest := []) (lenOf pd_182 rfl) rfl (by show 2 * 0 + _ ≤ _; exact Nat.le_of_eq rfl) (hb hby d1_6) (fun _ _ => ⟨rfl, e0, (by decide : 0 + 2 ≤ _), (by decide : 0 + 6 ≤ _)⟩)
  dsimp only [Pt.U, Pt.locs, Pt.cells, Pt.slots] at X2 l2 y2 z2 st2 hQ2
  subst l2 y2 z2
  obtain ⟨b, kb, vs, ln, cd, rfl, N2q, K2, Q2_0, Q2_1, Q2_2, Q2_3, Q2_4, Q2_5⟩ := hQ2
  have N2 := Fr.app N0 N2q
  refine Go.to st2 ?_
  show Go _ _ _ _ T2 (mkF m 9 #[rv a, rv va] [])
  have ge_b : n0 ≤ b := Nat.le_trans Z0 Q2_4
  have sz_b : h0.size ≤ b := Nat.le_trans (Keep.refl h0 [a]).1 Q2_4
  have ne_a_b : a ≠ b := Nat.ne_of_lt (Nat.lt_of_lt_of_le E_a.lt Q2_4)
  have ne_va_b : va ≠ b := Nat.ne_of_lt (Nat.lt_of_lt_of_le V_va.lt Q2_4)
  have F3 : Keep h0 T2.heap [a] := (Keep.refl h0 [a]).trans K2 (allS (Or.inl (List.mem_of_getElem? (i := 0) rfl)) all0)
  exact Go.retV X2 hx Bd.notSynchronized Bd.returns (hb hby d1_9) ⟨b, kb, vs, ln, cd, rfl, N2, F3, Q2_0, Q2_1, Q2_2, Q2_3, sz_b, Q2_5⟩ (by decide) (by decide)
def Q_rmNbl3 (Z : State)  (h0 : Heap) (n0 : Nat) (v : Option Value) (h : Heap) (L : List Loc) : Prop := v = some (.int 6) ∧ Fr n0 L ∧ h = h0
set_option maxRecDepth 65536 in
set_option maxHeartbeats 40000000 in
theorem rmNbl3 (l : Launch) (Z : State) (a0 : Array Value) (hw : ∀ d ∈ tables_1, d.before a0 Z = true) (ws : List Jvm.Cond)  (h0 : Heap) (n0 : Nat) (Z0 : n0 ≤ h0.size)  :
    MetFree l (⟨"java/lang/StringUTF16", "newBytesLength", "(I)I"⟩ : MethodName) (head1 (Jvm.Cond.code (⟨"java/lang/StringUTF16", "newBytesLength", "(I)I"⟩ : MethodName) jdk_52_method_3_code 1 (some .int) :: ws) ({ frames := 0, cells := 0, slots := 0, locals := 0 } : Room)) (fun as' U => as' = #[(.int 3)] ∧ Z.Warmed39 U.vm ∧ U.heap = h0) (fun _ _ _ _ _ => True) (fun _ U o U' => ∃ v L, o = .returned v ∧ Q_rmNbl3 Z  h0 n0 v U'.heap L ∧ FrameEnd U o U' L ({ frames := 0, cells := 0, slots := 0, locals := 0 } : Room).cells ({ frames := 0, cells := 0, slots := 0, locals := 0 } : Room).slots) := by
  refine MetFree.of_bodySF (plainFor_of_name pn_1) hisR ?_
  intro p e s m args below meth c s₁ Bd hml0 hP hK
  obtain ⟨rfl, hZ, hh⟩ := hP
  have hx := Bd.exec
  have hby := Bd.bytes
  have hml : c.maxLocals = 1 := hml0
  have hown : s.vm.findClass "java/lang/StringUTF16" = some m.cls := findClass_of_methodNamed Bd.named
  have hnm := (name_of_methodNamed Bd.named Bd.method).1
  have X0 : Stand p l e ({ frames := 0, cells := 0, slots := 0, locals := 0 } : Room) s m #[(.int 3)] below meth c s₁ [] 0 0 := Stand.of_body Bd
  have e0 : s₁.heap = h0 := by rw [← hh, Bd.state]; rfl
  have N0 := Fr.nil n0
  refine Go.enter (F := EndN s (Q_rmNbl3 Z  h0 n0) ({ frames := 0, cells := 0, slots := 0, locals := 0 } : Room).cells ({ frames := 0, cells := 0, slots := 0, locals := 0 } : Room).slots) (ef_2 m (3 : Int32)) ?_
  show Go _ _ _ _ s₁ (mkF m 0 #[iv 3] [])
  refine Go.iload1 1 X0 hx (hb hby d14_0) rfl rfl ?_
  refine Go.ifY 12 X0 hx (hb hby d14_1) (XT.i0_ge_t (by decide)) (by decide) (by decide) ?_
  refine Go.iload1 13 X0 hx (hb hby d14_12) rfl rfl ?_
  refine Go.by (fun _ gk => X0.ldcI hx hown (mvT hZ (ow hw 67 rfl)) (g := (mkF m 13 #[iv 3] [(.int 3)])) rfl (hb hby d14_13) gk) ?_
  show Go _ _ _ _ s₁ (mkF m 15 #[iv 3] [(.int 1073741823), (.int 3)])
  refine Go.icmpY 55 X0 hx (hb hby d14_15) (XT.ii_lt_t (by decide)) (by decide) (by decide) ?_
  refine Go.iload1 56 X0 hx (hb hby d14_55) rfl rfl ?_
  refine Go.iconst 57 X0 hx (1 : Int32) (hb hby d14_56) (by decide) rfl ?_
  refine Go.ishl 58 X0 hx (hb hby d14_57) rfl ?_
  rw [(by decide : ((3 : Int32) <<< ((1 : Int32) &&& 31)) = (6 : Int32))]
  exact Go.retI X0 hx Bd.notSynchronized Bd.returns rfl (by simp) (hb hby d14_58) (by rw [e0]; exact ⟨rfl, N0, rfl⟩) (by decide) (by decide)
def Q_rmNbf3 (Z : State)  (h0 : Heap) (n0 : Nat) (v : Option Value) (h : Heap) (L : List Loc) : Prop := ∃ tb : Addr, ∃ kt : ClassId, v = some (.ref tb) ∧ Fr n0 L ∧ Keep h0 h [] ∧ Arv Z h tb kt .byte (6 : Int32) ([(.int 0), (.int 0), (.int 0), (.int 0), (.int 0), (.int 0)]) (.int 0) ∧ h0.size ≤ tb
set_option maxRecDepth 65536 in
set_option maxHeartbeats 40000000 in
theorem rmNbf3 (l : Launch) (Z : State) (a0 : Array Value) (hw : ∀ d ∈ tables_1, d.before a0 Z = true) (ws : List Jvm.Cond)  (h0 : Heap) (n0 : Nat) (Z0 : n0 ≤ h0.size)  :
    MetFree l (⟨"java/lang/StringUTF16", "newBytesFor", "(I)[B"⟩ : MethodName) (head1 (Jvm.Cond.code (⟨"java/lang/StringUTF16", "newBytesFor", "(I)[B"⟩ : MethodName) jdk_52_method_2_code 1 (some (.array .byte)) :: ws) ({ frames := 1, cells := 1, slots := 6, locals := 12 } : Room)) (fun as' U => as' = #[(.int 3)] ∧ Z.Warmed39 U.vm ∧ U.heap = h0) (fun _ _ _ _ _ => True) (fun _ U o U' => ∃ v L, o = .returned v ∧ Q_rmNbf3 Z  h0 n0 v U'.heap L ∧ FrameEnd U o U' L ({ frames := 1, cells := 1, slots := 6, locals := 12 } : Room).cells ({ frames := 1, cells := 1, slots := 6, locals := 12 } : Room).slots) := by
  refine MetFree.of_bodySF (plainFor_of_name pn_1) hisR ?_
  intro p e s m args below meth c s₁ Bd hml0 hP hK
  obtain ⟨rfl, hZ, hh⟩ := hP
  have hx := Bd.exec
  have hby := Bd.bytes
  have hml : c.maxLocals = 1 := hml0
  have hown : s.vm.findClass "java/lang/StringUTF16" = some m.cls := findClass_of_methodNamed Bd.named
  have hnm := (name_of_methodNamed Bd.named Bd.method).1
  have X0 : Stand p l e ({ frames := 1, cells := 1, slots := 6, locals := 12 } : Room) s m #[(.int 3)] below meth c s₁ [] 0 0 := Stand.of_body Bd
  have e0 : s₁.heap = h0 := by rw [← hh, Bd.state]; rfl
  have N0 := Fr.nil n0
  refine Go.enter (F := EndN s (Q_rmNbf3 Z  h0 n0) ({ frames := 1, cells := 1, slots := 6, locals := 12 } : Room).cells ({ frames := 1, cells := 1, slots := 6, locals := 12 } : Room).slots) (ef_2 m (3 : Int32)) ?_
  show Go _ _ _ _ s₁ (mkF m 0 #[iv 3] [])
  refine Go.iload1 1 X0 hx (hb hby d13_0) rfl rfl ?_
  obtain ⟨_, _, ⟨T1, L1, k1, n1⟩, -, X1, ⟨Lc1, hQ1, l1, y1, z1⟩, st1⟩ := Jvm.LawKit.callS X0 hx (y := (⟨"java/lang/StringUTF16", "newBytesLength", "(I)I"⟩ : MethodName)) hown (mvT hZ (ow hw 64 rfl)) (mvT hZ (ow hw 65 rfl)) (mvT hZ (ow hw 18 rfl)) (mvT hZ (ow hw 66 rfl)) (by decide) (backOf (W := 0) (rmNbl3 l Z a0 hw []  h0 n0 Z0 ) hZ (ow hw 66 rfl) (ow hw 18 rfl) (by decide) (by decide)) (g := (mkF m 1 #[iv 3] [(.int 3)])) rfl (by rw [hml]; rfl) (argsL := [(.int 3)]) (rest := []) (lenOf pd_13 rfl) rfl (by show 2 * 0 + _ ≤ _; exact Nat.le_of_eq rfl) (hb hby d13_1) (fun _ _ => ⟨rfl, e0, (by decide : 0 + 0 ≤ _), (by decide : 0 + 0 ≤ _)⟩)
  dsimp only [Pt.U, Pt.locs, Pt.cells, Pt.slots] at X1 l1 y1 z1 st1 hQ1
  subst l1 y1 z1
  obtain ⟨rfl, N1q, e1⟩ := hQ1
  have N1 := Fr.app N0 N1q
  refine Go.by st1 ?_
  show Go _ _ _ _ T1 (mkF m 4 #[iv 3] [(.int 6)])
  obtain ⟨tb, g2⟩ : ∃ z, z = h0.size := ⟨_, rfl⟩
  have ge_tb : n0 ≤ tb := Nat.le_trans Z0 (Nat.le_of_eq g2.symm)
  have sz_tb : h0.size ≤ tb := Nat.le_trans (Keep.refl h0 []).1 (Nat.le_of_eq g2.symm)
  obtain ⟨T2, h2, k2, X2, e2, E2, A2, Ea2, st2⟩ := newPE X1 hx hZ (ow hw 20 rfl) e1 (g := (mkF m 4 #[iv 3] [(.int 6)])) rfl (hb hby d13_4) rfl (by decide) (cap := 6) (by decide) (by decide) (by decide) (by decide) (ad := "[B") rfl
  rw [← g2] at A2 Ea2 st2
  have V_tb : Arv Z h2 tb k2 .byte (6 : Int32) [(.int 0), (.int 0), (.int 0), (.int 0), (.int 0), (.int 0)] (.int 0) := (Arv.new A2 (by decide)).pad (pad_rep [] (.int 0) 6)
  refine Go.by st2 ?_
  show Go _ _ _ _ T2 (mkF m 6 #[iv 3] [(.ref tb)])
  have F3 : Keep h0 h2 [] := (Keep.refl h0 []).ext E2
  exact Go.retA X2 hx Bd.notSynchronized Bd.returns rfl rfl (hb hby d13_6) (by rw [e2]; exact ⟨tb, k2, rfl, N1, F3, V_tb, sz_tb⟩) (by decide) (by decide)
def Q_rmPut3_0 (Z : State) (tb : Addr) (kt : ClassId) (c0 : Int32) (x0 : Int32) (x1 : Int32) (x2 : Int32) (x3 : Int32) (x4 : Int32) (x5 : Int32) (h0 : Heap) (n0 : Nat) (v : Option Value) (h : Heap) (L : List Loc) : Prop := v = none ∧ Fr n0 L ∧ Keep h0 h [tb] ∧ Arv Z h tb kt .byte (6 : Int32) ([(.int (own_lo c0)), (.int (own_hi c0)), (.int x2), (.int x3), (.int x4), (.int x5)]) (.int 0)
set_option maxRecDepth 65536 in
set_option maxHeartbeats 40000000 in
theorem rmPut3_0 (l : Launch) (Z : State) (a0 : Array Value) (hw : ∀ d ∈ tables_1, d.before a0 Z = true) (ws : List Jvm.Cond) (tb : Addr) (kt : ClassId) (c0 : Int32) (x0 : Int32) (x1 : Int32) (x2 : Int32) (x3 : Int32) (x4 : Int32) (x5 : Int32) (h0 : Heap) (n0 : Nat) (Z0 : n0 ≤ h0.size) (O0 : Old Z n0 h0) (V_tb : Arv Z h0 tb kt .byte (6 : Int32) ([(.int x0), (.int x1), (.int x2), (.int x3), (.int x4), (.int x5)]) (.int 0)) (g_tb : n0 ≤ tb) (U0 : Sta Z Z.heap "java/lang/StringUTF16" "$assertionsDisabled" "Z" (.int 1)) (U1 : Sta Z Z.heap "java/lang/StringUTF16" "HI_BYTE_SHIFT" "I" (.int 0)) (U2 : Sta Z Z.heap "java/lang/StringUTF16" "LO_BYTE_SHIFT" "I" (.int 8)) :
    MetFree l (⟨"java/lang/StringUTF16", "putChar", "([BII)V"⟩ : MethodName) (head1 (Jvm.Cond.code (⟨"java/lang/StringUTF16", "putChar", "([BII)V"⟩ : MethodName) jdk_52_method_4_code 3 none :: ws) ({ frames := 0, cells := 0, slots := 0, locals := 0 } : Room)) (fun as' U => as' = #[(.ref tb), (.int 0), (.int c0)] ∧ Z.Warmed39 U.vm ∧ U.heap = h0) (fun _ _ _ _ _ => True) (fun _ U o U' => ∃ v L, o = .returned v ∧ Q_rmPut3_0 Z tb kt c0 x0 x1 x2 x3 x4 x5 h0 n0 v U'.heap L ∧ FrameEnd U o U' L ({ frames := 0, cells := 0, slots := 0, locals := 0 } : Room).cells ({ frames := 0, cells := 0, slots := 0, locals := 0 } : Room).slots) := by
  refine MetFree.of_bodySF (plainFor_of_name pn_1) hisR ?_
  intro p e s m args below meth c s₁ Bd hml0 hP hK
  obtain ⟨rfl, hZ, hh⟩ := hP
  have hx := Bd.exec
  have hby := Bd.bytes
  have hml : c.maxLocals = 3 := hml0
  have hown : s.vm.findClass "java/lang/StringUTF16" = some m.cls := findClass_of_methodNamed Bd.named
  have hnm := (name_of_methodNamed Bd.named Bd.method).1
  have X0 : Stand p l e ({ frames := 0, cells := 0, slots := 0, locals := 0 } : Room) s m #[(.ref tb), (.int 0), (.int c0)] below meth c s₁ [] 0 0 := Stand.of_body Bd
  have e0 : s₁.heap = h0 := by rw [← hh, Bd.state]; rfl
  have N0 := Fr.nil n0
  refine Go.enter (F := EndN s (Q_rmPut3_0 Z tb kt c0 x0 x1 x2 x3 x4 x5 h0 n0) ({ frames := 0, cells := 0, slots := 0, locals := 0 } : Room).cells ({ frames := 0, cells := 0, slots := 0, locals := 0 } : Room).slots) (ef_17 m tb (0 : Int32) c0) ?_
  show Go _ _ _ _ s₁ (mkF m 0 #[rv tb, iv 0, iv c0] [])
  have F1 : Sta Z h0 "java/lang/StringUTF16" "$assertionsDisabled" "Z" (.int 1) := U0.ext O0.2
  obtain ⟨T2, X2, e2, st2⟩ := getS2 X0 hx hZ hown (host := "") (Or.inl (ow hw 71 rfl)) Via.refl e0 F1 (g := (mkF m 0 #[rv tb, iv 0, iv c0] [])) rfl (hb hby d15_0)
  refine Go.by st2 ?_
  show Go _ _ _ _ T2 (mkF m 3 #[rv tb, iv 0, iv c0] [(.int 1)])
  refine Go.ifY 28 X2 hx (hb hby d15_3) (XT.i0_ne_t (by decide)) (by decide) (by decide) ?_
  refine Go.iload1 29 X2 hx (hb hby d15_28) rfl rfl ?_
  refine Go.iconst 30 X2 hx (1 : Int32) (hb hby d15_29) (by decide) rfl ?_
  refine Go.ishl 31 X2 hx (hb hby d15_30) rfl ?_
  rw [(by decide : ((0 : Int32) <<< ((1 : Int32) &&& 31)) = (0 : Int32))]
  refine Go.istore1 32 X2 hx (L' := #[rv tb, iv 0, iv c0]) (hb hby d15_31) rfl rfl ?_
  refine Go.aload1 33 X2 hx (hb hby d15_32) rfl rfl rfl ?_
  refine Go.iload1 34 X2 hx (hb hby d15_33) rfl rfl ?_
  refine Go.iinc 37 X2 hx (1 : Int32) (L' := #[rv tb, iv 1, iv c0]) (hb hby d15_34) (by decide) rfl rfl rfl ?_
  refine Go.iload1 38 X2 hx (hb hby d15_37) rfl rfl ?_
  have F3 : Sta Z h0 "java/lang/StringUTF16" "HI_BYTE_SHIFT" "I" (.int 0) := U1.ext O0.2
  obtain ⟨T4, X4, e4, st4⟩ := getS2 X2 hx hZ hown (host := "") (Or.inl (ow hw 72 rfl)) Via.refl e2 F3 (g := (mkF m 38 #[rv tb, iv 1, iv c0] [(.int c0), (.int 0), (.ref tb)])) rfl (hb hby d15_38)
  refine Go.by st4 ?_
  show Go _ _ _ _ T4 (mkF m 41 #[rv tb, iv 1, iv c0] [(.int 0), (.int c0), (.int 0), (.ref tb)])
  refine Go.ishr 42 X4 hx (hb hby d15_41) rfl ?_
  refine Go.i2b 43 X4 hx (hb hby d15_42) rfl ?_
  obtain ⟨cl5, Ar5, q5, S5, M5, H5, G5⟩ := id V_tb
  have hin5 : ¬ ((0 : Int32) < 0 ∨ cl5.slots.size ≤ (0 : Int32).toNatClampNeg) := inb_of S5 ⟨by decide, by decide⟩
  obtain ⟨T5, h5, X5, e5, W5, st5⟩ := stB X4 hx hZ e4 Ar5 (j := (0 : Int32)) hin5 (g := (mkF m 43 #[rv tb, iv 1, iv c0] [(.int ((c0 >>> ((0 : Int32) &&& 31)).toInt8.toInt32)), (.int 0), (.ref tb)])) rfl rfl (hb hby d15_43)
  have N5 := Fr.snoc X5 N0 g_tb
  have V5 : Arv Z h5 tb kt .byte (6 : Int32) [(.int (nar .byte ((c0 >>> ((0 : Int32) &&& 31)).toInt8.toInt32))), (.int x1), (.int x2), (.int x3), (.int x4), (.int x5)] (.int 0) := Arv.set Ar5 q5 S5 M5 H5 G5 (fits_nar_byte _) W5 0 rfl (Nat.le_of_ble_eq_true rfl)
  refine Go.by st5 ?_
  show Go _ _ _ _ T5 (mkF m 44 #[rv tb, iv 1, iv c0] [])
  replace V5 : Arv Z h5 tb kt .byte (6 : Int32) [(.int (own_lo c0)), (.int x1), (.int x2), (.int x3), (.int x4), (.int x5)] (.int 0) := V5
  refine Go.aload1 45 X5 hx (hb hby d15_44) rfl rfl rfl ?_
  refine Go.iload1 46 X5 hx (hb hby d15_45) rfl rfl ?_
  refine Go.iload1 47 X5 hx (hb hby d15_46) rfl rfl ?_
  have F6 : Old Z n0 h5 := O0.wr W5 g_tb
  have F7 : Sta Z h5 "java/lang/StringUTF16" "LO_BYTE_SHIFT" "I" (.int 8) := U2.ext F6.2
  obtain ⟨T8, X8, e8, st8⟩ := getS2 X5 hx hZ hown (host := "") (Or.inl (ow hw 73 rfl)) Via.refl e5 F7 (g := (mkF m 47 #[rv tb, iv 1, iv c0] [(.int c0), (.int 1), (.ref tb)])) rfl (hb hby d15_47)
  refine Go.by st8 ?_
  show Go _ _ _ _ T8 (mkF m 50 #[rv tb, iv 1, iv c0] [(.int 8), (.int c0), (.int 1), (.ref tb)])
  refine Go.ishr 51 X8 hx (hb hby d15_50) rfl ?_
  refine Go.i2b 52 X8 hx (hb hby d15_51) rfl ?_
  obtain ⟨cl9, Ar9, q9, S9, M9, H9, G9⟩ := id V5
  have hin9 : ¬ ((1 : Int32) < 0 ∨ cl9.slots.size ≤ (1 : Int32).toNatClampNeg) := inb_of S9 ⟨by decide, by decide⟩
  obtain ⟨T9, h9, X9, e9, W9, st9⟩ := stB X8 hx hZ e8 Ar9 (j := (1 : Int32)) hin9 (g := (mkF m 52 #[rv tb, iv 1, iv c0] [(.int ((c0 >>> ((8 : Int32) &&& 31)).toInt8.toInt32)), (.int 1), (.ref tb)])) rfl rfl (hb hby d15_52)
  have N9 := Fr.snoc X9 N5 g_tb
  have V9 : Arv Z h9 tb kt .byte (6 : Int32) [(.int (own_lo c0)), (.int (nar .byte ((c0 >>> ((8 : Int32) &&& 31)).toInt8.toInt32))), (.int x2), (.int x3), (.int x4), (.int x5)] (.int 0) := Arv.set Ar9 q9 S9 M9 H9 G9 (fits_nar_byte _) W9 1 rfl (Nat.le_of_ble_eq_true rfl)
  refine Go.by st9 ?_
  show Go _ _ _ _ T9 (mkF m 53 #[rv tb, iv 1, iv c0] [])
  replace V9 : Arv Z h9 tb kt .byte (6 : Int32) [(.int (own_lo c0)), (.int (own_hi c0)), (.int x2), (.int x3), (.int x4), (.int x5)] (.int 0) := V9
  have F10 : Keep h0 h5 [tb] := (Keep.refl h0 [tb]).wr W5 (Or.inl (List.mem_of_getElem? (i := 0) rfl))
  have F11 : Keep h0 h9 [tb] := F10.wr W9 (Or.inl (List.mem_of_getElem? (i := 0) rfl))
  exact Go.retV X9 hx Bd.notSynchronized Bd.returns (hb hby d15_53) (by rw [e9]; exact ⟨rfl, N9, F11, V9⟩) (by decide) (by decide)
def Q_rmGetC3_0 (Z : State) (tb : Addr) (kt : ClassId) (c0 : Int32) (x0 : Int32) (x1 : Int32) (x2 : Int32) (x3 : Int32) (x4 : Int32) (x5 : Int32) (h0 : Heap) (n0 : Nat) (v : Option Value) (h : Heap) (L : List Loc) : Prop := v = some (.int c0) ∧ Fr n0 L ∧ h = h0
set_option maxRecDepth 65536 in
set_option maxHeartbeats 40000000 in
theorem rmGetC3_0 (l : Launch) (Z : State) (a0 : Array Value) (hw : ∀ d ∈ tables_1, d.before a0 Z = true) (ws : List Jvm.Cond) (tb : Addr) (kt : ClassId) (c0 : Int32) (x0 : Int32) (x1 : Int32) (x2 : Int32) (x3 : Int32) (x4 : Int32) (x5 : Int32) (h0 : Heap) (n0 : Nat) (Z0 : n0 ≤ h0.size) (O0 : Old Z n0 h0) (V_tb : Arv Z h0 tb kt .byte (6 : Int32) ([(.int (own_lo c0)), (.int (own_hi c0)), (.int x2), (.int x3), (.int x4), (.int x5)]) (.int 0)) (hn0 : (nar .char c0 = c0)) (U0 : Sta Z Z.heap "java/lang/StringUTF16" "$assertionsDisabled" "Z" (.int 1)) (U1 : Sta Z Z.heap "java/lang/StringUTF16" "HI_BYTE_SHIFT" "I" (.int 0)) (U2 : Sta Z Z.heap "java/lang/StringUTF16" "LO_BYTE_SHIFT" "I" (.int 8)) :
    MetFree l (⟨"java/lang/StringUTF16", "getChar", "([BI)C"⟩ : MethodName) (head1 (Jvm.Cond.code (⟨"java/lang/StringUTF16", "getChar", "([BI)C"⟩ : MethodName) jdk_52_method_5_code 2 (some .char) :: ws) ({ frames := 0, cells := 0, slots := 0, locals := 0 } : Room)) (fun as' U => as' = #[(.ref tb), (.int 0)] ∧ Z.Warmed39 U.vm ∧ U.heap = h0) (fun _ _ _ _ _ => True) (fun _ U o U' => ∃ v L, o = .returned v ∧ Q_rmGetC3_0 Z tb kt c0 x0 x1 x2 x3 x4 x5 h0 n0 v U'.heap L ∧ FrameEnd U o U' L ({ frames := 0, cells := 0, slots := 0, locals := 0 } : Room).cells ({ frames := 0, cells := 0, slots := 0, locals := 0 } : Room).slots) := by
  refine MetFree.of_bodySF (plainFor_of_name pn_1) hisR ?_
  intro p e s m args below meth c s₁ Bd hml0 hP hK
  obtain ⟨rfl, hZ, hh⟩ := hP
  have hx := Bd.exec
  have hby := Bd.bytes
  have hml : c.maxLocals = 2 := hml0
  have hown : s.vm.findClass "java/lang/StringUTF16" = some m.cls := findClass_of_methodNamed Bd.named
  have hnm := (name_of_methodNamed Bd.named Bd.method).1
  have X0 : Stand p l e ({ frames := 0, cells := 0, slots := 0, locals := 0 } : Room) s m #[(.ref tb), (.int 0)] below meth c s₁ [] 0 0 := Stand.of_body Bd
  have e0 : s₁.heap = h0 := by rw [← hh, Bd.state]; rfl
  have N0 := Fr.nil n0
  refine Go.enter (F := EndN s (Q_rmGetC3_0 Z tb kt c0 x0 x1 x2 x3 x4 x5 h0 n0) ({ frames := 0, cells := 0, slots := 0, locals := 0 } : Room).cells ({ frames := 0, cells := 0, slots := 0, locals := 0 } : Room).slots) (ef_40 m tb (0 : Int32)) ?_
  show Go _ _ _ _ s₁ (mkF m 0 #[rv tb, iv 0] [])
  have F1 : Sta Z h0 "java/lang/StringUTF16" "$assertionsDisabled" "Z" (.int 1) := U0.ext O0.2
  obtain ⟨T2, X2, e2, st2⟩ := getS2 X0 hx hZ hown (host := "") (Or.inl (ow hw 71 rfl)) Via.refl e0 F1 (g := (mkF m 0 #[rv tb, iv 0] [])) rfl (hb hby d16_0)
  refine Go.by st2 ?_
  show Go _ _ _ _ T2 (mkF m 3 #[rv tb, iv 0] [(.int 1)])
  refine Go.ifY 28 X2 hx (hb hby d16_3) (XT.i0_ne_t (by decide)) (by decide) (by decide) ?_
  refine Go.iload1 29 X2 hx (hb hby d16_28) rfl rfl ?_
  refine Go.iconst 30 X2 hx (1 : Int32) (hb hby d16_29) (by decide) rfl ?_
  refine Go.ishl 31 X2 hx (hb hby d16_30) rfl ?_
  rw [(by decide : ((0 : Int32) <<< ((1 : Int32) &&& 31)) = (0 : Int32))]
  refine Go.istore1 32 X2 hx (L' := #[rv tb, iv 0]) (hb hby d16_31) rfl rfl ?_
  refine Go.aload1 33 X2 hx (hb hby d16_32) rfl rfl rfl ?_
  refine Go.iload1 34 X2 hx (hb hby d16_33) rfl rfl ?_
  refine Go.iinc 37 X2 hx (1 : Int32) (L' := #[rv tb, iv 1]) (hb hby d16_34) (by decide) rfl rfl rfl ?_
  obtain ⟨cl3, Ar3, -, S3, M3, H3, -⟩ := id V_tb
  have hin3 : ¬ ((0 : Int32) < 0 ∨ cl3.slots.size ≤ (0 : Int32).toNatClampNeg) := inb_of S3 ⟨by decide, by decide⟩
  refine Go.by (fun _ gk => X2.baloadBytes hx (j := (0 : Int32)) (v := (.int (own_lo c0))) (by rw [e2]; exact Ar3.1) (State.isArrayOf_alike hZ.alike Ar3.2.1) Ar3.2.2 hin3 (Has.at H3 hin3 rfl) (g := (mkF m 37 #[rv tb, iv 1] [(.int 0), (.ref tb)])) rfl rfl (hb hby d16_37) _ gk) ?_
  show Go _ _ _ _ T2 (mkF m 38 #[rv tb, iv 1] [(.int (own_lo c0))])
  refine Go.sipush 41 X2 hx (255 : Int32) (hb hby d16_38) (by decide) rfl ?_
  refine Go.iand 42 X2 hx (hb hby d16_41) rfl ?_
  have F4 : Sta Z h0 "java/lang/StringUTF16" "HI_BYTE_SHIFT" "I" (.int 0) := U1.ext O0.2
  obtain ⟨T5, X5, e5, st5⟩ := getS2 X2 hx hZ hown (host := "") (Or.inl (ow hw 72 rfl)) Via.refl e2 F4 (g := (mkF m 42 #[rv tb, iv 1] [(.int ((own_lo c0) &&& (255 : Int32)))])) rfl (hb hby d16_42)
  refine Go.by st5 ?_
  show Go _ _ _ _ T5 (mkF m 45 #[rv tb, iv 1] [(.int 0), (.int ((own_lo c0) &&& (255 : Int32)))])
  refine Go.ishl 46 X5 hx (hb hby d16_45) rfl ?_
  refine Go.aload1 47 X5 hx (hb hby d16_46) rfl rfl rfl ?_
  refine Go.iload1 48 X5 hx (hb hby d16_47) rfl rfl ?_
  obtain ⟨cl6, Ar6, -, S6, M6, H6, -⟩ := id V_tb
  have hin6 : ¬ ((1 : Int32) < 0 ∨ cl6.slots.size ≤ (1 : Int32).toNatClampNeg) := inb_of S6 ⟨by decide, by decide⟩
  refine Go.by (fun _ gk => X5.baloadBytes hx (j := (1 : Int32)) (v := (.int (own_hi c0))) (by rw [e5]; exact Ar6.1) (State.isArrayOf_alike hZ.alike Ar6.2.1) Ar6.2.2 hin6 (Has.at H6 hin6 rfl) (g := (mkF m 48 #[rv tb, iv 1] [(.int 1), (.ref tb), (.int (((own_lo c0) &&& (255 : Int32)) <<< ((0 : Int32) &&& 31)))])) rfl rfl (hb hby d16_48) _ gk) ?_
  show Go _ _ _ _ T5 (mkF m 49 #[rv tb, iv 1] [(.int (own_hi c0)), (.int (((own_lo c0) &&& (255 : Int32)) <<< ((0 : Int32) &&& 31)))])
  refine Go.sipush 52 X5 hx (255 : Int32) (hb hby d16_49) (by decide) rfl ?_
  refine Go.iand 53 X5 hx (hb hby d16_52) rfl ?_
  have F7 : Sta Z h0 "java/lang/StringUTF16" "LO_BYTE_SHIFT" "I" (.int 8) := U2.ext O0.2
  obtain ⟨T8, X8, e8, st8⟩ := getS2 X5 hx hZ hown (host := "") (Or.inl (ow hw 73 rfl)) Via.refl e5 F7 (g := (mkF m 53 #[rv tb, iv 1] [(.int ((own_hi c0) &&& (255 : Int32))), (.int (((own_lo c0) &&& (255 : Int32)) <<< ((0 : Int32) &&& 31)))])) rfl (hb hby d16_53)
  refine Go.by st8 ?_
  show Go _ _ _ _ T8 (mkF m 56 #[rv tb, iv 1] [(.int 8), (.int ((own_hi c0) &&& (255 : Int32))), (.int (((own_lo c0) &&& (255 : Int32)) <<< ((0 : Int32) &&& 31)))])
  refine Go.ishl 57 X8 hx (hb hby d16_56) rfl ?_
  refine Go.ior 58 X8 hx (hb hby d16_57) rfl ?_
  refine Go.i2c 59 X8 hx (hb hby d16_58) rfl ?_
  rw [own_u16 hn0]
  show Go _ _ _ _ T8 (mkF m 59 #[rv tb, iv 1] [(.int c0)])
  exact Go.retI X8 hx Bd.notSynchronized Bd.returns (own_retc hn0) (by simp) (hb hby d16_59) (by rw [e8]; exact ⟨rfl, N0, rfl⟩) (by decide) (by decide)
def Q_rmPut3_1 (Z : State) (tb : Addr) (kt : ClassId) (c0 : Int32) (x0 : Int32) (x1 : Int32) (x2 : Int32) (x3 : Int32) (x4 : Int32) (x5 : Int32) (h0 : Heap) (n0 : Nat) (v : Option Value) (h : Heap) (L : List Loc) : Prop := v = none ∧ Fr n0 L ∧ Keep h0 h [tb] ∧ Arv Z h tb kt .byte (6 : Int32) ([(.int x0), (.int x1), (.int (own_lo c0)), (.int (own_hi c0)), (.int x4), (.int x5)]) (.int 0)
set_option maxRecDepth 65536 in
set_option maxHeartbeats 40000000 in
theorem rmPut3_1 (l : Launch) (Z : State) (a0 : Array Value) (hw : ∀ d ∈ tables_1, d.before a0 Z = true) (ws : List Jvm.Cond) (tb : Addr) (kt : ClassId) (c0 : Int32) (x0 : Int32) (x1 : Int32) (x2 : Int32) (x3 : Int32) (x4 : Int32) (x5 : Int32) (h0 : Heap) (n0 : Nat) (Z0 : n0 ≤ h0.size) (O0 : Old Z n0 h0) (V_tb : Arv Z h0 tb kt .byte (6 : Int32) ([(.int x0), (.int x1), (.int x2), (.int x3), (.int x4), (.int x5)]) (.int 0)) (g_tb : n0 ≤ tb) (U0 : Sta Z Z.heap "java/lang/StringUTF16" "$assertionsDisabled" "Z" (.int 1)) (U1 : Sta Z Z.heap "java/lang/StringUTF16" "HI_BYTE_SHIFT" "I" (.int 0)) (U2 : Sta Z Z.heap "java/lang/StringUTF16" "LO_BYTE_SHIFT" "I" (.int 8)) :
    MetFree l (⟨"java/lang/StringUTF16", "putChar", "([BII)V"⟩ : MethodName) (head1 (Jvm.Cond.code (⟨"java/lang/StringUTF16", "putChar", "([BII)V"⟩ : MethodName) jdk_52_method_4_code 3 none :: ws) ({ frames := 0, cells := 0, slots := 0, locals := 0 } : Room)) (fun as' U => as' = #[(.ref tb), (.int 1), (.int c0)] ∧ Z.Warmed39 U.vm ∧ U.heap = h0) (fun _ _ _ _ _ => True) (fun _ U o U' => ∃ v L, o = .returned v ∧ Q_rmPut3_1 Z tb kt c0 x0 x1 x2 x3 x4 x5 h0 n0 v U'.heap L ∧ FrameEnd U o U' L ({ frames := 0, cells := 0, slots := 0, locals := 0 } : Room).cells ({ frames := 0, cells := 0, slots := 0, locals := 0 } : Room).slots) := by
  refine MetFree.of_bodySF (plainFor_of_name pn_1) hisR ?_
  intro p e s m args below meth c s₁ Bd hml0 hP hK
  obtain ⟨rfl, hZ, hh⟩ := hP
  have hx := Bd.exec
  have hby := Bd.bytes
  have hml : c.maxLocals = 3 := hml0
  have hown : s.vm.findClass "java/lang/StringUTF16" = some m.cls := findClass_of_methodNamed Bd.named
  have hnm := (name_of_methodNamed Bd.named Bd.method).1
  have X0 : Stand p l e ({ frames := 0, cells := 0, slots := 0, locals := 0 } : Room) s m #[(.ref tb), (.int 1), (.int c0)] below meth c s₁ [] 0 0 := Stand.of_body Bd
  have e0 : s₁.heap = h0 := by rw [← hh, Bd.state]; rfl
  have N0 := Fr.nil n0
  refine Go.enter (F := EndN s (Q_rmPut3_1 Z tb kt c0 x0 x1 x2 x3 x4 x5 h0 n0) ({ frames := 0, cells := 0, slots := 0, locals := 0 } : Room).cells ({ frames := 0, cells := 0, slots := 0, locals := 0 } : Room).slots) (ef_17 m tb (1 : Int32) c0) ?_
  show Go _ _ _ _ s₁ (mkF m 0 #[rv tb, iv 1, iv c0] [])
  have F1 : Sta Z h0 "java/lang/StringUTF16" "$assertionsDisabled" "Z" (.int 1) := U0.ext O0.2
  obtain ⟨T2, X2, e2, st2⟩ := getS2 X0 hx hZ hown (host := "") (Or.inl (ow hw 71 rfl)) Via.refl e0 F1 (g := (mkF m 0 #[rv tb, iv 1, iv c0] [])) rfl (hb hby d15_0)
  refine Go.by st2 ?_
  show Go _ _ _ _ T2 (mkF m 3 #[rv tb, iv 1, iv c0] [(.int 1)])
  refine Go.ifY 28 X2 hx (hb hby d15_3) (XT.i0_ne_t (by decide)) (by decide) (by decide) ?_
  refine Go.iload1 29 X2 hx (hb hby d15_28) rfl rfl ?_
  refine Go.iconst 30 X2 hx (1 : Int32) (hb hby d15_29) (by decide) rfl ?_
  refine Go.ishl 31 X2 hx (hb hby d15_30) rfl ?_
  rw [(by decide : ((1 : Int32) <<< ((1 : Int32) &&& 31)) = (2 : Int32))]
  refine Go.istore1 32 X2 hx (L' := #[rv tb, iv 2, iv c0]) (hb hby d15_31) rfl rfl ?_
  refine Go.aload1 33 X2 hx (hb hby d15_32) rfl rfl rfl ?_
  refine Go.iload1 34 X2 hx (hb hby d15_33) rfl rfl ?_
  refine Go.iinc 37 X2 hx (1 : Int32) (L' := #[rv tb, iv 3, iv c0]) (hb hby d15_34) (by decide) rfl rfl rfl ?_
  refine Go.iload1 38 X2 hx (hb hby d15_37) rfl rfl ?_
  have F3 : Sta Z h0 "java/lang/StringUTF16" "HI_BYTE_SHIFT" "I" (.int 0) := U1.ext O0.2
  obtain ⟨T4, X4, e4, st4⟩ := getS2 X2 hx hZ hown (host := "") (Or.inl (ow hw 72 rfl)) Via.refl e2 F3 (g := (mkF m 38 #[rv tb, iv 3, iv c0] [(.int c0), (.int 2), (.ref tb)])) rfl (hb hby d15_38)
  refine Go.by st4 ?_
  show Go _ _ _ _ T4 (mkF m 41 #[rv tb, iv 3, iv c0] [(.int 0), (.int c0), (.int 2), (.ref tb)])
  refine Go.ishr 42 X4 hx (hb hby d15_41) rfl ?_
  refine Go.i2b 43 X4 hx (hb hby d15_42) rfl ?_
  obtain ⟨cl5, Ar5, q5, S5, M5, H5, G5⟩ := id V_tb
  have hin5 : ¬ ((2 : Int32) < 0 ∨ cl5.slots.size ≤ (2 : Int32).toNatClampNeg) := inb_of S5 ⟨by decide, by decide⟩
  obtain ⟨T5, h5, X5, e5, W5, st5⟩ := stB X4 hx hZ e4 Ar5 (j := (2 : Int32)) hin5 (g := (mkF m 43 #[rv tb, iv 3, iv c0] [(.int ((c0 >>> ((0 : Int32) &&& 31)).toInt8.toInt32)), (.int 2), (.ref tb)])) rfl rfl (hb hby d15_43)
  have N5 := Fr.snoc X5 N0 g_tb
  have V5 : Arv Z h5 tb kt .byte (6 : Int32) [(.int x0), (.int x1), (.int (nar .byte ((c0 >>> ((0 : Int32) &&& 31)).toInt8.toInt32))), (.int x3), (.int x4), (.int x5)] (.int 0) := Arv.set Ar5 q5 S5 M5 H5 G5 (fits_nar_byte _) W5 2 rfl (Nat.le_of_ble_eq_true rfl)
  refine Go.by st5 ?_
  show Go _ _ _ _ T5 (mkF m 44 #[rv tb, iv 3, iv c0] [])
  replace V5 : Arv Z h5 tb kt .byte (6 : Int32) [(.int x0), (.int x1), (.int (own_lo c0)), (.int x3), (.int x4), (.int x5)] (.int 0) := V5
  refine Go.aload1 45 X5 hx (hb hby d15_44) rfl rfl rfl ?_
  refine Go.iload1 46 X5 hx (hb hby d15_45) rfl rfl ?_
  refine Go.iload1 47 X5 hx (hb hby d15_46) rfl rfl ?_
  have F6 : Old Z n0 h5 := O0.wr W5 g_tb
  have F7 : Sta Z h5 "java/lang/StringUTF16" "LO_BYTE_SHIFT" "I" (.int 8) := U2.ext F6.2
  obtain ⟨T8, X8, e8, st8⟩ := getS2 X5 hx hZ hown (host := "") (Or.inl (ow hw 73 rfl)) Via.refl e5 F7 (g := (mkF m 47 #[rv tb, iv 3, iv c0] [(.int c0), (.int 3), (.ref tb)])) rfl (hb hby d15_47)
  refine Go.by st8 ?_
  show Go _ _ _ _ T8 (mkF m 50 #[rv tb, iv 3, iv c0] [(.int 8), (.int c0), (.int 3), (.ref tb)])
  refine Go.ishr 51 X8 hx (hb hby d15_50) rfl ?_
  refine Go.i2b 52 X8 hx (hb hby d15_51) rfl ?_
  obtain ⟨cl9, Ar9, q9, S9, M9, H9, G9⟩ := id V5
  have hin9 : ¬ ((3 : Int32) < 0 ∨ cl9.slots.size ≤ (3 : Int32).toNatClampNeg) := inb_of S9 ⟨by decide, by decide⟩
  obtain ⟨T9, h9, X9, e9, W9, st9⟩ := stB X8 hx hZ e8 Ar9 (j := (3 : Int32)) hin9 (g := (mkF m 52 #[rv tb, iv 3, iv c0] [(.int ((c0 >>> ((8 : Int32) &&& 31)).toInt8.toInt32)), (.int 3), (.ref tb)])) rfl rfl (hb hby d15_52)
  have N9 := Fr.snoc X9 N5 g_tb
  have V9 : Arv Z h9 tb kt .byte (6 : Int32) [(.int x0), (.int x1), (.int (own_lo c0)), (.int (nar .byte ((c0 >>> ((8 : Int32) &&& 31)).toInt8.toInt32))), (.int x4), (.int x5)] (.int 0) := Arv.set Ar9 q9 S9 M9 H9 G9 (fits_nar_byte _) W9 3 rfl (Nat.le_of_ble_eq_true rfl)
  refine Go.by st9 ?_
  show Go _ _ _ _ T9 (mkF m 53 #[rv tb, iv 3, iv c0] [])
  replace V9 : Arv Z h9 tb kt .byte (6 : Int32) [(.int x0), (.int x1), (.int (own_lo c0)), (.int (own_hi c0)), (.int x4), (.int x5)] (.int 0) := V9
  have F10 : Keep h0 h5 [tb] := (Keep.refl h0 [tb]).wr W5 (Or.inl (List.mem_of_getElem? (i := 0) rfl))
  have F11 : Keep h0 h9 [tb] := F10.wr W9 (Or.inl (List.mem_of_getElem? (i := 0) rfl))
  exact Go.retV X9 hx Bd.notSynchronized Bd.returns (hb hby d15_53) (by rw [e9]; exact ⟨rfl, N9, F11, V9⟩) (by decide) (by decide)
def Q_rmGetC3_1 (Z : State) (tb : Addr) (kt : ClassId) (c0 : Int32) (x0 : Int32) (x1 : Int32) (x2 : Int32) (x3 : Int32) (x4 : Int32) (x5 : Int32) (h0 : Heap) (n0 : Nat) (v : Option Value) (h : Heap) (L : List Loc) : Prop := v = some (.int c0) ∧ Fr n0 L ∧ h = h0
set_option maxRecDepth 65536 in
set_option maxHeartbeats 40000000 in
theorem rmGetC3_1 (l : Launch) (Z : State) (a0 : Array Value) (hw : ∀ d ∈ tables_1, d.before a0 Z = true) (ws : List Jvm.Cond) (tb : Addr) (kt : ClassId) (c0 : Int32) (x0 : Int32) (x1 : Int32) (x2 : Int32) (x3 : Int32) (x4 : Int32) (x5 : Int32) (h0 : Heap) (n0 : Nat) (Z0 : n0 ≤ h0.size) (O0 : Old Z n0 h0) (V_tb : Arv Z h0 tb kt .byte (6 : Int32) ([(.int x0), (.int x1), (.int (own_lo c0)), (.int (own_hi c0)), (.int x4), (.int x5)]) (.int 0)) (hn0 : (nar .char c0 = c0)) (U0 : Sta Z Z.heap "java/lang/StringUTF16" "$assertionsDisabled" "Z" (.int 1)) (U1 : Sta Z Z.heap "java/lang/StringUTF16" "HI_BYTE_SHIFT" "I" (.int 0)) (U2 : Sta Z Z.heap "java/lang/StringUTF16" "LO_BYTE_SHIFT" "I" (.int 8)) :
    MetFree l (⟨"java/lang/StringUTF16", "getChar", "([BI)C"⟩ : MethodName) (head1 (Jvm.Cond.code (⟨"java/lang/StringUTF16", "getChar", "([BI)C"⟩ : MethodName) jdk_52_method_5_code 2 (some .char) :: ws) ({ frames := 0, cells := 0, slots := 0, locals := 0 } : Room)) (fun as' U => as' = #[(.ref tb), (.int 1)] ∧ Z.Warmed39 U.vm ∧ U.heap = h0) (fun _ _ _ _ _ => True) (fun _ U o U' => ∃ v L, o = .returned v ∧ Q_rmGetC3_1 Z tb kt c0 x0 x1 x2 x3 x4 x5 h0 n0 v U'.heap L ∧ FrameEnd U o U' L ({ frames := 0, cells := 0, slots := 0, locals := 0 } : Room).cells ({ frames := 0, cells := 0, slots := 0, locals := 0 } : Room).slots) := by
  refine MetFree.of_bodySF (plainFor_of_name pn_1) hisR ?_
  intro p e s m args below meth c s₁ Bd hml0 hP hK
  obtain ⟨rfl, hZ, hh⟩ := hP
  have hx := Bd.exec
  have hby := Bd.bytes
  have hml : c.maxLocals = 2 := hml0
  have hown : s.vm.findClass "java/lang/StringUTF16" = some m.cls := findClass_of_methodNamed Bd.named
  have hnm := (name_of_methodNamed Bd.named Bd.method).1
  have X0 : Stand p l e ({ frames := 0, cells := 0, slots := 0, locals := 0 } : Room) s m #[(.ref tb), (.int 1)] below meth c s₁ [] 0 0 := Stand.of_body Bd
  have e0 : s₁.heap = h0 := by rw [← hh, Bd.state]; rfl
  have N0 := Fr.nil n0
  refine Go.enter (F := EndN s (Q_rmGetC3_1 Z tb kt c0 x0 x1 x2 x3 x4 x5 h0 n0) ({ frames := 0, cells := 0, slots := 0, locals := 0 } : Room).cells ({ frames := 0, cells := 0, slots := 0, locals := 0 } : Room).slots) (ef_40 m tb (1 : Int32)) ?_
  show Go _ _ _ _ s₁ (mkF m 0 #[rv tb, iv 1] [])
  have F1 : Sta Z h0 "java/lang/StringUTF16" "$assertionsDisabled" "Z" (.int 1) := U0.ext O0.2
  obtain ⟨T2, X2, e2, st2⟩ := getS2 X0 hx hZ hown (host := "") (Or.inl (ow hw 71 rfl)) Via.refl e0 F1 (g := (mkF m 0 #[rv tb, iv 1] [])) rfl (hb hby d16_0)
  refine Go.by st2 ?_
  show Go _ _ _ _ T2 (mkF m 3 #[rv tb, iv 1] [(.int 1)])
  refine Go.ifY 28 X2 hx (hb hby d16_3) (XT.i0_ne_t (by decide)) (by decide) (by decide) ?_
  refine Go.iload1 29 X2 hx (hb hby d16_28) rfl rfl ?_
  refine Go.iconst 30 X2 hx (1 : Int32) (hb hby d16_29) (by decide) rfl ?_
  refine Go.ishl 31 X2 hx (hb hby d16_30) rfl ?_
  rw [(by decide : ((1 : Int32) <<< ((1 : Int32) &&& 31)) = (2 : Int32))]
  refine Go.istore1 32 X2 hx (L' := #[rv tb, iv 2]) (hb hby d16_31) rfl rfl ?_
  refine Go.aload1 33 X2 hx (hb hby d16_32) rfl rfl rfl ?_
  refine Go.iload1 34 X2 hx (hb hby d16_33) rfl rfl ?_
  refine Go.iinc 37 X2 hx (1 : Int32) (L' := #[rv tb, iv 3]) (hb hby d16_34) (by decide) rfl rfl rfl ?_
  obtain ⟨cl3, Ar3, -, S3, M3, H3, -⟩ := id V_tb
  have hin3 : ¬ ((2 : Int32) < 0 ∨ cl3.slots.size ≤ (2 : Int32).toNatClampNeg) := inb_of S3 ⟨by decide, by decide⟩
  refine Go.by (fun _ gk => X2.baloadBytes hx (j := (2 : Int32)) (v := (.int (own_lo c0))) (by rw [e2]; exact Ar3.1) (State.isArrayOf_alike hZ.alike Ar3.2.1) Ar3.2.2 hin3 (Has.at H3 hin3 rfl) (g := (mkF m 37 #[rv tb, iv 3] [(.int 2), (.ref tb)])) rfl rfl (hb hby d16_37) _ gk) ?_
  show Go _ _ _ _ T2 (mkF m 38 #[rv tb, iv 3] [(.int (own_lo c0))])
  refine Go.sipush 41 X2 hx (255 : Int32) (hb hby d16_38) (by decide) rfl ?_
  refine Go.iand 42 X2 hx (hb hby d16_41) rfl ?_
  have F4 : Sta Z h0 "java/lang/StringUTF16" "HI_BYTE_SHIFT" "I" (.int 0) := U1.ext O0.2
  obtain ⟨T5, X5, e5, st5⟩ := getS2 X2 hx hZ hown (host := "") (Or.inl (ow hw 72 rfl)) Via.refl e2 F4 (g := (mkF m 42 #[rv tb, iv 3] [(.int ((own_lo c0) &&& (255 : Int32)))])) rfl (hb hby d16_42)
  refine Go.by st5 ?_
  show Go _ _ _ _ T5 (mkF m 45 #[rv tb, iv 3] [(.int 0), (.int ((own_lo c0) &&& (255 : Int32)))])
  refine Go.ishl 46 X5 hx (hb hby d16_45) rfl ?_
  refine Go.aload1 47 X5 hx (hb hby d16_46) rfl rfl rfl ?_
  refine Go.iload1 48 X5 hx (hb hby d16_47) rfl rfl ?_
  obtain ⟨cl6, Ar6, -, S6, M6, H6, -⟩ := id V_tb
  have hin6 : ¬ ((3 : Int32) < 0 ∨ cl6.slots.size ≤ (3 : Int32).toNatClampNeg) := inb_of S6 ⟨by decide, by decide⟩
  refine Go.by (fun _ gk => X5.baloadBytes hx (j := (3 : Int32)) (v := (.int (own_hi c0))) (by rw [e5]; exact Ar6.1) (State.isArrayOf_alike hZ.alike Ar6.2.1) Ar6.2.2 hin6 (Has.at H6 hin6 rfl) (g := (mkF m 48 #[rv tb, iv 3] [(.int 3), (.ref tb), (.int (((own_lo c0) &&& (255 : Int32)) <<< ((0 : Int32) &&& 31)))])) rfl rfl (hb hby d16_48) _ gk) ?_
  show Go _ _ _ _ T5 (mkF m 49 #[rv tb, iv 3] [(.int (own_hi c0)), (.int (((own_lo c0) &&& (255 : Int32)) <<< ((0 : Int32) &&& 31)))])
  refine Go.sipush 52 X5 hx (255 : Int32) (hb hby d16_49) (by decide) rfl ?_
  refine Go.iand 53 X5 hx (hb hby d16_52) rfl ?_
  have F7 : Sta Z h0 "java/lang/StringUTF16" "LO_BYTE_SHIFT" "I" (.int 8) := U2.ext O0.2
  obtain ⟨T8, X8, e8, st8⟩ := getS2 X5 hx hZ hown (host := "") (Or.inl (ow hw 73 rfl)) Via.refl e5 F7 (g := (mkF m 53 #[rv tb, iv 3] [(.int ((own_hi c0) &&& (255 : Int32))), (.int (((own_lo c0) &&& (255 : Int32)) <<< ((0 : Int32) &&& 31)))])) rfl (hb hby d16_53)
  refine Go.by st8 ?_
  show Go _ _ _ _ T8 (mkF m 56 #[rv tb, iv 3] [(.int 8), (.int ((own_hi c0) &&& (255 : Int32))), (.int (((own_lo c0) &&& (255 : Int32)) <<< ((0 : Int32) &&& 31)))])
  refine Go.ishl 57 X8 hx (hb hby d16_56) rfl ?_
  refine Go.ior 58 X8 hx (hb hby d16_57) rfl ?_
  refine Go.i2c 59 X8 hx (hb hby d16_58) rfl ?_
  rw [own_u16 hn0]
  show Go _ _ _ _ T8 (mkF m 59 #[rv tb, iv 3] [(.int c0)])
  exact Go.retI X8 hx Bd.notSynchronized Bd.returns (own_retc hn0) (by simp) (hb hby d16_59) (by rw [e8]; exact ⟨rfl, N0, rfl⟩) (by decide) (by decide)
def Q_rmPut3_2 (Z : State) (tb : Addr) (kt : ClassId) (c0 : Int32) (x0 : Int32) (x1 : Int32) (x2 : Int32) (x3 : Int32) (x4 : Int32) (x5 : Int32) (h0 : Heap) (n0 : Nat) (v : Option Value) (h : Heap) (L : List Loc) : Prop := v = none ∧ Fr n0 L ∧ Keep h0 h [tb] ∧ Arv Z h tb kt .byte (6 : Int32) ([(.int x0), (.int x1), (.int x2), (.int x3), (.int (own_lo c0)), (.int (own_hi c0))]) (.int 0)
set_option maxRecDepth 65536 in
set_option maxHeartbeats 40000000 in
theorem rmPut3_2 (l : Launch) (Z : State) (a0 : Array Value) (hw : ∀ d ∈ tables_1, d.before a0 Z = true) (ws : List Jvm.Cond) (tb : Addr) (kt : ClassId) (c0 : Int32) (x0 : Int32) (x1 : Int32) (x2 : Int32) (x3 : Int32) (x4 : Int32) (x5 : Int32) (h0 : Heap) (n0 : Nat) (Z0 : n0 ≤ h0.size) (O0 : Old Z n0 h0) (V_tb : Arv Z h0 tb kt .byte (6 : Int32) ([(.int x0), (.int x1), (.int x2), (.int x3), (.int x4), (.int x5)]) (.int 0)) (g_tb : n0 ≤ tb) (U0 : Sta Z Z.heap "java/lang/StringUTF16" "$assertionsDisabled" "Z" (.int 1)) (U1 : Sta Z Z.heap "java/lang/StringUTF16" "HI_BYTE_SHIFT" "I" (.int 0)) (U2 : Sta Z Z.heap "java/lang/StringUTF16" "LO_BYTE_SHIFT" "I" (.int 8)) :
    MetFree l (⟨"java/lang/StringUTF16", "putChar", "([BII)V"⟩ : MethodName) (head1 (Jvm.Cond.code (⟨"java/lang/StringUTF16", "putChar", "([BII)V"⟩ : MethodName) jdk_52_method_4_code 3 none :: ws) ({ frames := 0, cells := 0, slots := 0, locals := 0 } : Room)) (fun as' U => as' = #[(.ref tb), (.int 2), (.int c0)] ∧ Z.Warmed39 U.vm ∧ U.heap = h0) (fun _ _ _ _ _ => True) (fun _ U o U' => ∃ v L, o = .returned v ∧ Q_rmPut3_2 Z tb kt c0 x0 x1 x2 x3 x4 x5 h0 n0 v U'.heap L ∧ FrameEnd U o U' L ({ frames := 0, cells := 0, slots := 0, locals := 0 } : Room).cells ({ frames := 0, cells := 0, slots := 0, locals := 0 } : Room).slots) := by
  refine MetFree.of_bodySF (plainFor_of_name pn_1) hisR ?_
  intro p e s m args below meth c s₁ Bd hml0 hP hK
  obtain ⟨rfl, hZ, hh⟩ := hP
  have hx := Bd.exec
  have hby := Bd.bytes
  have hml : c.maxLocals = 3 := hml0
  have hown : s.vm.findClass "java/lang/StringUTF16" = some m.cls := findClass_of_methodNamed Bd.named
  have hnm := (name_of_methodNamed Bd.named Bd.method).1
  have X0 : Stand p l e ({ frames := 0, cells := 0, slots := 0, locals := 0 } : Room) s m #[(.ref tb), (.int 2), (.int c0)] below meth c s₁ [] 0 0 := Stand.of_body Bd
  have e0 : s₁.heap = h0 := by rw [← hh, Bd.state]; rfl
  have N0 := Fr.nil n0
  refine Go.enter (F := EndN s (Q_rmPut3_2 Z tb kt c0 x0 x1 x2 x3 x4 x5 h0 n0) ({ frames := 0, cells := 0, slots := 0, locals := 0 } : Room).cells ({ frames := 0, cells := 0, slots := 0, locals := 0 } : Room).slots) (ef_17 m tb (2 : Int32) c0) ?_
  show Go _ _ _ _ s₁ (mkF m 0 #[rv tb, iv 2, iv c0] [])
  have F1 : Sta Z h0 "java/lang/StringUTF16" "$assertionsDisabled" "Z" (.int 1) := U0.ext O0.2
  obtain ⟨T2, X2, e2, st2⟩ := getS2 X0 hx hZ hown (host := "") (Or.inl (ow hw 71 rfl)) Via.refl e0 F1 (g := (mkF m 0 #[rv tb, iv 2, iv c0] [])) rfl (hb hby d15_0)
  refine Go.by st2 ?_
  show Go _ _ _ _ T2 (mkF m 3 #[rv tb, iv 2, iv c0] [(.int 1)])
  refine Go.ifY 28 X2 hx (hb hby d15_3) (XT.i0_ne_t (by decide)) (by decide) (by decide) ?_
  refine Go.iload1 29 X2 hx (hb hby d15_28) rfl rfl ?_
  refine Go.iconst 30 X2 hx (1 : Int32) (hb hby d15_29) (by decide) rfl ?_
  refine Go.ishl 31 X2 hx (hb hby d15_30) rfl ?_
  rw [(by decide : ((2 : Int32) <<< ((1 : Int32) &&& 31)) = (4 : Int32))]
  refine Go.istore1 32 X2 hx (L' := #[rv tb, iv 4, iv c0]) (hb hby d15_31) rfl rfl ?_
  refine Go.aload1 33 X2 hx (hb hby d15_32) rfl rfl rfl ?_
  refine Go.iload1 34 X2 hx (hb hby d15_33) rfl rfl ?_
  refine Go.iinc 37 X2 hx (1 : Int32) (L' := #[rv tb, iv 5, iv c0]) (hb hby d15_34) (by decide) rfl rfl rfl ?_
  refine Go.iload1 38 X2 hx (hb hby d15_37) rfl rfl ?_
  have F3 : Sta Z h0 "java/lang/StringUTF16" "HI_BYTE_SHIFT" "I" (.int 0) := U1.ext O0.2
  obtain ⟨T4, X4, e4, st4⟩ := getS2 X2 hx hZ hown (host := "") (Or.inl (ow hw 72 rfl)) Via.refl e2 F3 (g := (mkF m 38 #[rv tb, iv 5, iv c0] [(.int c0), (.int 4), (.ref tb)])) rfl (hb hby d15_38)
  refine Go.by st4 ?_
  show Go _ _ _ _ T4 (mkF m 41 #[rv tb, iv 5, iv c0] [(.int 0), (.int c0), (.int 4), (.ref tb)])
  refine Go.ishr 42 X4 hx (hb hby d15_41) rfl ?_
  refine Go.i2b 43 X4 hx (hb hby d15_42) rfl ?_
  obtain ⟨cl5, Ar5, q5, S5, M5, H5, G5⟩ := id V_tb
  have hin5 : ¬ ((4 : Int32) < 0 ∨ cl5.slots.size ≤ (4 : Int32).toNatClampNeg) := inb_of S5 ⟨by decide, by decide⟩
  obtain ⟨T5, h5, X5, e5, W5, st5⟩ := stB X4 hx hZ e4 Ar5 (j := (4 : Int32)) hin5 (g := (mkF m 43 #[rv tb, iv 5, iv c0] [(.int ((c0 >>> ((0 : Int32) &&& 31)).toInt8.toInt32)), (.int 4), (.ref tb)])) rfl rfl (hb hby d15_43)
  have N5 := Fr.snoc X5 N0 g_tb
  have V5 : Arv Z h5 tb kt .byte (6 : Int32) [(.int x0), (.int x1), (.int x2), (.int x3), (.int (nar .byte ((c0 >>> ((0 : Int32) &&& 31)).toInt8.toInt32))), (.int x5)] (.int 0) := Arv.set Ar5 q5 S5 M5 H5 G5 (fits_nar_byte _) W5 4 rfl (Nat.le_of_ble_eq_true rfl)
  refine Go.by st5 ?_
  show Go _ _ _ _ T5 (mkF m 44 #[rv tb, iv 5, iv c0] [])
  replace V5 : Arv Z h5 tb kt .byte (6 : Int32) [(.int x0), (.int x1), (.int x2), (.int x3), (.int (own_lo c0)), (.int x5)] (.int 0) := V5
  refine Go.aload1 45 X5 hx (hb hby d15_44) rfl rfl rfl ?_
  refine Go.iload1 46 X5 hx (hb hby d15_45) rfl rfl ?_
  refine Go.iload1 47 X5 hx (hb hby d15_46) rfl rfl ?_
  have F6 : Old Z n0 h5 := O0.wr W5 g_tb
  have F7 : Sta Z h5 "java/lang/StringUTF16" "LO_BYTE_SHIFT" "I" (.int 8) := U2.ext F6.2
  obtain ⟨T8, X8, e8, st8⟩ := getS2 X5 hx hZ hown (host := "") (Or.inl (ow hw 73 rfl)) Via.refl e5 F7 (g := (mkF m 47 #[rv tb, iv 5, iv c0] [(.int c0), (.int 5), (.ref tb)])) rfl (hb hby d15_47)
  refine Go.by st8 ?_
  show Go _ _ _ _ T8 (mkF m 50 #[rv tb, iv 5, iv c0] [(.int 8), (.int c0), (.int 5), (.ref tb)])
  refine Go.ishr 51 X8 hx (hb hby d15_50) rfl ?_
  refine Go.i2b 52 X8 hx (hb hby d15_51) rfl ?_
  obtain ⟨cl9, Ar9, q9, S9, M9, H9, G9⟩ := id V5
  have hin9 : ¬ ((5 : Int32) < 0 ∨ cl9.slots.size ≤ (5 : Int32).toNatClampNeg) := inb_of S9 ⟨by decide, by decide⟩
  obtain ⟨T9, h9, X9, e9, W9, st9⟩ := stB X8 hx hZ e8 Ar9 (j := (5 : Int32)) hin9 (g := (mkF m 52 #[rv tb, iv 5, iv c0] [(.int ((c0 >>> ((8 : Int32) &&& 31)).toInt8.toInt32)), (.int 5), (.ref tb)])) rfl rfl (hb hby d15_52)
  have N9 := Fr.snoc X9 N5 g_tb
  have V9 : Arv Z h9 tb kt .byte (6 : Int32) [(.int x0), (.int x1), (.int x2), (.int x3), (.int (own_lo c0)), (.int (nar .byte ((c0 >>> ((8 : Int32) &&& 31)).toInt8.toInt32)))] (.int 0) := Arv.set Ar9 q9 S9 M9 H9 G9 (fits_nar_byte _) W9 5 rfl (Nat.le_of_ble_eq_true rfl)
  refine Go.by st9 ?_
  show Go _ _ _ _ T9 (mkF m 53 #[rv tb, iv 5, iv c0] [])
  replace V9 : Arv Z h9 tb kt .byte (6 : Int32) [(.int x0), (.int x1), (.int x2), (.int x3), (.int (own_lo c0)), (.int (own_hi c0))] (.int 0) := V9
  have F10 : Keep h0 h5 [tb] := (Keep.refl h0 [tb]).wr W5 (Or.inl (List.mem_of_getElem? (i := 0) rfl))
  have F11 : Keep h0 h9 [tb] := F10.wr W9 (Or.inl (List.mem_of_getElem? (i := 0) rfl))
  exact Go.retV X9 hx Bd.notSynchronized Bd.returns (hb hby d15_53) (by rw [e9]; exact ⟨rfl, N9, F11, V9⟩) (by decide) (by decide)
def Q_rmGetC3_2 (Z : State) (tb : Addr) (kt : ClassId) (c0 : Int32) (x0 : Int32) (x1 : Int32) (x2 : Int32) (x3 : Int32) (x4 : Int32) (x5 : Int32) (h0 : Heap) (n0 : Nat) (v : Option Value) (h : Heap) (L : List Loc) : Prop := v = some (.int c0) ∧ Fr n0 L ∧ h = h0
set_option maxRecDepth 65536 in
set_option maxHeartbeats 40000000 in
theorem rmGetC3_2 (l : Launch) (Z : State) (a0 : Array Value) (hw : ∀ d ∈ tables_1, d.before a0 Z = true) (ws : List Jvm.Cond) (tb : Addr) (kt : ClassId) (c0 : Int32) (x0 : Int32) (x1 : Int32) (x2 : Int32) (x3 : Int32) (x4 : Int32) (x5 : Int32) (h0 : Heap) (n0 : Nat) (Z0 : n0 ≤ h0.size) (O0 : Old Z n0 h0) (V_tb : Arv Z h0 tb kt .byte (6 : Int32) ([(.int x0), (.int x1), (.int x2), (.int x3), (.int (own_lo c0)), (.int (own_hi c0))]) (.int 0)) (hn0 : (nar .char c0 = c0)) (U0 : Sta Z Z.heap "java/lang/StringUTF16" "$assertionsDisabled" "Z" (.int 1)) (U1 : Sta Z Z.heap "java/lang/StringUTF16" "HI_BYTE_SHIFT" "I" (.int 0)) (U2 : Sta Z Z.heap "java/lang/StringUTF16" "LO_BYTE_SHIFT" "I" (.int 8)) :
    MetFree l (⟨"java/lang/StringUTF16", "getChar", "([BI)C"⟩ : MethodName) (head1 (Jvm.Cond.code (⟨"java/lang/StringUTF16", "getChar", "([BI)C"⟩ : MethodName) jdk_52_method_5_code 2 (some .char) :: ws) ({ frames := 0, cells := 0, slots := 0, locals := 0 } : Room)) (fun as' U => as' = #[(.ref tb), (.int 2)] ∧ Z.Warmed39 U.vm ∧ U.heap = h0) (fun _ _ _ _ _ => True) (fun _ U o U' => ∃ v L, o = .returned v ∧ Q_rmGetC3_2 Z tb kt c0 x0 x1 x2 x3 x4 x5 h0 n0 v U'.heap L ∧ FrameEnd U o U' L ({ frames := 0, cells := 0, slots := 0, locals := 0 } : Room).cells ({ frames := 0, cells := 0, slots := 0, locals := 0 } : Room).slots) := by
  refine MetFree.of_bodySF (plainFor_of_name pn_1) hisR ?_
  intro p e s m args below meth c s₁ Bd hml0 hP hK
  obtain ⟨rfl, hZ, hh⟩ := hP
  have hx := Bd.exec
  have hby := Bd.bytes
  have hml : c.maxLocals = 2 := hml0
  have hown : s.vm.findClass "java/lang/StringUTF16" = some m.cls := findClass_of_methodNamed Bd.named
  have hnm := (name_of_methodNamed Bd.named Bd.method).1
  have X0 : Stand p l e ({ frames := 0, cells := 0, slots := 0, locals := 0 } : Room) s m #[(.ref tb), (.int 2)] below meth c s₁ [] 0 0 := Stand.of_body Bd
  have e0 : s₁.heap = h0 := by rw [← hh, Bd.state]; rfl
  have N0 := Fr.nil n0
  refine Go.enter (F := EndN s (Q_rmGetC3_2 Z tb kt c0 x0 x1 x2 x3 x4 x5 h0 n0) ({ frames := 0, cells := 0, slots := 0, locals := 0 } : Room).cells ({ frames := 0, cells := 0, slots := 0, locals := 0 } : Room).slots) (ef_40 m tb (2 : Int32)) ?_
  show Go _ _ _ _ s₁ (mkF m 0 #[rv tb, iv 2] [])
  have F1 : Sta Z h0 "java/lang/StringUTF16" "$assertionsDisabled" "Z" (.int 1) := U0.ext O0.2
  obtain ⟨T2, X2, e2, st2⟩ := getS2 X0 hx hZ hown (host := "") (Or.inl (ow hw 71 rfl)) Via.refl e0 F1 (g := (mkF m 0 #[rv tb, iv 2] [])) rfl (hb hby d16_0)
  refine Go.by st2 ?_
  show Go _ _ _ _ T2 (mkF m 3 #[rv tb, iv 2] [(.int 1)])
  refine Go.ifY 28 X2 hx (hb hby d16_3) (XT.i0_ne_t (by decide)) (by decide) (by decide) ?_
  refine Go.iload1 29 X2 hx (hb hby d16_28) rfl rfl ?_
  refine Go.iconst 30 X2 hx (1 : Int32) (hb hby d16_29) (by decide) rfl ?_
  refine Go.ishl 31 X2 hx (hb hby d16_30) rfl ?_
  rw [(by decide : ((2 : Int32) <<< ((1 : Int32) &&& 31)) = (4 : Int32))]
  refine Go.istore1 32 X2 hx (L' := #[rv tb, iv 4]) (hb hby d16_31) rfl rfl ?_
  refine Go.aload1 33 X2 hx (hb hby d16_32) rfl rfl rfl ?_
  refine Go.iload1 34 X2 hx (hb hby d16_33) rfl rfl ?_
  refine Go.iinc 37 X2 hx (1 : Int32) (L' := #[rv tb, iv 5]) (hb hby d16_34) (by decide) rfl rfl rfl ?_
  obtain ⟨cl3, Ar3, -, S3, M3, H3, -⟩ := id V_tb
  have hin3 : ¬ ((4 : Int32) < 0 ∨ cl3.slots.size ≤ (4 : Int32).toNatClampNeg) := inb_of S3 ⟨by decide, by decide⟩
  refine Go.by (fun _ gk => X2.baloadBytes hx (j := (4 : Int32)) (v := (.int (own_lo c0))) (by rw [e2]; exact Ar3.1) (State.isArrayOf_alike hZ.alike Ar3.2.1) Ar3.2.2 hin3 (Has.at H3 hin3 rfl) (g := (mkF m 37 #[rv tb, iv 5] [(.int 4), (.ref tb)])) rfl rfl (hb hby d16_37) _ gk) ?_
  show Go _ _ _ _ T2 (mkF m 38 #[rv tb, iv 5] [(.int (own_lo c0))])
  refine Go.sipush 41 X2 hx (255 : Int32) (hb hby d16_38) (by decide) rfl ?_
  refine Go.iand 42 X2 hx (hb hby d16_41) rfl ?_
  have F4 : Sta Z h0 "java/lang/StringUTF16" "HI_BYTE_SHIFT" "I" (.int 0) := U1.ext O0.2
  obtain ⟨T5, X5, e5, st5⟩ := getS2 X2 hx hZ hown (host := "") (Or.inl (ow hw 72 rfl)) Via.refl e2 F4 (g := (mkF m 42 #[rv tb, iv 5] [(.int ((own_lo c0) &&& (255 : Int32)))])) rfl (hb hby d16_42)
  refine Go.by st5 ?_
  show Go _ _ _ _ T5 (mkF m 45 #[rv tb, iv 5] [(.int 0), (.int ((own_lo c0) &&& (255 : Int32)))])
  refine Go.ishl 46 X5 hx (hb hby d16_45) rfl ?_
  refine Go.aload1 47 X5 hx (hb hby d16_46) rfl rfl rfl ?_
  refine Go.iload1 48 X5 hx (hb hby d16_47) rfl rfl ?_
  obtain ⟨cl6, Ar6, -, S6, M6, H6, -⟩ := id V_tb
  have hin6 : ¬ ((5 : Int32) < 0 ∨ cl6.slots.size ≤ (5 : Int32).toNatClampNeg) := inb_of S6 ⟨by decide, by decide⟩
  refine Go.by (fun _ gk => X5.baloadBytes hx (j := (5 : Int32)) (v := (.int (own_hi c0))) (by rw [e5]; exact Ar6.1) (State.isArrayOf_alike hZ.alike Ar6.2.1) Ar6.2.2 hin6 (Has.at H6 hin6 rfl) (g := (mkF m 48 #[rv tb, iv 5] [(.int 5), (.ref tb), (.int (((own_lo c0) &&& (255 : Int32)) <<< ((0 : Int32) &&& 31)))])) rfl rfl (hb hby d16_48) _ gk) ?_
  show Go _ _ _ _ T5 (mkF m 49 #[rv tb, iv 5] [(.int (own_hi c0)), (.int (((own_lo c0) &&& (255 : Int32)) <<< ((0 : Int32) &&& 31)))])
  refine Go.sipush 52 X5 hx (255 : Int32) (hb hby d16_49) (by decide) rfl ?_
  refine Go.iand 53 X5 hx (hb hby d16_52) rfl ?_
  have F7 : Sta Z h0 "java/lang/StringUTF16" "LO_BYTE_SHIFT" "I" (.int 8) := U2.ext O0.2
  obtain ⟨T8, X8, e8, st8⟩ := getS2 X5 hx hZ hown (host := "") (Or.inl (ow hw 73 rfl)) Via.refl e5 F7 (g := (mkF m 53 #[rv tb, iv 5] [(.int ((own_hi c0) &&& (255 : Int32))), (.int (((own_lo c0) &&& (255 : Int32)) <<< ((0 : Int32) &&& 31)))])) rfl (hb hby d16_53)
  refine Go.by st8 ?_
  show Go _ _ _ _ T8 (mkF m 56 #[rv tb, iv 5] [(.int 8), (.int ((own_hi c0) &&& (255 : Int32))), (.int (((own_lo c0) &&& (255 : Int32)) <<< ((0 : Int32) &&& 31)))])
  refine Go.ishl 57 X8 hx (hb hby d16_56) rfl ?_
  refine Go.ior 58 X8 hx (hb hby d16_57) rfl ?_
  refine Go.i2c 59 X8 hx (hb hby d16_58) rfl ?_
  rw [own_u16 hn0]
  show Go _ _ _ _ T8 (mkF m 59 #[rv tb, iv 5] [(.int c0)])
  exact Go.retI X8 hx Bd.notSynchronized Bd.returns (own_retc hn0) (by simp) (hb hby d16_59) (by rw [e8]; exact ⟨rfl, N0, rfl⟩) (by decide) (by decide)
def Q_rmToB3 (Z : State) (va : Addr) (kv : ClassId) (c0 : Int32) (c1 : Int32) (c2 : Int32) (h0 : Heap) (n0 : Nat) (v : Option Value) (h : Heap) (L : List Loc) : Prop := ∃ tb : Addr, ∃ kt : ClassId, v = some (.ref tb) ∧ Fr n0 L ∧ Keep h0 h [] ∧ Arv Z h tb kt .byte (6 : Int32) ([(.int (own_lo c0)), (.int (own_hi c0)), (.int (own_lo c1)), (.int (own_hi c1)), (.int (own_lo c2)), (.int (own_hi c2))]) (.int 0) ∧ h0.size ≤ tb
set_option maxRecDepth 65536 in
set_option maxHeartbeats 40000000 in
theorem rmToB3 (l : Launch) (Z : State) (a0 : Array Value) (hw : ∀ d ∈ tables_1, d.before a0 Z = true) (ws : List Jvm.Cond) (va : Addr) (kv : ClassId) (c0 : Int32) (c1 : Int32) (c2 : Int32) (h0 : Heap) (n0 : Nat) (Z0 : n0 ≤ h0.size) (O0 : Old Z n0 h0) (V_va : Arv Z h0 va kv .char (3 : Int32) ([(.int c0), (.int c1), (.int c2)]) (.int 0)) (U0 : Sta Z Z.heap "java/lang/StringUTF16" "$assertionsDisabled" "Z" (.int 1)) (U1 : Sta Z Z.heap "java/lang/StringUTF16" "HI_BYTE_SHIFT" "I" (.int 0)) (U2 : Sta Z Z.heap "java/lang/StringUTF16" "LO_BYTE_SHIFT" "I" (.int 8)) :
    MetFree l (⟨"java/lang/StringUTF16", "toBytes", "([CII)[B"⟩ : MethodName) (head1 (Jvm.Cond.code (⟨"java/lang/StringUTF16", "toBytes", "([CII)[B"⟩ : MethodName) jdk_52_method_14_code 5 (some (.array .byte)) :: ws) ({ frames := 2, cells := 1, slots := 6, locals := 24 } : Room)) (fun as' U => as' = #[(.ref va), (.int 0), (.int 3)] ∧ Z.Warmed39 U.vm ∧ U.heap = h0) (fun _ _ _ _ _ => True) (fun _ U o U' => ∃ v L, o = .returned v ∧ Q_rmToB3 Z va kv c0 c1 c2 h0 n0 v U'.heap L ∧ FrameEnd U o U' L ({ frames := 2, cells := 1, slots := 6, locals := 24 } : Room).cells ({ frames := 2, cells := 1, slots := 6, locals := 24 } : Room).slots) := by
  refine MetFree.of_bodySF (plainFor_of_name pn_1) hisR ?_
  intro p e s m args below meth c s₁ Bd hml0 hP hK
  obtain ⟨rfl, hZ, hh⟩ := hP
  have hx := Bd.exec
  have hby := Bd.bytes
  have hml : c.maxLocals = 5 := hml0
  have hown : s.vm.findClass "java/lang/StringUTF16" = some m.cls := findClass_of_methodNamed Bd.named
  have hnm := (name_of_methodNamed Bd.named Bd.method).1
  have X0 : Stand p l e ({ frames := 2, cells := 1, slots := 6, locals := 24 } : Room) s m #[(.ref va), (.int 0), (.int 3)] below meth c s₁ [] 0 0 := Stand.of_body Bd
  have e0 : s₁.heap = h0 := by rw [← hh, Bd.state]; rfl
  have N0 := Fr.nil n0
  refine Go.enter (F := EndN s (Q_rmToB3 Z va kv c0 c1 c2 h0 n0) ({ frames := 2, cells := 1, slots := 6, locals := 24 } : Room).cells ({ frames := 2, cells := 1, slots := 6, locals := 24 } : Room).slots) (ef_65 m va (0 : Int32) (3 : Int32)) ?_
  show Go _ _ _ _ s₁ (mkF m 0 #[rv va, iv 0, iv 3, un, un] [])
  refine Go.iload1 1 X0 hx (hb hby d12_0) rfl rfl ?_
  obtain ⟨_, _, ⟨T1, L1, k1, n1⟩, -, X1, ⟨Lc1, hQ1, l1, y1, z1⟩, st1⟩ := Jvm.LawKit.callS X0 hx (y := (⟨"java/lang/StringUTF16", "newBytesFor", "(I)[B"⟩ : MethodName)) hown (mvT hZ (ow hw 61 rfl)) (mvT hZ (ow hw 62 rfl)) (mvT hZ (ow hw 18 rfl)) (mvT hZ (ow hw 63 rfl)) (by decide) (backOf (W := 0) (rmNbf3 l Z a0 hw []  h0 n0 Z0 ) hZ (ow hw 63 rfl) (ow hw 18 rfl) (by decide) (by decide)) (g := (mkF m 1 #[rv va, iv 0, iv 3, un, un] [(.int 3)])) rfl (by rw [hml]; rfl) (argsL := [(.int 3)]) (rest := []) (lenOf pd_67 rfl) rfl (by show 2 * 0 + _ ≤ _; exact Nat.le_of_eq rfl) (hb hby d12_1) (fun _ _ => ⟨rfl, e0, (by decide : 0 + 1 ≤ _), (by decide : 0 + 6 ≤ _)⟩)
  dsimp only [Pt.U, Pt.locs, Pt.cells, Pt.slots] at X1 l1 y1 z1 st1 hQ1
  subst l1 y1 z1
  obtain ⟨tb, kt, rfl, N1q, K1, Q1_0, Q1_1⟩ := hQ1
  have N1 := Fr.app N0 N1q
  refine Go.by st1 ?_
  show Go _ _ _ _ T1 (mkF m 4 #[rv va, iv 0, iv 3, un, un] [(.ref tb)])
  have ge_tb : n0 ≤ tb := Nat.le_trans Z0 Q1_1
  have sz_tb : h0.size ≤ tb := Nat.le_trans (Keep.refl h0 []).1 Q1_1
  have ne_va_tb : va ≠ tb := Nat.ne_of_lt (Nat.lt_of_lt_of_le V_va.lt Q1_1)
  refine Go.astore1 5 X1 hx (L' := #[rv va, iv 0, iv 3, rv tb, un]) (hb hby d12_4) rfl rfl rfl ?_
  refine Go.iconst 6 X1 hx (0 : Int32) (hb hby d12_5) (by decide) rfl ?_
  refine Go.istore2 8 X1 hx (L' := #[rv va, iv 0, iv 3, rv tb, iv 0]) (hb hby d12_6) rfl rfl ?_
  refine Go.iload2 10 X1 hx (hb hby d12_8) rfl rfl ?_
  refine Go.iload1 11 X1 hx (hb hby d12_10) rfl rfl ?_
  refine Go.icmpN 14 X1 hx (hb hby d12_11) (XT.ii_ge_f (by decide)) rfl ?_
  refine Go.aload1 15 X1 hx (hb hby d12_14) rfl rfl rfl ?_
  refine Go.iload2 17 X1 hx (hb hby d12_15) rfl rfl ?_
  refine Go.aload1 18 X1 hx (hb hby d12_17) rfl rfl rfl ?_
  refine Go.iload1 19 X1 hx (hb hby d12_18) rfl rfl ?_
  have F2 : Arv Z T1.heap va kv .char (3 : Int32) [(.int c0), (.int c1), (.int c2)] (.int 0) := V_va.keep K1 nin0
  obtain ⟨cl3, Ar3, -, S3, M3, H3, -⟩ := id F2
  have hin3 : ¬ ((0 : Int32) < 0 ∨ cl3.slots.size ≤ (0 : Int32).toNatClampNeg) := inb_of S3 ⟨by decide, by decide⟩
  refine Go.by (fun _ gk => X1.caload hx (j := (0 : Int32)) (v := (.int c0)) (by exact Ar3.1) (State.isArrayOf_alike hZ.alike Ar3.2.1) Ar3.2.2 hin3 (Has.at H3 hin3 rfl) (g := (mkF m 19 #[rv va, iv 0, iv 3, rv tb, iv 0] [(.int 0), (.ref va), (.int 0), (.ref tb)])) rfl rfl (hb hby d12_19) _ gk) ?_
  show Go _ _ _ _ T1 (mkF m 20 #[rv va, iv 0, iv 3, rv tb, iv 0] [(.int c0), (.int 0), (.ref tb)])
  have F4 : Old Z n0 T1.heap := O0.keep K1 all0
  have F5 : n0 ≤ T1.heap.size := Nat.le_trans Z0 K1.1
  obtain ⟨_, _, ⟨T6, L6, k6, n6⟩, -, X6, ⟨Lc6, hQ6, l6, y6, z6⟩, st6⟩ := Jvm.LawKit.callS X1 hx (y := (⟨"java/lang/StringUTF16", "putChar", "([BII)V"⟩ : MethodName)) hown (mvT hZ (ow hw 68 rfl)) (mvT hZ (ow hw 69 rfl)) (mvT hZ (ow hw 18 rfl)) (mvT hZ (ow hw 70 rfl)) (by decide) (backOf (W := 0) (rmPut3_0 l Z a0 hw [] tb kt c0 (0 : Int32) (0 : Int32) (0 : Int32) (0 : Int32) (0 : Int32) (0 : Int32) T1.heap n0 F5 F4 Q1_0 ge_tb U0 U1 U2) hZ (ow hw 70 rfl) (ow hw 18 rfl) (by decide) (by decide)) (g := (mkF m 20 #[rv va, iv 0, iv 3, rv tb, iv 0] [(.int c0), (.int 0), (.ref tb)])) rfl (by rw [hml]; rfl) (argsL := [(.ref tb), (.int 0), (.int c0)]) (rest := []) (lenOf pd_80 rfl) rfl (by show 2 * 0 + _ ≤ _; exact Nat.le_of_eq rfl) (hb hby d12_20) (fun _ _ => ⟨rfl, rfl, (by decide : 1 + 0 ≤ _), (by decide : 6 + 0 ≤ _)⟩)
  dsimp only [Pt.U, Pt.locs, Pt.cells, Pt.slots] at X6 l6 y6 z6 st6 hQ6
  subst l6 y6 z6
  obtain ⟨rfl, N6q, K6, Q6_0⟩ := hQ6
  have N6 := Fr.app N1 N6q
  refine Go.by st6 ?_
  show Go _ _ _ _ T6 (mkF m 23 #[rv va, iv 0, iv 3, rv tb, iv 0] [])
  refine Go.iinc 26 X6 hx (1 : Int32) (L' := #[rv va, iv 1, iv 3, rv tb, iv 0]) (hb hby d12_23) (by decide) rfl rfl rfl ?_
  refine Go.iinc 29 X6 hx (1 : Int32) (L' := #[rv va, iv 1, iv 3, rv tb, iv 1]) (hb hby d12_26) (by decide) rfl rfl rfl ?_
  refine Go.goto 8 X6 hx (hb hby d12_29) (by decide) (by decide) ?_
  refine Go.iload2 10 X6 hx (hb hby d12_8) rfl rfl ?_
  refine Go.iload1 11 X6 hx (hb hby d12_10) rfl rfl ?_
  refine Go.icmpN 14 X6 hx (hb hby d12_11) (XT.ii_ge_f (by decide)) rfl ?_
  refine Go.aload1 15 X6 hx (hb hby d12_14) rfl rfl rfl ?_
  refine Go.iload2 17 X6 hx (hb hby d12_15) rfl rfl ?_
  refine Go.aload1 18 X6 hx (hb hby d12_17) rfl rfl rfl ?_
  refine Go.iload1 19 X6 hx (hb hby d12_18) rfl rfl ?_
  have F7 : Arv Z T6.heap va kv .char (3 : Int32) [(.int c0), (.int c1), (.int c2)] (.int 0) := F2.keep K6 (ninS ne_va_tb nin0)
  obtain ⟨cl8, Ar8, -, S8, M8, H8, -⟩ := id F7
  have hin8 : ¬ ((1 : Int32) < 0 ∨ cl8.slots.size ≤ (1 : Int32).toNatClampNeg) := inb_of S8 ⟨by decide, by decide⟩
  refine Go.by (fun _ gk => X6.caload hx (j := (1 : Int32)) (v := (.int c1)) (by exact Ar8.1) (State.isArrayOf_alike hZ.alike Ar8.2.1) Ar8.2.2 hin8 (Has.at H8 hin8 rfl) (g := (mkF m 19 #[rv va, iv 1, iv 3, rv tb, iv 1] [(.int 1), (.ref va), (.int 1), (.ref tb)])) rfl rfl (hb hby d12_19) _ gk) ?_
  show Go _ _ _ _ T6 (mkF m 20 #[rv va, iv 1, iv 3, rv tb, iv 1] [(.int c1), (.int 1), (.ref tb)])
  have F9 : Old Z n0 T6.heap := F4.keep K6 (allS ge_tb all0)
  have F10 : n0 ≤ T6.heap.size := Nat.le_trans F5 K6.1
  obtain ⟨_, _, ⟨T11, L11, k11, n11⟩, -, X11, ⟨Lc11, hQ11, l11, y11, z11⟩, st11⟩ := Jvm.LawKit.callS X6 hx (y := (⟨"java/lang/StringUTF16", "putChar", "([BII)V"⟩ : MethodName)) hown (mvT hZ (ow hw 68 rfl)) (mvT hZ (ow hw 69 rfl)) (mvT hZ (ow hw 18 rfl)) (mvT hZ (ow hw 70 rfl)) (by decide) (backOf (W := 0) (rmPut3_1 l Z a0 hw [] tb kt c1 (own_lo c0) (own_hi c0) (0 : Int32) (0 : Int32) (0 : Int32) (0 : Int32) T6.heap n0 F10 F9 Q6_0 ge_tb U0 U1 U2) hZ (ow hw 70 rfl) (ow hw 18 rfl) (by decide) (by decide)) (g := (mkF m 20 #[rv va, iv 1, iv 3, rv tb, iv 1] [(.int c1), (.int 1), (.ref tb)])) rfl (by rw [hml]; rfl) (argsL := [(.ref tb), (.int 1), (.int c1)]) (rest := []) (lenOf pd_80 rfl) rfl (by show 2 * 0 + _ ≤ _; exact Nat.le_of_eq rfl) (hb hby d12_20) (fun _ _ => ⟨rfl, rfl, (by decide : 1 + 0 ≤ _), (by decide : 6 + 0 ≤ _)⟩)
  dsimp only [Pt.U, Pt.locs, Pt.cells, Pt.slots] at X11 l11 y11 z11 st11 hQ11
  subst l11 y11 z11
  obtain ⟨rfl, N11q, K11, Q11_0⟩ := hQ11
  have N11 := Fr.app N6 N11q
  refine Go.by st11 ?_
  show Go _ _ _ _ T11 (mkF m 23 #[rv va, iv 1, iv 3, rv tb, iv 1] [])
  refine Go.iinc 26 X11 hx (1 : Int32) (L' := #[rv va, iv 2, iv 3, rv tb, iv 1]) (hb hby d12_23) (by decide) rfl rfl rfl ?_
  refine Go.iinc 29 X11 hx (1 : Int32) (L' := #[rv va, iv 2, iv 3, rv tb, iv 2]) (hb hby d12_26) (by decide) rfl rfl rfl ?_
  refine Go.goto 8 X11 hx (hb hby d12_29) (by decide) (by decide) ?_
  refine Go.iload2 10 X11 hx (hb hby d12_8) rfl rfl ?_
  refine Go.iload1 11 X11 hx (hb hby d12_10) rfl rfl ?_
  refine Go.icmpN 14 X11 hx (hb hby d12_11) (XT.ii_ge_f (by decide)) rfl ?_
  refine Go.aload1 15 X11 hx (hb hby d12_14) rfl rfl rfl ?_
  refine Go.iload2 17 X11 hx (hb hby d12_15) rfl rfl ?_
  refine Go.aload1 18 X11 hx (hb hby d12_17) rfl rfl rfl ?_
  refine Go.iload1 19 X11 hx (hb hby d12_18) rfl rfl ?_
  have F12 : Arv Z T11.heap va kv .char (3 : Int32) [(.int c0), (.int c1), (.int c2)] (.int 0) := F7.keep K11 (ninS ne_va_tb nin0)
  obtain ⟨cl13, Ar13, -, S13, M13, H13, -⟩ := id F12
  have hin13 : ¬ ((2 : Int32) < 0 ∨ cl13.slots.size ≤ (2 : Int32).toNatClampNeg) := inb_of S13 ⟨by decide, by decide⟩
  refine Go.by (fun _ gk => X11.caload hx (j := (2 : Int32)) (v := (.int c2)) (by exact Ar13.1) (State.isArrayOf_alike hZ.alike Ar13.2.1) Ar13.2.2 hin13 (Has.at H13 hin13 rfl) (g := (mkF m 19 #[rv va, iv 2, iv 3, rv tb, iv 2] [(.int 2), (.ref va), (.int 2), (.ref tb)])) rfl rfl (hb hby d12_19) _ gk) ?_
  show Go _ _ _ _ T11 (mkF m 20 #[rv va, iv 2, iv 3, rv tb, iv 2] [(.int c2), (.int 2), (.ref tb)])
  have F14 : Old Z n0 T11.heap := F9.keep K11 (allS ge_tb all0)
  have F15 : n0 ≤ T11.heap.size := Nat.le_trans F10 K11.1
  obtain ⟨_, _, ⟨T16, L16, k16, n16⟩, -, X16, ⟨Lc16, hQ16, l16, y16, z16⟩, st16⟩ := Jvm.LawKit.callS X11 hx (y := (⟨"java/lang/StringUTF16", "putChar", "([BII)V"⟩ : MethodName)) hown (mvT hZ (ow hw 68 rfl)) (mvT hZ (ow hw 69 rfl)) (mvT hZ (ow hw 18 rfl)) (mvT hZ (ow hw 70 rfl)) (by decide) (backOf (W := 0) (rmPut3_2 l Z a0 hw [] tb kt c2 (own_lo c0) (own_hi c0) (own_lo c1) (own_hi c1) (0 : Int32) (0 : Int32) T11.heap n0 F15 F14 Q11_0 ge_tb U0 U1 U2) hZ (ow hw 70 rfl) (ow hw 18 rfl) (by decide) (by decide)) (g := (mkF m 20 #[rv va, iv 2, iv 3, rv tb, iv 2] [(.int c2), (.int 2), (.ref tb)])) rfl (by rw [hml]; rfl) (argsL := [(.ref tb), (.int 2), (.int c2)]) (rest := []) (lenOf pd_80 rfl) rfl (by show 2 * 0 + _ ≤ _; exact Nat.le_of_eq rfl) (hb hby d12_20) (fun _ _ => ⟨rfl, rfl, (by decide : 1 + 0 ≤ _), (by decide : 6 + 0 ≤ _)⟩)
  dsimp only [Pt.U, Pt.locs, Pt.cells, Pt.slots] at X16 l16 y16 z16 st16 hQ16
  subst l16 y16 z16
  obtain ⟨rfl, N16q, K16, Q16_0⟩ := hQ16
  have N16 := Fr.app N11 N16q
  refine Go.by st16 ?_
  show Go _ _ _ _ T16 (mkF m 23 #[rv va, iv 2, iv 3, rv tb, iv 2] [])
  refine Go.iinc 26 X16 hx (1 : Int32) (L' := #[rv va, iv 3, iv 3, rv tb, iv 2]) (hb hby d12_23) (by decide) rfl rfl rfl ?_
  refine Go.iinc 29 X16 hx (1 : Int32) (L' := #[rv va, iv 3, iv 3, rv tb, iv 3]) (hb hby d12_26) (by decide) rfl rfl rfl ?_
  refine Go.goto 8 X16 hx (hb hby d12_29) (by decide) (by decide) ?_
  refine Go.iload2 10 X16 hx (hb hby d12_8) rfl rfl ?_
  refine Go.iload1 11 X16 hx (hb hby d12_10) rfl rfl ?_
  refine Go.icmpY 32 X16 hx (hb hby d12_11) (XT.ii_ge_t (by decide)) (by decide) (by decide) ?_
  refine Go.aload1 33 X16 hx (hb hby d12_32) rfl rfl rfl ?_
  have F17 : Keep h0 T1.heap [] := (Keep.refl h0 []).trans K1 all0
  have F18 : Keep h0 T6.heap [] := F17.trans K6 (allS (Or.inr sz_tb) all0)
  have F19 : Keep h0 T11.heap [] := F18.trans K11 (allS (Or.inr sz_tb) all0)
  have F20 : Keep h0 T16.heap [] := F19.trans K16 (allS (Or.inr sz_tb) all0)
  exact Go.retA X16 hx Bd.notSynchronized Bd.returns rfl rfl (hb hby d12_33) ⟨tb, kt, rfl, N16, F20, Q16_0, sz_tb⟩ (by decide) (by decide)
def Q_rmC5_3 (Z : State) (va : Addr) (da : Addr) (kv : ClassId) (kd : ClassId) (c0 : Int32) (c1 : Int32) (c2 : Int32) (h0 : Heap) (n0 : Nat) (v : Option Value) (h : Heap) (L : List Loc) : Prop := ∃ r : Int32, ∃ ds : List Value, v = some (.int r) ∧ Fr n0 L ∧ Keep h0 h [da] ∧ Arv Z h da kd .byte (3 : Int32) ds (.int 0) ∧ ((r = 0 ∧ 255 < c0) ∨ (r = 1 ∧ 255 < c1) ∨ (r = 2 ∧ 255 < c2) ∨ r = 3)
set_option maxRecDepth 65536 in
set_option maxHeartbeats 40000000 in
theorem rmC5_3 (l : Launch) (Z : State) (a0 : Array Value) (hw : ∀ d ∈ tables_1, d.before a0 Z = true) (ws : List Jvm.Cond) (va : Addr) (da : Addr) (kv : ClassId) (kd : ClassId) (c0 : Int32) (c1 : Int32) (c2 : Int32) (h0 : Heap) (n0 : Nat) (Z0 : n0 ≤ h0.size) (V_va : Arv Z h0 va kv .char (3 : Int32) ([(.int c0), (.int c1), (.int c2)]) (.int 0)) (V_da : Arv Z h0 da kd .byte (3 : Int32) ([(.int 0), (.int 0), (.int 0)]) (.int 0)) (g_da : n0 ≤ da) (ne_va_da : va ≠ da) :
    MetFree l (⟨"java/lang/StringUTF16", "compress", "([CI[BII)I"⟩ : MethodName) (head1 (Jvm.Cond.code (⟨"java/lang/StringUTF16", "compress", "([CI[BII)I"⟩ : MethodName) jdk_52_method_21_code 7 (some .int) :: ws) ({ frames := 0, cells := 0, slots := 0, locals := 0 } : Room)) (fun as' U => as' = #[(.ref va), (.int 0), (.ref da), (.int 0), (.int 3)] ∧ Z.Warmed39 U.vm ∧ U.heap = h0) (fun _ _ _ _ _ => True) (fun _ U o U' => ∃ v L, o = .returned v ∧ Q_rmC5_3 Z va da kv kd c0 c1 c2 h0 n0 v U'.heap L ∧ FrameEnd U o U' L ({ frames := 0, cells := 0, slots := 0, locals := 0 } : Room).cells ({ frames := 0, cells := 0, slots := 0, locals := 0 } : Room).slots) := by
  refine MetFree.of_bodySF (plainFor_of_name pn_1) hisR ?_
  intro p e s m args below meth c s₁ Bd hml0 hP hK
  obtain ⟨rfl, hZ, hh⟩ := hP
  have hx := Bd.exec
  have hby := Bd.bytes
  have hml : c.maxLocals = 7 := hml0
  have hown : s.vm.findClass "java/lang/StringUTF16" = some m.cls := findClass_of_methodNamed Bd.named
  have hnm := (name_of_methodNamed Bd.named Bd.method).1
  have X0 : Stand p l e ({ frames := 0, cells := 0, slots := 0, locals := 0 } : Room) s m #[(.ref va), (.int 0), (.ref da), (.int 0), (.int 3)] below meth c s₁ [] 0 0 := Stand.of_body Bd
  have e0 : s₁.heap = h0 := by rw [← hh, Bd.state]; rfl
  have N0 := Fr.nil n0
  refine Go.enter (F := EndN s (Q_rmC5_3 Z va da kv kd c0 c1 c2 h0 n0) ({ frames := 0, cells := 0, slots := 0, locals := 0 } : Room).cells ({ frames := 0, cells := 0, slots := 0, locals := 0 } : Room).slots) (ef_87 m va (0 : Int32) da (0 : Int32) (3 : Int32)) ?_
  show Go _ _ _ _ s₁ (mkF m 0 #[rv va, iv 0, rv da, iv 0, iv 3, un, un] [])
  refine Go.iconst 1 X0 hx (0 : Int32) (hb hby d5_0) (by decide) rfl ?_
  refine Go.istore2 3 X0 hx (L' := #[rv va, iv 0, rv da, iv 0, iv 3, iv 0, un]) (hb hby d5_1) rfl rfl ?_
  refine Go.iload2 5 X0 hx (hb hby d5_3) rfl rfl ?_
  refine Go.iload2 7 X0 hx (hb hby d5_5) rfl rfl ?_
  refine Go.icmpN 10 X0 hx (hb hby d5_7) (XT.ii_ge_f (by decide)) rfl ?_
  refine Go.aload1 11 X0 hx (hb hby d5_10) rfl rfl rfl ?_
  refine Go.iload1 12 X0 hx (hb hby d5_11) rfl rfl ?_
  obtain ⟨cl1, Ar1, -, S1, M1, H1, -⟩ := id V_va
  have hin1 : ¬ ((0 : Int32) < 0 ∨ cl1.slots.size ≤ (0 : Int32).toNatClampNeg) := inb_of S1 ⟨by decide, by decide⟩
  refine Go.by (fun _ gk => X0.caload hx (j := (0 : Int32)) (v := (.int c0)) (by rw [e0]; exact Ar1.1) (State.isArrayOf_alike hZ.alike Ar1.2.1) Ar1.2.2 hin1 (Has.at H1 hin1 rfl) (g := (mkF m 12 #[rv va, iv 0, rv da, iv 0, iv 3, iv 0, un] [(.int 0), (.ref va)])) rfl rfl (hb hby d5_12) _ gk) ?_
  show Go _ _ _ _ s₁ (mkF m 13 #[rv va, iv 0, rv da, iv 0, iv 3, iv 0, un] [(.int c0)])
  refine Go.istore2 15 X0 hx (L' := #[rv va, iv 0, rv da, iv 0, iv 3, iv 0, iv c0]) (hb hby d5_13) rfl rfl ?_
  refine Go.iload2 17 X0 hx (hb hby d5_15) rfl rfl ?_
  refine Go.sipush 20 X0 hx (255 : Int32) (hb hby d5_17) (by decide) rfl ?_
  by_cases hb2 : (255 : Int32) < c0
  · refine Go.icmpN 23 X0 hx (hb hby d5_20) (XT.ii_le_f hb2) rfl ?_
    refine Go.iload2 25 X0 hx (hb hby d5_23) rfl rfl ?_
    exact Go.retI X0 hx Bd.notSynchronized Bd.returns rfl (by simp) (hb hby d5_25) (by rw [e0]; exact ⟨(0 : Int32), [(.int 0), (.int 0), (.int 0)], rfl, N0, (Keep.refl h0 [da]), V_da, Or.inl ⟨rfl, hb2⟩⟩) (by decide) (by decide)
  · refine Go.icmpY 26 X0 hx (hb hby d5_20) (XT.ii_le_t hb2) (by decide) (by decide) ?_
    refine Go.aload1 27 X0 hx (hb hby d5_26) rfl rfl rfl ?_
    refine Go.iload1 28 X0 hx (hb hby d5_27) rfl rfl ?_
    refine Go.iload2 30 X0 hx (hb hby d5_28) rfl rfl ?_
    refine Go.i2b 31 X0 hx (hb hby d5_30) rfl ?_
    obtain ⟨cl3, Ar3, q3, S3, M3, H3, G3⟩ := id V_da
    have hin3 : ¬ ((0 : Int32) < 0 ∨ cl3.slots.size ≤ (0 : Int32).toNatClampNeg) := inb_of S3 ⟨by decide, by decide⟩
    obtain ⟨T3, h3, X3, e3, W3, st3⟩ := stB X0 hx hZ e0 Ar3 (j := (0 : Int32)) hin3 (g := (mkF m 31 #[rv va, iv 0, rv da, iv 0, iv 3, iv 0, iv c0] [(.int (c0.toInt8.toInt32)), (.int 0), (.ref da)])) rfl rfl (hb hby d5_31)
    have N3 := Fr.snoc X3 N0 g_da
    have V3 : Arv Z h3 da kd .byte (3 : Int32) [(.int (nar .byte (c0.toInt8.toInt32))), (.int 0), (.int 0)] (.int 0) := Arv.set Ar3 q3 S3 M3 H3 G3 (fits_nar_byte _) W3 0 rfl (Nat.le_of_ble_eq_true rfl)
    refine Go.by st3 ?_
    show Go _ _ _ _ T3 (mkF m 32 #[rv va, iv 0, rv da, iv 0, iv 3, iv 0, iv c0] [])
    refine Go.iinc 35 X3 hx (1 : Int32) (L' := #[rv va, iv 1, rv da, iv 0, iv 3, iv 0, iv c0]) (hb hby d5_32) (by decide) rfl rfl rfl ?_
    refine Go.iinc 38 X3 hx (1 : Int32) (L' := #[rv va, iv 1, rv da, iv 1, iv 3, iv 0, iv c0]) (hb hby d5_35) (by decide) rfl rfl rfl ?_
    refine Go.iinc 41 X3 hx (1 : Int32) (L' := #[rv va, iv 1, rv da, iv 1, iv 3, iv 1, iv c0]) (hb hby d5_38) (by decide) rfl rfl rfl ?_
    refine Go.goto 3 X3 hx (hb hby d5_41) (by decide) (by decide) ?_
    refine Go.iload2 5 X3 hx (hb hby d5_3) rfl rfl ?_
    refine Go.iload2 7 X3 hx (hb hby d5_5) rfl rfl ?_
    refine Go.icmpN 10 X3 hx (hb hby d5_7) (XT.ii_ge_f (by decide)) rfl ?_
    refine Go.aload1 11 X3 hx (hb hby d5_10) rfl rfl rfl ?_
    refine Go.iload1 12 X3 hx (hb hby d5_11) rfl rfl ?_
    have F4 : Arv Z h3 va kv .char (3 : Int32) [(.int c0), (.int c1), (.int c2)] (.int 0) := V_va.other W3 ne_va_da
    obtain ⟨cl5, Ar5, -, S5, M5, H5, -⟩ := id F4
    have hin5 : ¬ ((1 : Int32) < 0 ∨ cl5.slots.size ≤ (1 : Int32).toNatClampNeg) := inb_of S5 ⟨by decide, by decide⟩
    refine Go.by (fun _ gk => X3.caload hx (j := (1 : Int32)) (v := (.int c1)) (by rw [e3]; exact Ar5.1) (State.isArrayOf_alike hZ.alike Ar5.2.1) Ar5.2.2 hin5 (Has.at H5 hin5 rfl) (g := (mkF m 12 #[rv va, iv 1, rv da, iv 1, iv 3, iv 1, iv c0] [(.int 1), (.ref va)])) rfl rfl (hb hby d5_12) _ gk) ?_
    show Go _ _ _ _ T3 (mkF m 13 #[rv va, iv 1, rv da, iv 1, iv 3, iv 1, iv c0] [(.int c1)])
    refine Go.istore2 15 X3 hx (L' := #[rv va, iv 1, rv da, iv 1, iv 3, iv 1, iv c1]) (hb hby d5_13) rfl rfl ?_
    refine Go.iload2 17 X3 hx (hb hby d5_15) rfl rfl ?_
    refine Go.sipush 20 X3 hx (255 : Int32) (hb hby d5_17) (by decide) rfl ?_
    by_cases hb6 : (255 : Int32) < c1
    · refine Go.icmpN 23 X3 hx (hb hby d5_20) (XT.ii_le_f hb6) rfl ?_
      refine Go.iload2 25 X3 hx (hb hby d5_23) rfl rfl ?_
      have F7 : Keep h0 h3 [da] := (Keep.refl h0 [da]).wr W3 (Or.inl (List.mem_of_getElem? (i := 0) rfl))
      exact Go.retI X3 hx Bd.notSynchronized Bd.returns rfl (by simp) (hb hby d5_25) (by rw [e3]; exact ⟨(1 : Int32), [(.int (nar .byte (c0.toInt8.toInt32))), (.int 0), (.int 0)], rfl, N3, F7, V3, Or.inr (Or.inl ⟨rfl, hb6⟩)⟩) (by decide) (by decide)
    · refine Go.icmpY 26 X3 hx (hb hby d5_20) (XT.ii_le_t hb6) (by decide) (by decide) ?_
      refine Go.aload1 27 X3 hx (hb hby d5_26) rfl rfl rfl ?_
      refine Go.iload1 28 X3 hx (hb hby d5_27) rfl rfl ?_
      refine Go.iload2 30 X3 hx (hb hby d5_28) rfl rfl ?_
      refine Go.i2b 31 X3 hx (hb hby d5_30) rfl ?_
      obtain ⟨cl8, Ar8, q8, S8, M8, H8, G8⟩ := id V3
      have hin8 : ¬ ((1 : Int32) < 0 ∨ cl8.slots.size ≤ (1 : Int32).toNatClampNeg) := inb_of S8 ⟨by decide, by decide⟩
      obtain ⟨T8, h8, X8, e8, W8, st8⟩ := stB X3 hx hZ e3 Ar8 (j := (1 : Int32)) hin8 (g := (mkF m 31 #[rv va, iv 1, rv da, iv 1, iv 3, iv 1, iv c1] [(.int (c1.toInt8.toInt32)), (.int 1), (.ref da)])) rfl rfl (hb hby d5_31)
      have N8 := Fr.snoc X8 N3 g_da
      have V8 : Arv Z h8 da kd .byte (3 : Int32) [(.int (nar .byte (c0.toInt8.toInt32))), (.int (nar .byte (c1.toInt8.toInt32))), (.int 0)] (.int 0) := Arv.set Ar8 q8 S8 M8 H8 G8 (fits_nar_byte _) W8 1 rfl (Nat.le_of_ble_eq_true rfl)
      refine Go.by st8 ?_
      show Go _ _ _ _ T8 (mkF m 32 #[rv va, iv 1, rv da, iv 1, iv 3, iv 1, iv c1] [])
      refine Go.iinc 35 X8 hx (1 : Int32) (L' := #[rv va, iv 2, rv da, iv 1, iv 3, iv 1, iv c1]) (hb hby d5_32) (by decide) rfl rfl rfl ?_
      refine Go.iinc 38 X8 hx (1 : Int32) (L' := #[rv va, iv 2, rv da, iv 2, iv 3, iv 1, iv c1]) (hb hby d5_35) (by decide) rfl rfl rfl ?_
      refine Go.iinc 41 X8 hx (1 : Int32) (L' := #[rv va, iv 2, rv da, iv 2, iv 3, iv 2, iv c1]) (hb hby d5_38) (by decide) rfl rfl rfl ?_
      refine Go.goto 3 X8 hx (hb hby d5_41) (by decide) (by decide) ?_
      refine Go.iload2 5 X8 hx (hb hby d5_3) rfl rfl ?_
      refine Go.iload2 7 X8 hx (hb hby d5_5) rfl rfl ?_
      refine Go.icmpN 10 X8 hx (hb hby d5_7) (XT.ii_ge_f (by decide)) rfl ?_
      refine Go.aload1 11 X8 hx (hb hby d5_10) rfl rfl rfl ?_
      refine Go.iload1 12 X8 hx (hb hby d5_11) rfl rfl ?_
      have F9 : Arv Z h8 va kv .char (3 : Int32) [(.int c0), (.int c1), (.int c2)] (.int 0) := F4.other W8 ne_va_da
      obtain ⟨cl10, Ar10, -, S10, M10, H10, -⟩ := id F9
      have hin10 : ¬ ((2 : Int32) < 0 ∨ cl10.slots.size ≤ (2 : Int32).toNatClampNeg) := inb_of S10 ⟨by decide, by decide⟩
      refine Go.by (fun _ gk => X8.caload hx (j := (2 : Int32)) (v := (.int c2)) (by rw [e8]; exact Ar10.1) (State.isArrayOf_alike hZ.alike Ar10.2.1) Ar10.2.2 hin10 (Has.at H10 hin10 rfl) (g := (mkF m 12 #[rv va, iv 2, rv da, iv 2, iv 3, iv 2, iv c1] [(.int 2), (.ref va)])) rfl rfl (hb hby d5_12) _ gk) ?_
      show Go _ _ _ _ T8 (mkF m 13 #[rv va, iv 2, rv da, iv 2, iv 3, iv 2, iv c1] [(.int c2)])
      refine Go.istore2 15 X8 hx (L' := #[rv va, iv 2, rv da, iv 2, iv 3, iv 2, iv c2]) (hb hby d5_13) rfl rfl ?_
      refine Go.iload2 17 X8 hx (hb hby d5_15) rfl rfl ?_
      refine Go.sipush 20 X8 hx (255 : Int32) (hb hby d5_17) (by decide) rfl ?_
      by_cases hb11 : (255 : Int32) < c2
      · refine Go.icmpN 23 X8 hx (hb hby d5_20) (XT.ii_le_f hb11) rfl ?_
        refine Go.iload2 25 X8 hx (hb hby d5_23) rfl rfl ?_
        have F12 : Keep h0 h3 [da] := (Keep.refl h0 [da]).wr W3 (Or.inl (List.mem_of_getElem? (i := 0) rfl))
        have F13 : Keep h0 h8 [da] := F12.wr W8 (Or.inl (List.mem_of_getElem? (i := 0) rfl))
        exact Go.retI X8 hx Bd.notSynchronized Bd.returns rfl (by simp) (hb hby d5_25) (by rw [e8]; exact ⟨(2 : Int32), [(.int (nar .byte (c0.toInt8.toInt32))), (.int (nar .byte (c1.toInt8.toInt32))), (.int 0)], rfl, N8, F13, V8, Or.inr (Or.inr (Or.inl ⟨rfl, hb11⟩))⟩) (by decide) (by decide)
      · refine Go.icmpY 26 X8 hx (hb hby d5_20) (XT.ii_le_t hb11) (by decide) (by decide) ?_
        refine Go.aload1 27 X8 hx (hb hby d5_26) rfl rfl rfl ?_
        refine Go.iload1 28 X8 hx (hb hby d5_27) rfl rfl ?_
        refine Go.iload2 30 X8 hx (hb hby d5_28) rfl rfl ?_
        refine Go.i2b 31 X8 hx (hb hby d5_30) rfl ?_
        obtain ⟨cl14, Ar14, q14, S14, M14, H14, G14⟩ := id V8
        have hin14 : ¬ ((2 : Int32) < 0 ∨ cl14.slots.size ≤ (2 : Int32).toNatClampNeg) := inb_of S14 ⟨by decide, by decide⟩
        obtain ⟨T14, h14, X14, e14, W14, st14⟩ := stB X8 hx hZ e8 Ar14 (j := (2 : Int32)) hin14 (g := (mkF m 31 #[rv va, iv 2, rv da, iv 2, iv 3, iv 2, iv c2] [(.int (c2.toInt8.toInt32)), (.int 2), (.ref da)])) rfl rfl (hb hby d5_31)
        have N14 := Fr.snoc X14 N8 g_da
        have V14 : Arv Z h14 da kd .byte (3 : Int32) [(.int (nar .byte (c0.toInt8.toInt32))), (.int (nar .byte (c1.toInt8.toInt32))), (.int (nar .byte (c2.toInt8.toInt32)))] (.int 0) := Arv.set Ar14 q14 S14 M14 H14 G14 (fits_nar_byte _) W14 2 rfl (Nat.le_of_ble_eq_true rfl)
        refine Go.by st14 ?_
        show Go _ _ _ _ T14 (mkF m 32 #[rv va, iv 2, rv da, iv 2, iv 3, iv 2, iv c2] [])
        refine Go.iinc 35 X14 hx (1 : Int32) (L' := #[rv va, iv 3, rv da, iv 2, iv 3, iv 2, iv c2]) (hb hby d5_32) (by decide) rfl rfl rfl ?_
        refine Go.iinc 38 X14 hx (1 : Int32) (L' := #[rv va, iv 3, rv da, iv 3, iv 3, iv 2, iv c2]) (hb hby d5_35) (by decide) rfl rfl rfl ?_
        refine Go.iinc 41 X14 hx (1 : Int32) (L' := #[rv va, iv 3, rv da, iv 3, iv 3, iv 3, iv c2]) (hb hby d5_38) (by decide) rfl rfl rfl ?_
        refine Go.goto 3 X14 hx (hb hby d5_41) (by decide) (by decide) ?_
        refine Go.iload2 5 X14 hx (hb hby d5_3) rfl rfl ?_
        refine Go.iload2 7 X14 hx (hb hby d5_5) rfl rfl ?_
        refine Go.icmpY 44 X14 hx (hb hby d5_7) (XT.ii_ge_t (by decide)) (by decide) (by decide) ?_
        refine Go.iload2 46 X14 hx (hb hby d5_44) rfl rfl ?_
        have F15 : Keep h0 h3 [da] := (Keep.refl h0 [da]).wr W3 (Or.inl (List.mem_of_getElem? (i := 0) rfl))
        have F16 : Keep h0 h8 [da] := F15.wr W8 (Or.inl (List.mem_of_getElem? (i := 0) rfl))
        have F17 : Keep h0 h14 [da] := F16.wr W14 (Or.inl (List.mem_of_getElem? (i := 0) rfl))
        exact Go.retI X14 hx Bd.notSynchronized Bd.returns rfl (by simp) (hb hby d5_46) (by rw [e14]; exact ⟨(3 : Int32), [(.int (nar .byte (c0.toInt8.toInt32))), (.int (nar .byte (c1.toInt8.toInt32))), (.int (nar .byte (c2.toInt8.toInt32)))], rfl, N14, F17, V14, Or.inr (Or.inr (Or.inr (rfl)))⟩) (by decide) (by decide)
def Q_rmC3_3 (Z : State) (va : Addr) (kv : ClassId) (c0 : Int32) (c1 : Int32) (c2 : Int32) (h0 : Heap) (n0 : Nat) (v : Option Value) (h : Heap) (L : List Loc) : Prop := ∃ da : Addr, ∃ kd : ClassId, ∃ vs : List Value, ∃ ln : Int32, v = some (.ref da) ∧ Fr n0 L ∧ Keep h0 h [] ∧ Arv Z h da kd .byte ln vs (.int 0) ∧ h0.size ≤ da ∧ (ln = 3 ∨ ln = 6)
set_option maxRecDepth 65536 in
set_option maxHeartbeats 40000000 in
theorem rmC3_3 (l : Launch) (Z : State) (a0 : Array Value) (hw : ∀ d ∈ tables_1, d.before a0 Z = true) (ws : List Jvm.Cond) (va : Addr) (kv : ClassId) (c0 : Int32) (c1 : Int32) (c2 : Int32) (h0 : Heap) (n0 : Nat) (Z0 : n0 ≤ h0.size) (O0 : Old Z n0 h0) (V_va : Arv Z h0 va kv .char (3 : Int32) ([(.int c0), (.int c1), (.int c2)]) (.int 0)) (hn0 : (nar .char c0 = c0)) (hn1 : (nar .char c1 = c1)) (hn2 : (nar .char c2 = c2)) (U0 : Sta Z Z.heap "java/lang/StringUTF16" "$assertionsDisabled" "Z" (.int 1)) (U1 : Sta Z Z.heap "java/lang/StringUTF16" "HI_BYTE_SHIFT" "I" (.int 0)) (U2 : Sta Z Z.heap "java/lang/StringUTF16" "LO_BYTE_SHIFT" "I" (.int 8)) :
    MetFree l (⟨"java/lang/StringUTF16", "compress", "([CII)[B"⟩ : MethodName) (head1 (Jvm.Cond.code (⟨"java/lang/StringUTF16", "compress", "([CII)[B"⟩ : MethodName) jdk_52_method_16_code 6 (some (.array .byte)) :: ws) ({ frames := 3, cells := 2, slots := 9, locals := 40 } : Room)) (fun as' U => as' = #[(.ref va), (.int 0), (.int 3)] ∧ Z.Warmed39 U.vm ∧ U.heap = h0) (fun _ _ _ _ _ => True) (fun _ U o U' => ∃ v L, o = .returned v ∧ Q_rmC3_3 Z va kv c0 c1 c2 h0 n0 v U'.heap L ∧ FrameEnd U o U' L ({ frames := 3, cells := 2, slots := 9, locals := 40 } : Room).cells ({ frames := 3, cells := 2, slots := 9, locals := 40 } : Room).slots) := by
  refine MetFree.of_bodySF (plainFor_of_name pn_1) hisR ?_
  intro p e s m args below meth c s₁ Bd hml0 hP hK
  obtain ⟨rfl, hZ, hh⟩ := hP
  have hx := Bd.exec
  have hby := Bd.bytes
  have hml : c.maxLocals = 6 := hml0
  have hown : s.vm.findClass "java/lang/StringUTF16" = some m.cls := findClass_of_methodNamed Bd.named
  have hnm := (name_of_methodNamed Bd.named Bd.method).1
  have X0 : Stand p l e ({ frames := 3, cells := 2, slots := 9, locals := 40 } : Room) s m #[(.ref va), (.int 0), (.int 3)] below meth c s₁ [] 0 0 := Stand.of_body Bd
  have e0 : s₁.heap = h0 := by rw [← hh, Bd.state]; rfl
  have N0 := Fr.nil n0
  refine Go.enter (F := EndN s (Q_rmC3_3 Z va kv c0 c1 c2 h0 n0) ({ frames := 3, cells := 2, slots := 9, locals := 40 } : Room).cells ({ frames := 3, cells := 2, slots := 9, locals := 40 } : Room).slots) (ef_113 m va (0 : Int32) (3 : Int32)) ?_
  show Go _ _ _ _ s₁ (mkF m 0 #[rv va, iv 0, iv 3, un, un, un] [])
  refine Go.iload1 1 X0 hx (hb hby d4_0) rfl rfl ?_
  obtain ⟨da, g1⟩ : ∃ z, z = h0.size := ⟨_, rfl⟩
  have ge_da : n0 ≤ da := Nat.le_trans Z0 (Nat.le_of_eq g1.symm)
  have sz_da : h0.size ≤ da := Nat.le_trans (Keep.refl h0 []).1 (Nat.le_of_eq g1.symm)
  have ne_va_da : va ≠ da := Nat.ne_of_lt (Nat.lt_of_lt_of_le V_va.lt (Nat.le_of_eq g1.symm))
  obtain ⟨T1, h1, k1, X1, e1, E1, A1, Ea1, st1⟩ := newPE X0 hx hZ (ow hw 20 rfl) e0 (g := (mkF m 1 #[rv va, iv 0, iv 3, un, un, un] [(.int 3)])) rfl (hb hby d4_1) rfl (by decide) (cap := 3) (by decide) (by decide) (by decide) (by decide) (ad := "[B") rfl
  rw [← g1] at A1 Ea1 st1
  have V_da : Arv Z h1 da k1 .byte (3 : Int32) [(.int 0), (.int 0), (.int 0)] (.int 0) := (Arv.new A1 (by decide)).pad (pad_rep [] (.int 0) 3)
  refine Go.by st1 ?_
  show Go _ _ _ _ T1 (mkF m 3 #[rv va, iv 0, iv 3, un, un, un] [(.ref da)])
  refine Go.astore1 4 X1 hx (L' := #[rv va, iv 0, iv 3, rv da, un, un]) (hb hby d4_3) rfl rfl rfl ?_
  refine Go.aload1 5 X1 hx (hb hby d4_4) rfl rfl rfl ?_
  refine Go.iload1 6 X1 hx (hb hby d4_5) rfl rfl ?_
  refine Go.aload1 7 X1 hx (hb hby d4_6) rfl rfl rfl ?_
  refine Go.iconst 8 X1 hx (0 : Int32) (hb hby d4_7) (by decide) rfl ?_
  refine Go.iload1 9 X1 hx (hb hby d4_8) rfl rfl ?_
  have F2 : Arv Z h1 va kv .char (3 : Int32) [(.int c0), (.int c1), (.int c2)] (.int 0) := V_va.ext E1
  have F3 : n0 ≤ h1.size := Nat.le_trans Z0 E1.1
  obtain ⟨_, _, ⟨T4, L4, k4, n4⟩, -, X4, ⟨Lc4, hQ4, l4, y4, z4⟩, st4⟩ := Jvm.LawKit.callS X1 hx (y := (⟨"java/lang/StringUTF16", "compress", "([CI[BII)I"⟩ : MethodName)) hown (mvT hZ (ow hw 21 rfl)) (mvT hZ (ow hw 22 rfl)) (mvT hZ (ow hw 18 rfl)) (mvT hZ (ow hw 23 rfl)) (by decide) (backOf (W := 0) (rmC5_3 l Z a0 hw [] va da kv k1 c0 c1 c2 h1 n0 F3 F2 V_da ge_da ne_va_da) hZ (ow hw 23 rfl) (ow hw 18 rfl) (by decide) (by decide)) (g := (mkF m 9 #[rv va, iv 0, iv 3, rv da, un, un] [(.int 3), (.int 0), (.ref da), (.int 0), (.ref va)])) rfl (by rw [hml]; rfl) (argsL := [(.ref va), (.int 0), (.ref da), (.int 0), (.int 3)]) (rest := []) (lenOf pd_122 rfl) rfl (by show 2 * 0 + _ ≤ _; exact Nat.le_of_eq rfl) (hb hby d4_9) (fun _ _ => ⟨rfl, e1, (by decide : 1 + 0 ≤ _), (by decide : 3 + 0 ≤ _)⟩)
  dsimp only [Pt.U, Pt.locs, Pt.cells, Pt.slots] at X4 l4 y4 z4 st4 hQ4
  subst l4 y4 z4
  obtain ⟨r5, ds, rfl, N4q, K4, Q4_0, Q4_1⟩ := hQ4
  have N4 := Fr.app N0 N4q
  refine Go.by st4 ?_
  show Go _ _ _ _ T4 (mkF m 12 #[rv va, iv 0, iv 3, rv da, un, un] [(.int r5)])
  rcases Q4_1 with ⟨rfl, hg⟩ | ⟨rfl, hg⟩ | ⟨rfl, hg⟩ | rfl
  · show Go _ _ _ _ T4 (mkF m 12 #[rv va, iv 0, iv 3, rv da, un, un] [(.int 0)])
    refine Go.istore2 14 X4 hx (L' := #[rv va, iv 0, iv 3, rv da, iv 0, un]) (hb hby d4_12) rfl rfl ?_
    refine Go.iload2 16 X4 hx (hb hby d4_14) rfl rfl ?_
    refine Go.iload1 17 X4 hx (hb hby d4_16) rfl rfl ?_
    refine Go.icmpN 20 X4 hx (hb hby d4_17) (XT.ii_eq_f (by decide)) rfl ?_
    refine Go.aload1 21 X4 hx (hb hby d4_20) rfl rfl rfl ?_
    refine Go.iload1 22 X4 hx (hb hby d4_21) rfl rfl ?_
    refine Go.iload1 23 X4 hx (hb hby d4_22) rfl rfl ?_
    have F5 : Old Z n0 h1 := O0.ext E1
    have F6 : Old Z n0 T4.heap := F5.keep K4 (allS ge_da all0)
    have F7 : Arv Z T4.heap va kv .char (3 : Int32) [(.int c0), (.int c1), (.int c2)] (.int 0) := F2.keep K4 (ninS ne_va_da nin0)
    have F8 : n0 ≤ T4.heap.size := Nat.le_trans F3 K4.1
    have F9 : Keep h0 h1 [] := (Keep.refl h0 []).ext E1
    have F10 : Keep h0 T4.heap [] := F9.trans K4 (allS (Or.inr sz_da) all0)
    have F11 : Exa Z T4.heap da "[B" := Ea1.keep K4
    obtain ⟨_, _, ⟨T12, L12, k12, n12⟩, -, X12, ⟨Lc12, hQ12, l12, y12, z12⟩, st12⟩ := Jvm.LawKit.callS X4 hx (y := (⟨"java/lang/StringUTF16", "toBytes", "([CII)[B"⟩ : MethodName)) hown (mvT hZ (ow hw 58 rfl)) (mvT hZ (ow hw 59 rfl)) (mvT hZ (ow hw 18 rfl)) (mvT hZ (ow hw 60 rfl)) (by decide) (backOf (W := 0) (rmToB3 l Z a0 hw [] va kv c0 c1 c2 T4.heap n0 F8 F6 F7 U0 U1 U2) hZ (ow hw 60 rfl) (ow hw 18 rfl) (by decide) (by decide)) (g := (mkF m 23 #[rv va, iv 0, iv 3, rv da, iv 0, un] [(.int 3), (.int 0), (.ref va)])) rfl (by rw [hml]; rfl) (argsL := [(.ref va), (.int 0), (.int 3)]) (rest := []) (lenOf pd_131 rfl) rfl (by show 2 * 0 + _ ≤ _; exact Nat.le_of_eq rfl) (hb hby d4_23) (fun _ _ => ⟨rfl, rfl, (by decide : 1 + 1 ≤ _), (by decide : 3 + 6 ≤ _)⟩)
    dsimp only [Pt.U, Pt.locs, Pt.cells, Pt.slots] at X12 l12 y12 z12 st12 hQ12
    subst l12 y12 z12
    obtain ⟨tb, kt, rfl, N12q, K12, Q12_0, Q12_1⟩ := hQ12
    have N12 := Fr.app N4 N12q
    refine Go.by st12 ?_
    show Go _ _ _ _ T12 (mkF m 26 #[rv va, iv 0, iv 3, rv da, iv 0, un] [(.ref tb)])
    have ge_tb : n0 ≤ tb := Nat.le_trans F8 Q12_1
    have sz_tb : h0.size ≤ tb := Nat.le_trans F10.1 Q12_1
    have ne_da_tb : da ≠ tb := Nat.ne_of_lt (Nat.lt_of_lt_of_le Q4_0.lt Q12_1)
    have ne_va_tb : va ≠ tb := Nat.ne_of_lt (Nat.lt_of_lt_of_le F7.lt Q12_1)
    refine Go.astore2 28 X12 hx (L' := #[rv va, iv 0, iv 3, rv da, iv 0, rv tb]) (hb hby d4_26) rfl rfl rfl ?_
    refine Go.aload2 30 X12 hx (hb hby d4_28) rfl rfl rfl ?_
    refine Go.iload2 32 X12 hx (hb hby d4_30) rfl rfl ?_
    have F13 : Old Z n0 T12.heap := F6.keep K12 all0
    have F14 : n0 ≤ T12.heap.size := Nat.le_trans F8 K12.1
    obtain ⟨_, _, ⟨T15, L15, k15, n15⟩, -, X15, ⟨Lc15, hQ15, l15, y15, z15⟩, st15⟩ := Jvm.LawKit.callS X12 hx (y := (⟨"java/lang/StringUTF16", "getChar", "([BI)C"⟩ : MethodName)) hown (mvT hZ (ow hw 74 rfl)) (mvT hZ (ow hw 75 rfl)) (mvT hZ (ow hw 18 rfl)) (mvT hZ (ow hw 76 rfl)) (by decide) (backOf (W := 0) (rmGetC3_0 l Z a0 hw [] tb kt c0 (0 : Int32) (0 : Int32) (own_lo c1) (own_hi c1) (own_lo c2) (own_hi c2) T12.heap n0 F14 F13 Q12_0 hn0 U0 U1 U2) hZ (ow hw 76 rfl) (ow hw 18 rfl) (by decide) (by decide)) (g := (mkF m 32 #[rv va, iv 0, iv 3, rv da, iv 0, rv tb] [(.int 0), (.ref tb)])) rfl (by rw [hml]; rfl) (argsL := [(.ref tb), (.int 0)]) (rest := []) (lenOf pd_136 rfl) rfl (by show 2 * 0 + _ ≤ _; exact Nat.le_of_eq rfl) (hb hby d4_32) (fun _ _ => ⟨rfl, rfl, (by decide : 2 + 0 ≤ _), (by decide : 9 + 0 ≤ _)⟩)
    dsimp only [Pt.U, Pt.locs, Pt.cells, Pt.slots] at X15 l15 y15 z15 st15 hQ15
    subst l15 y15 z15
    obtain ⟨rfl, N15q, e15⟩ := hQ15
    have N15 := Fr.app N12 N15q
    refine Go.by st15 ?_
    show Go _ _ _ _ T15 (mkF m 35 #[rv va, iv 0, iv 3, rv da, iv 0, rv tb] [(.int c0)])
    refine Go.sipush 38 X15 hx (255 : Int32) (hb hby d4_35) (by decide) rfl ?_
    refine Go.icmpY 54 X15 hx (hb hby d4_38) (XT.ii_gt_t hg) (by decide) (by decide) ?_
    refine Go.aload2 56 X15 hx (hb hby d4_54) rfl rfl rfl ?_
    have F16 : Keep h0 T12.heap [] := F10.trans K12 all0
    exact Go.retA X15 hx Bd.notSynchronized Bd.returns rfl rfl (hb hby d4_56) (by rw [e15]; exact ⟨tb, kt, [(.int (own_lo c0)), (.int (own_hi c0)), (.int (own_lo c1)), (.int (own_hi c1)), (.int (own_lo c2)), (.int (own_hi c2))], (6 : Int32), rfl, N15, F16, Q12_0, sz_tb, Or.inr rfl⟩) (by decide) (by decide)
  · show Go _ _ _ _ T4 (mkF m 12 #[rv va, iv 0, iv 3, rv da, un, un] [(.int 1)])
    refine Go.istore2 14 X4 hx (L' := #[rv va, iv 0, iv 3, rv da, iv 1, un]) (hb hby d4_12) rfl rfl ?_
    refine Go.iload2 16 X4 hx (hb hby d4_14) rfl rfl ?_
    refine Go.iload1 17 X4 hx (hb hby d4_16) rfl rfl ?_
    refine Go.icmpN 20 X4 hx (hb hby d4_17) (XT.ii_eq_f (by decide)) rfl ?_
    refine Go.aload1 21 X4 hx (hb hby d4_20) rfl rfl rfl ?_
    refine Go.iload1 22 X4 hx (hb hby d4_21) rfl rfl ?_
    refine Go.iload1 23 X4 hx (hb hby d4_22) rfl rfl ?_
    have F17 : Old Z n0 h1 := O0.ext E1
    have F18 : Old Z n0 T4.heap := F17.keep K4 (allS ge_da all0)
    have F19 : Arv Z T4.heap va kv .char (3 : Int32) [(.int c0), (.int c1), (.int c2)] (.int 0) := F2.keep K4 (ninS ne_va_da nin0)
    have F20 : n0 ≤ T4.heap.size := Nat.le_trans F3 K4.1
    have F21 : Keep h0 h1 [] := (Keep.refl h0 []).ext E1
    have F22 : Keep h0 T4.heap [] := F21.trans K4 (allS (Or.inr sz_da) all0)
    have F23 : Exa Z T4.heap da "[B" := Ea1.keep K4
    obtain ⟨_, _, ⟨T24, L24, k24, n24⟩, -, X24, ⟨Lc24, hQ24, l24, y24, z24⟩, st24⟩ := Jvm.LawKit.callS X4 hx (y := (⟨"java/lang/StringUTF16", "toBytes", "([CII)[B"⟩ : MethodName)) hown (mvT hZ (ow hw 58 rfl)) (mvT hZ (ow hw 59 rfl)) (mvT hZ (ow hw 18 rfl)) (mvT hZ (ow hw 60 rfl)) (by decide) (backOf (W := 0) (rmToB3 l Z a0 hw [] va kv c0 c1 c2 T4.heap n0 F20 F18 F19 U0 U1 U2) hZ (ow hw 60 rfl) (ow hw 18 rfl) (by decide) (by decide)) (g := (mkF m 23 #[rv va, iv 0, iv 3, rv da, iv 1, un] [(.int 3), (.int 0), (.ref va)])) rfl (by rw [hml]; rfl) (argsL := [(.ref va), (.int 0), (.int 3)]) (rest := []) (lenOf pd_131 rfl) rfl (by show 2 * 0 + _ ≤ _; exact Nat.le_of_eq rfl) (hb hby d4_23) (fun _ _ => ⟨rfl, rfl, (by decide : 1 + 1 ≤ _), (by decide : 3 + 6 ≤ _)⟩)
    dsimp only [Pt.U, Pt.locs, Pt.cells, Pt.slots] at X24 l24 y24 z24 st24 hQ24
    subst l24 y24 z24
    obtain ⟨tb, kt, rfl, N24q, K24, Q24_0, Q24_1⟩ := hQ24
    have N24 := Fr.app N4 N24q
    refine Go.by st24 ?_
    show Go _ _ _ _ T24 (mkF m 26 #[rv va, iv 0, iv 3, rv da, iv 1, un] [(.ref tb)])
    have ge_tb : n0 ≤ tb := Nat.le_trans F20 Q24_1
    have sz_tb : h0.size ≤ tb := Nat.le_trans F22.1 Q24_1
    have ne_da_tb : da ≠ tb := Nat.ne_of_lt (Nat.lt_of_lt_of_le Q4_0.lt Q24_1)
    have ne_va_tb : va ≠ tb := Nat.ne_of_lt (Nat.lt_of_lt_of_le F19.lt Q24_1)
    refine Go.astore2 28 X24 hx (L' := #[rv va, iv 0, iv 3, rv da, iv 1, rv tb]) (hb hby d4_26) rfl rfl rfl ?_
    refine Go.aload2 30 X24 hx (hb hby d4_28) rfl rfl rfl ?_
    refine Go.iload2 32 X24 hx (hb hby d4_30) rfl rfl ?_
    have F25 : Old Z n0 T24.heap := F18.keep K24 all0
    have F26 : n0 ≤ T24.heap.size := Nat.le_trans F20 K24.1
    obtain ⟨_, _, ⟨T27, L27, k27, n27⟩, -, X27, ⟨Lc27, hQ27, l27, y27, z27⟩, st27⟩ := Jvm.LawKit.callS X24 hx (y := (⟨"java/lang/StringUTF16", "getChar", "([BI)C"⟩ : MethodName)) hown (mvT hZ (ow hw 74 rfl)) (mvT hZ (ow hw 75 rfl)) (mvT hZ (ow hw 18 rfl)) (mvT hZ (ow hw 76 rfl)) (by decide) (backOf (W := 0) (rmGetC3_1 l Z a0 hw [] tb kt c1 (own_lo c0) (own_hi c0) (0 : Int32) (0 : Int32) (own_lo c2) (own_hi c2) T24.heap n0 F26 F25 Q24_0 hn1 U0 U1 U2) hZ (ow hw 76 rfl) (ow hw 18 rfl) (by decide) (by decide)) (g := (mkF m 32 #[rv va, iv 0, iv 3, rv da, iv 1, rv tb] [(.int 1), (.ref tb)])) rfl (by rw [hml]; rfl) (argsL := [(.ref tb), (.int 1)]) (rest := []) (lenOf pd_136 rfl) rfl (by show 2 * 0 + _ ≤ _; exact Nat.le_of_eq rfl) (hb hby d4_32) (fun _ _ => ⟨rfl, rfl, (by decide : 2 + 0 ≤ _), (by decide : 9 + 0 ≤ _)⟩)
    dsimp only [Pt.U, Pt.locs, Pt.cells, Pt.slots] at X27 l27 y27 z27 st27 hQ27
    subst l27 y27 z27
    obtain ⟨rfl, N27q, e27⟩ := hQ27
    have N27 := Fr.app N24 N27q
    refine Go.by st27 ?_
    show Go _ _ _ _ T27 (mkF m 35 #[rv va, iv 0, iv 3, rv da, iv 1, rv tb] [(.int c1)])
    refine Go.sipush 38 X27 hx (255 : Int32) (hb hby d4_35) (by decide) rfl ?_
    refine Go.icmpY 54 X27 hx (hb hby d4_38) (XT.ii_gt_t hg) (by decide) (by decide) ?_
    refine Go.aload2 56 X27 hx (hb hby d4_54) rfl rfl rfl ?_
    have F28 : Keep h0 T24.heap [] := F22.trans K24 all0
    exact Go.retA X27 hx Bd.notSynchronized Bd.returns rfl rfl (hb hby d4_56) (by rw [e27]; exact ⟨tb, kt, [(.int (own_lo c0)), (.int (own_hi c0)), (.int (own_lo c1)), (.int (own_hi c1)), (.int (own_lo c2)), (.int (own_hi c2))], (6 : Int32), rfl, N27, F28, Q24_0, sz_tb, Or.inr rfl⟩) (by decide) (by decide)
  · show Go _ _ _ _ T4 (mkF m 12 #[rv va, iv 0, iv 3, rv da, un, un] [(.int 2)])
    refine Go.istore2 14 X4 hx (L' := #[rv va, iv 0, iv 3, rv da, iv 2, un]) (hb hby d4_12) rfl rfl ?_
    refine Go.iload2 16 X4 hx (hb hby d4_14) rfl rfl ?_
    refine Go.iload1 17 X4 hx (hb hby d4_16) rfl rfl ?_
    refine Go.icmpN 20 X4 hx (hb hby d4_17) (XT.ii_eq_f (by decide)) rfl ?_
    refine Go.aload1 21 X4 hx (hb hby d4_20) rfl rfl rfl ?_
    refine Go.iload1 22 X4 hx (hb hby d4_21) rfl rfl ?_
    refine Go.iload1 23 X4 hx (hb hby d4_22) rfl rfl ?_
    have F29 : Old Z n0 h1 := O0.ext E1
    have F30 : Old Z n0 T4.heap := F29.keep K4 (allS ge_da all0)
    have F31 : Arv Z T4.heap va kv .char (3 : Int32) [(.int c0), (.int c1), (.int c2)] (.int 0) := F2.keep K4 (ninS ne_va_da nin0)
    have F32 : n0 ≤ T4.heap.size := Nat.le_trans F3 K4.1
    have F33 : Keep h0 h1 [] := (Keep.refl h0 []).ext E1
    have F34 : Keep h0 T4.heap [] := F33.trans K4 (allS (Or.inr sz_da) all0)
    have F35 : Exa Z T4.heap da "[B" := Ea1.keep K4
    obtain ⟨_, _, ⟨T36, L36, k36, n36⟩, -, X36, ⟨Lc36, hQ36, l36, y36, z36⟩, st36⟩ := Jvm.LawKit.callS X4 hx (y := (⟨"java/lang/StringUTF16", "toBytes", "([CII)[B"⟩ : MethodName)) hown (mvT hZ (ow hw 58 rfl)) (mvT hZ (ow hw 59 rfl)) (mvT hZ (ow hw 18 rfl)) (mvT hZ (ow hw 60 rfl)) (by decide) (backOf (W := 0) (rmToB3 l Z a0 hw [] va kv c0 c1 c2 T4.heap n0 F32 F30 F31 U0 U1 U2) hZ (ow hw 60 rfl) (ow hw 18 rfl) (by decide) (by decide)) (g := (mkF m 23 #[rv va, iv 0, iv 3, rv da, iv 2, un] [(.int 3), (.int 0), (.ref va)])) rfl (by rw [hml]; rfl) (argsL := [(.ref va), (.int 0), (.int 3)]) (rest := []) (lenOf pd_131 rfl) rfl (by show 2 * 0 + _ ≤ _; exact Nat.le_of_eq rfl) (hb hby d4_23) (fun _ _ => ⟨rfl, rfl, (by decide : 1 + 1 ≤ _), (by decide : 3 + 6 ≤ _)⟩)
    dsimp only [Pt.U, Pt.locs, Pt.cells, Pt.slots] at X36 l36 y36 z36 st36 hQ36
    subst l36 y36 z36
    obtain ⟨tb, kt, rfl, N36q, K36, Q36_0, Q36_1⟩ := hQ36
    have N36 := Fr.app N4 N36q
    refine Go.by st36 ?_
    show Go _ _ _ _ T36 (mkF m 26 #[rv va, iv 0, iv 3, rv da, iv 2, un] [(.ref tb)])
    have ge_tb : n0 ≤ tb := Nat.le_trans F32 Q36_1
    have sz_tb : h0.size ≤ tb := Nat.le_trans F34.1 Q36_1
    have ne_da_tb : da ≠ tb := Nat.ne_of_lt (Nat.lt_of_lt_of_le Q4_0.lt Q36_1)
    have ne_va_tb : va ≠ tb := Nat.ne_of_lt (Nat.lt_of_lt_of_le F31.lt Q36_1)
    refine Go.astore2 28 X36 hx (L' := #[rv va, iv 0, iv 3, rv da, iv 2, rv tb]) (hb hby d4_26) rfl rfl rfl ?_
    refine Go.aload2 30 X36 hx (hb hby d4_28) rfl rfl rfl ?_
    refine Go.iload2 32 X36 hx (hb hby d4_30) rfl rfl ?_
    have F37 : Old Z n0 T36.heap := F30.keep K36 all0
    have F38 : n0 ≤ T36.heap.size := Nat.le_trans F32 K36.1
    obtain ⟨_, _, ⟨T39, L39, k39, n39⟩, -, X39, ⟨Lc39, hQ39, l39, y39, z39⟩, st39⟩ := Jvm.LawKit.callS X36 hx (y := (⟨"java/lang/StringUTF16", "getChar", "([BI)C"⟩ : MethodName)) hown (mvT hZ (ow hw 74 rfl)) (mvT hZ (ow hw 75 rfl)) (mvT hZ (ow hw 18 rfl)) (mvT hZ (ow hw 76 rfl)) (by decide) (backOf (W := 0) (rmGetC3_2 l Z a0 hw [] tb kt c2 (own_lo c0) (own_hi c0) (own_lo c1) (own_hi c1) (0 : Int32) (0 : Int32) T36.heap n0 F38 F37 Q36_0 hn2 U0 U1 U2) hZ (ow hw 76 rfl) (ow hw 18 rfl) (by decide) (by decide)) (g := (mkF m 32 #[rv va, iv 0, iv 3, rv da, iv 2, rv tb] [(.int 2), (.ref tb)])) rfl (by rw [hml]; rfl) (argsL := [(.ref tb), (.int 2)]) (rest := []) (lenOf pd_136 rfl) rfl (by show 2 * 0 + _ ≤ _; exact Nat.le_of_eq rfl) (hb hby d4_32) (fun _ _ => ⟨rfl, rfl, (by decide : 2 + 0 ≤ _), (by decide : 9 + 0 ≤ _)⟩)
    dsimp only [Pt.U, Pt.locs, Pt.cells, Pt.slots] at X39 l39 y39 z39 st39 hQ39
    subst l39 y39 z39
    obtain ⟨rfl, N39q, e39⟩ := hQ39
    have N39 := Fr.app N36 N39q
    refine Go.by st39 ?_
    show Go _ _ _ _ T39 (mkF m 35 #[rv va, iv 0, iv 3, rv da, iv 2, rv tb] [(.int c2)])
    refine Go.sipush 38 X39 hx (255 : Int32) (hb hby d4_35) (by decide) rfl ?_
    refine Go.icmpY 54 X39 hx (hb hby d4_38) (XT.ii_gt_t hg) (by decide) (by decide) ?_
    refine Go.aload2 56 X39 hx (hb hby d4_54) rfl rfl rfl ?_
    have F40 : Keep h0 T36.heap [] := F34.trans K36 all0
    exact Go.retA X39 hx Bd.notSynchronized Bd.returns rfl rfl (hb hby d4_56) (by rw [e39]; exact ⟨tb, kt, [(.int (own_lo c0)), (.int (own_hi c0)), (.int (own_lo c1)), (.int (own_hi c1)), (.int (own_lo c2)), (.int (own_hi c2))], (6 : Int32), rfl, N39, F40, Q36_0, sz_tb, Or.inr rfl⟩) (by decide) (by decide)
  · show Go _ _ _ _ T4 (mkF m 12 #[rv va, iv 0, iv 3, rv da, un, un] [(.int 3)])
    refine Go.istore2 14 X4 hx (L' := #[rv va, iv 0, iv 3, rv da, iv 3, un]) (hb hby d4_12) rfl rfl ?_
    refine Go.iload2 16 X4 hx (hb hby d4_14) rfl rfl ?_
    refine Go.iload1 17 X4 hx (hb hby d4_16) rfl rfl ?_
    refine Go.icmpY 57 X4 hx (hb hby d4_17) (XT.ii_eq_t rfl) (by decide) (by decide) ?_
    refine Go.aload1 58 X4 hx (hb hby d4_57) rfl rfl rfl ?_
    have F41 : Keep h0 h1 [] := (Keep.refl h0 []).ext E1
    have F42 : Keep h0 T4.heap [] := F41.trans K4 (allS (Or.inr sz_da) all0)
    exact Go.retA X4 hx Bd.notSynchronized Bd.returns rfl rfl (hb hby d4_58) ⟨da, k1, ds, (3 : Int32), rfl, N4, F42, Q4_0, sz_da, Or.inl rfl⟩ (by decide) (by decide)
def Q_rmCoder3_0 (Z : State) (da : Addr) (kd : ClassId) (vs : List Value) (h0 : Heap) (n0 : Nat) (v : Option Value) (h : Heap) (L : List Loc) : Prop := v = some (.int 0) ∧ Fr n0 L ∧ h = h0
set_option maxRecDepth 65536 in
set_option maxHeartbeats 40000000 in
theorem rmCoder3_0 (l : Launch) (Z : State) (a0 : Array Value) (hw : ∀ d ∈ tables_1, d.before a0 Z = true) (ws : List Jvm.Cond) (da : Addr) (kd : ClassId) (vs : List Value) (h0 : Heap) (n0 : Nat) (Z0 : n0 ≤ h0.size) (V_da : Arv Z h0 da kd .byte (3 : Int32) vs (.int 0)) :
    MetFree l (⟨"java/lang/StringUTF16", "coderFromArrayLen", "([BI)B"⟩ : MethodName) (head1 (Jvm.Cond.code (⟨"java/lang/StringUTF16", "coderFromArrayLen", "([BI)B"⟩ : MethodName) jdk_52_method_15_code 2 (some .byte) :: ws) ({ frames := 0, cells := 0, slots := 0, locals := 0 } : Room)) (fun as' U => as' = #[(.ref da), (.int 3)] ∧ Z.Warmed39 U.vm ∧ U.heap = h0) (fun _ _ _ _ _ => True) (fun _ U o U' => ∃ v L, o = .returned v ∧ Q_rmCoder3_0 Z da kd vs h0 n0 v U'.heap L ∧ FrameEnd U o U' L ({ frames := 0, cells := 0, slots := 0, locals := 0 } : Room).cells ({ frames := 0, cells := 0, slots := 0, locals := 0 } : Room).slots) := by
  refine MetFree.of_bodySF (plainFor_of_name pn_1) hisR ?_
  intro p e s m args below meth c s₁ Bd hml0 hP hK
  obtain ⟨rfl, hZ, hh⟩ := hP
  have hx := Bd.exec
  have hby := Bd.bytes
  have hml : c.maxLocals = 2 := hml0
  have hown : s.vm.findClass "java/lang/StringUTF16" = some m.cls := findClass_of_methodNamed Bd.named
  have hnm := (name_of_methodNamed Bd.named Bd.method).1
  have X0 : Stand p l e ({ frames := 0, cells := 0, slots := 0, locals := 0 } : Room) s m #[(.ref da), (.int 3)] below meth c s₁ [] 0 0 := Stand.of_body Bd
  have e0 : s₁.heap = h0 := by rw [← hh, Bd.state]; rfl
  have N0 := Fr.nil n0
  refine Go.enter (F := EndN s (Q_rmCoder3_0 Z da kd vs h0 n0) ({ frames := 0, cells := 0, slots := 0, locals := 0 } : Room).cells ({ frames := 0, cells := 0, slots := 0, locals := 0 } : Room).slots) (ef_40 m da (3 : Int32)) ?_
  show Go _ _ _ _ s₁ (mkF m 0 #[rv da, iv 3] [])
  refine Go.iload1 1 X0 hx (hb hby d6_0) rfl rfl ?_
  refine Go.aload1 2 X0 hx (hb hby d6_1) rfl rfl rfl ?_
  obtain ⟨cl1, Ar1, -, S1, M1, -, -⟩ := id V_da
  refine Go.by (fun _ gk => X0.arraylength hx (by rw [e0]; exact Ar1.1) (State.isArrayOf_alike hZ.alike Ar1.2.1) (g := (mkF m 2 #[rv da, iv 3] [(.ref da), (.int 3)])) rfl rfl (hb hby d6_2) _ gk) ?_
  rw [len_of S1 M1]
  show Go _ _ _ _ s₁ (mkF m 3 #[rv da, iv 3] [(.int 3), (.int 3)])
  refine Go.isub 4 X0 hx (hb hby d6_3) rfl ?_
  rw [(by decide : ((3 : Int32) - (3 : Int32)) = (0 : Int32))]
  refine Go.bipush 6 X0 hx (31 : Int32) (hb hby d6_4) (by decide) rfl ?_
  refine Go.iushr 7 X0 hx (hb hby d6_6) rfl ?_
  rw [(by decide : (XT.ushr (0 : Int32) (31 : Int32)) = (0 : Int32))]
  refine Go.i2b 8 X0 hx (hb hby d6_7) rfl ?_
  rw [(by decide : ((0 : Int32).toInt8.toInt32) = (0 : Int32))]
  exact Go.retI X0 hx Bd.notSynchronized Bd.returns rfl (by simp) (hb hby d6_8) (by rw [e0]; exact ⟨rfl, N0, rfl⟩) (by decide) (by decide)
def Q_rmCoder3_1 (Z : State) (da : Addr) (kd : ClassId) (vs : List Value) (h0 : Heap) (n0 : Nat) (v : Option Value) (h : Heap) (L : List Loc) : Prop := v = some (.int 1) ∧ Fr n0 L ∧ h = h0
set_option maxRecDepth 65536 in
set_option maxHeartbeats 40000000 in
theorem rmCoder3_1 (l : Launch) (Z : State) (a0 : Array Value) (hw : ∀ d ∈ tables_1, d.before a0 Z = true) (ws : List Jvm.Cond) (da : Addr) (kd : ClassId) (vs : List Value) (h0 : Heap) (n0 : Nat) (Z0 : n0 ≤ h0.size) (V_da : Arv Z h0 da kd .byte (6 : Int32) vs (.int 0)) :
    MetFree l (⟨"java/lang/StringUTF16", "coderFromArrayLen", "([BI)B"⟩ : MethodName) (head1 (Jvm.Cond.code (⟨"java/lang/StringUTF16", "coderFromArrayLen", "([BI)B"⟩ : MethodName) jdk_52_method_15_code 2 (some .byte) :: ws) ({ frames := 0, cells := 0, slots := 0, locals := 0 } : Room)) (fun as' U => as' = #[(.ref da), (.int 3)] ∧ Z.Warmed39 U.vm ∧ U.heap = h0) (fun _ _ _ _ _ => True) (fun _ U o U' => ∃ v L, o = .returned v ∧ Q_rmCoder3_1 Z da kd vs h0 n0 v U'.heap L ∧ FrameEnd U o U' L ({ frames := 0, cells := 0, slots := 0, locals := 0 } : Room).cells ({ frames := 0, cells := 0, slots := 0, locals := 0 } : Room).slots) := by
  refine MetFree.of_bodySF (plainFor_of_name pn_1) hisR ?_
  intro p e s m args below meth c s₁ Bd hml0 hP hK
  obtain ⟨rfl, hZ, hh⟩ := hP
  have hx := Bd.exec
  have hby := Bd.bytes
  have hml : c.maxLocals = 2 := hml0
  have hown : s.vm.findClass "java/lang/StringUTF16" = some m.cls := findClass_of_methodNamed Bd.named
  have hnm := (name_of_methodNamed Bd.named Bd.method).1
  have X0 : Stand p l e ({ frames := 0, cells := 0, slots := 0, locals := 0 } : Room) s m #[(.ref da), (.int 3)] below meth c s₁ [] 0 0 := Stand.of_body Bd
  have e0 : s₁.heap = h0 := by rw [← hh, Bd.state]; rfl
  have N0 := Fr.nil n0
  refine Go.enter (F := EndN s (Q_rmCoder3_1 Z da kd vs h0 n0) ({ frames := 0, cells := 0, slots := 0, locals := 0 } : Room).cells ({ frames := 0, cells := 0, slots := 0, locals := 0 } : Room).slots) (ef_40 m da (3 : Int32)) ?_
  show Go _ _ _ _ s₁ (mkF m 0 #[rv da, iv 3] [])
  refine Go.iload1 1 X0 hx (hb hby d6_0) rfl rfl ?_
  refine Go.aload1 2 X0 hx (hb hby d6_1) rfl rfl rfl ?_
  obtain ⟨cl1, Ar1, -, S1, M1, -, -⟩ := id V_da
  refine Go.by (fun _ gk => X0.arraylength hx (by rw [e0]; exact Ar1.1) (State.isArrayOf_alike hZ.alike Ar1.2.1) (g := (mkF m 2 #[rv da, iv 3] [(.ref da), (.int 3)])) rfl rfl (hb hby d6_2) _ gk) ?_
  rw [len_of S1 M1]
  show Go _ _ _ _ s₁ (mkF m 3 #[rv da, iv 3] [(.int 6), (.int 3)])
  refine Go.isub 4 X0 hx (hb hby d6_3) rfl ?_
  rw [(by decide : ((3 : Int32) - (6 : Int32)) = (-3 : Int32))]
  refine Go.bipush 6 X0 hx (31 : Int32) (hb hby d6_4) (by decide) rfl ?_
  refine Go.iushr 7 X0 hx (hb hby d6_6) rfl ?_
  rw [(by decide : (XT.ushr (-3 : Int32) (31 : Int32)) = (1 : Int32))]
  refine Go.i2b 8 X0 hx (hb hby d6_7) rfl ?_
  rw [(by decide : ((1 : Int32).toInt8.toInt32) = (1 : Int32))]
  exact Go.retI X0 hx Bd.notSynchronized Bd.returns rfl (by simp) (hb hby d6_8) (by rw [e0]; exact ⟨rfl, N0, rfl⟩) (by decide) (by decide)
def Q_rmS4_3 (Z : State) (a : Addr) (va : Addr) (kv : ClassId) (c0 : Int32) (c1 : Int32) (c2 : Int32) (cs : Int32) (h0 : Heap) (n0 : Nat) (v : Option Value) (h : Heap) (L : List Loc) : Prop := ∃ b : Addr, ∃ kb : ClassId, ∃ vs : List Value, ∃ ln : Int32, ∃ cd : Int32, v = none ∧ Fr n0 L ∧ Keep h0 h [a] ∧ Exa Z h a "java/lang/String" ∧ Fld Z h a "java/lang/String" "coder" "B" (.int cd) ∧ Fld Z h a "java/lang/String" "value" "[B" (.ref b) ∧ Arv Z h b kb .byte ln vs (.int 0) ∧ h0.size ≤ b ∧ ((ln = 3 ∧ cd = 0) ∨ (ln = 6 ∧ cd = 1))
set_option maxRecDepth 65536 in
set_option maxHeartbeats 40000000 in
theorem rmS4_3 (l : Launch) (Z : State) (a0 : Array Value) (hw : ∀ d ∈ tables_1, d.before a0 Z = true) (ws : List Jvm.Cond) (a : Addr) (va : Addr) (kv : ClassId) (c0 : Int32) (c1 : Int32) (c2 : Int32) (cs : Int32) (h0 : Heap) (n0 : Nat) (Z0 : n0 ≤ h0.size) (O0 : Old Z n0 h0) (E_a : Exa Z h0 a "java/lang/String") (F_a_value : Fld Z h0 a "java/lang/String" "value" "[B" .null) (F_a_coder : Fld Z h0 a "java/lang/String" "coder" "B" (.int 0)) (g_a : n0 ≤ a) (V_va : Arv Z h0 va kv .char (3 : Int32) ([(.int c0), (.int c1), (.int c2)]) (.int 0)) (hn0 : (nar .char c0 = c0)) (hn1 : (nar .char c1 = c1)) (hn2 : (nar .char c2 = c2)) (S_cs : Sta Z Z.heap "java/lang/String" "COMPACT_STRINGS" "Z" (.int cs)) (n_cs : ¬ cs = 0) (U0 : Sta Z Z.heap "java/lang/StringUTF16" "$assertionsDisabled" "Z" (.int 1)) (U1 : Sta Z Z.heap "java/lang/StringUTF16" "HI_BYTE_SHIFT" "I" (.int 0)) (U2 : Sta Z Z.heap "java/lang/StringUTF16" "LO_BYTE_SHIFT" "I" (.int 8)) :
    MetFree l (⟨"java/lang/String", "<init>", "([CIILjava/lang/Void;)V"⟩ : MethodName) (head1 (Jvm.Cond.code (⟨"java/lang/String", "<init>", "([CIILjava/lang/Void;)V"⟩ : MethodName) jdk_42_method_149_code 6 none :: ws) ({ frames := 4, cells := 2, slots := 9, locals := 57 } : Room)) (fun as' U => as' = #[(.ref a), (.ref va), (.int 0), (.int 3), .null] ∧ Z.Warmed39 U.vm ∧ U.heap = h0) (fun _ _ _ _ _ => True) (fun _ U o U' => ∃ v L, o = .returned v ∧ Q_rmS4_3 Z a va kv c0 c1 c2 cs h0 n0 v U'.heap L ∧ FrameEnd U o U' L ({ frames := 4, cells := 2, slots := 9, locals := 57 } : Room).cells ({ frames := 4, cells := 2, slots := 9, locals := 57 } : Room).slots) := by
  refine MetFree.of_bodySF (plainFor_of_name pn_152) hisR ?_
  intro p e s m args below meth c s₁ Bd hml0 hP hK
  obtain ⟨rfl, hZ, hh⟩ := hP
  have hx := Bd.exec
  have hby := Bd.bytes
  have hml : c.maxLocals = 6 := hml0
  have hown : s.vm.findClass "java/lang/String" = some m.cls := findClass_of_methodNamed Bd.named
  have hnm := (name_of_methodNamed Bd.named Bd.method).1
  have X0 : Stand p l e ({ frames := 4, cells := 2, slots := 9, locals := 57 } : Room) s m #[(.ref a), (.ref va), (.int 0), (.int 3), .null] below meth c s₁ [] 0 0 := Stand.of_body Bd
  have e0 : s₁.heap = h0 := by rw [← hh, Bd.state]; rfl
  have N0 := Fr.nil n0
  refine Go.enter (F := EndN s (Q_rmS4_3 Z a va kv c0 c1 c2 cs h0 n0) ({ frames := 4, cells := 2, slots := 9, locals := 57 } : Room).cells ({ frames := 4, cells := 2, slots := 9, locals := 57 } : Room).slots) (ef_153 m a va (0 : Int32) (3 : Int32)) ?_
  show Go _ _ _ _ s₁ (mkF m 0 #[rv a, rv va, iv 0, iv 3, .val .null, un] [])
  refine Go.aload1 1 X0 hx (hb hby d2_0) rfl rfl rfl ?_
  obtain ⟨T1, X1, e1, st1⟩ := initO X0 hx hZ hown (ow hw 12 rfl) (ow hw 13 rfl) (ow hw 14 rfl) e0 (g := (mkF m 1 #[rv a, rv va, iv 0, iv 3, .val .null, un] [(.ref a)])) rfl (by rw [hml]; rfl) rfl (hb hby d2_1) (by decide) (W := 0) (by show 2 * 0 + _ ≤ _; exact Nat.le_of_eq rfl) (by decide)
  refine Go.by st1 ?_
  show Go _ _ _ _ T1 (mkF m 4 #[rv a, rv va, iv 0, iv 3, .val .null, un] [])
  refine Go.iload1 5 X1 hx (hb hby d2_4) rfl rfl ?_
  refine Go.ifY 27 X1 hx (hb hby d2_5) (XT.i0_ne_t (by decide)) (by decide) (by decide) ?_
  have F2 : Sta Z h0 "java/lang/String" "COMPACT_STRINGS" "Z" (.int cs) := S_cs.ext O0.2
  obtain ⟨T3, X3, e3, st3⟩ := getS2 X1 hx hZ hown (host := "") (Or.inl (ow hw 15 rfl)) Via.refl e1 F2 (g := (mkF m 27 #[rv a, rv va, iv 0, iv 3, .val .null, un] [])) rfl (hb hby d2_27)
  refine Go.by st3 ?_
  show Go _ _ _ _ T3 (mkF m 30 #[rv a, rv va, iv 0, iv 3, .val .null, un] [(.int cs)])
  refine Go.ifN 33 X3 hx (hb hby d2_30) (XT.i0_eq_f n_cs) rfl ?_
  refine Go.aload1 34 X3 hx (hb hby d2_33) rfl rfl rfl ?_
  refine Go.iload1 35 X3 hx (hb hby d2_34) rfl rfl ?_
  refine Go.iload1 36 X3 hx (hb hby d2_35) rfl rfl ?_
  obtain ⟨_, _, ⟨T4, L4, k4, n4⟩, -, X4, ⟨Lc4, hQ4, l4, y4, z4⟩, st4⟩ := Jvm.LawKit.callS X3 hx (y := (⟨"java/lang/StringUTF16", "compress", "([CII)[B"⟩ : MethodName)) hown (mvT hZ (ow hw 16 rfl)) (mvT hZ (ow hw 17 rfl)) (mvT hZ (ow hw 18 rfl)) (mvT hZ (ow hw 19 rfl)) (by decide) (backOf (W := 0) (rmC3_3 l Z a0 hw [] va kv c0 c1 c2 h0 n0 Z0 O0 V_va hn0 hn1 hn2 U0 U1 U2) hZ (ow hw 19 rfl) (ow hw 18 rfl) (by decide) (by decide)) (g := (mkF m 36 #[rv a, rv va, iv 0, iv 3, .val .null, un] [(.int 3), (.int 0), (.ref va)])) rfl (by rw [hml]; rfl) (argsL := [(.ref va), (.int 0), (.int 3)]) (rest := []) (lenOf pd_131 rfl) rfl (by show 2 * 0 + _ ≤ _; exact Nat.le_of_eq rfl) (hb hby d2_36) (fun _ _ => ⟨rfl, e3, (by decide : 0 + 2 ≤ _), (by decide : 0 + 9 ≤ _)⟩)
  dsimp only [Pt.U, Pt.locs, Pt.cells, Pt.slots] at X4 l4 y4 z4 st4 hQ4
  subst l4 y4 z4
  obtain ⟨b, kb, vs, ln, rfl, N4q, K4, Q4_0, Q4_1, Q4_2⟩ := hQ4
  have N4 := Fr.app N0 N4q
  refine Go.by st4 ?_
  show Go _ _ _ _ T4 (mkF m 39 #[rv a, rv va, iv 0, iv 3, .val .null, un] [(.ref b)])
  have ge_b : n0 ≤ b := Nat.le_trans Z0 Q4_1
  have sz_b : h0.size ≤ b := Nat.le_trans (Keep.refl h0 [a]).1 Q4_1
  have ne_a_b : a ≠ b := Nat.ne_of_lt (Nat.lt_of_lt_of_le E_a.lt Q4_1)
  have ne_va_b : va ≠ b := Nat.ne_of_lt (Nat.lt_of_lt_of_le V_va.lt Q4_1)
  rcases Q4_2 with rfl | rfl
  · refine Go.astore2 41 X4 hx (L' := #[rv a, rv va, iv 0, iv 3, .val .null, rv b]) (hb hby d2_39) rfl rfl rfl ?_
    refine Go.aload1 42 X4 hx (hb hby d2_41) rfl rfl rfl ?_
    refine Go.aload2 44 X4 hx (hb hby d2_42) rfl rfl rfl ?_
    refine Go.iload1 45 X4 hx (hb hby d2_44) rfl rfl ?_
    have F5 : n0 ≤ T4.heap.size := Nat.le_trans Z0 K4.1
    obtain ⟨_, _, ⟨T6, L6, k6, n6⟩, -, X6, ⟨Lc6, hQ6, l6, y6, z6⟩, st6⟩ := Jvm.LawKit.callS X4 hx (y := (⟨"java/lang/StringUTF16", "coderFromArrayLen", "([BI)B"⟩ : MethodName)) hown (mvT hZ (ow hw 24 rfl)) (mvT hZ (ow hw 25 rfl)) (mvT hZ (ow hw 18 rfl)) (mvT hZ (ow hw 26 rfl)) (by decide) (backOf (W := 1) (rmCoder3_0 l Z a0 hw [] b kb vs T4.heap n0 F5 Q4_0) hZ (ow hw 26 rfl) (ow hw 18 rfl) (by decide) (by decide)) (g := (mkF m 45 #[rv a, rv va, iv 0, iv 3, .val .null, rv b] [(.int 3), (.ref b), (.ref a)])) rfl (by rw [hml]; rfl) (argsL := [(.ref b), (.int 3)]) (rest := [(.ref a)]) (lenOf pd_168 rfl) rfl (by show 2 * 0 + _ ≤ _; exact Nat.le_of_eq rfl) (hb hby d2_45) (fun _ _ => ⟨rfl, rfl, (by decide : 2 + 0 ≤ _), (by decide : 9 + 0 ≤ _)⟩)
    dsimp only [Pt.U, Pt.locs, Pt.cells, Pt.slots] at X6 l6 y6 z6 st6 hQ6
    subst l6 y6 z6
    obtain ⟨rfl, N6q, e6⟩ := hQ6
    have N6 := Fr.app N4 N6q
    refine Go.by st6 ?_
    show Go _ _ _ _ T6 (mkF m 48 #[rv a, rv va, iv 0, iv 3, .val .null, rv b] [(.int 0), (.ref a)])
    have F7 : Fld Z T4.heap a "java/lang/String" "coder" "B" (.int 0) := F_a_coder.keep K4 nin0
    have F8 : Exa Z T4.heap a "java/lang/String" := E_a.keep K4
    obtain ⟨T9, h9, X9, e9, W9, st9⟩ := putFN X6 hx hZ hown (ow hw 27 rfl) Via.refl e6 F7 F8 (Or.inr ⟨(ow hw 28 rfl), rfl, hnm⟩) (ow hw 3 rfl) (ty := .byte) (v' := (.int 0)) (by decide) rfl rfl (g := (mkF m 48 #[rv a, rv va, iv 0, iv 3, .val .null, rv b] [(.int 0), (.ref a)])) rfl rfl (hb hby d2_48)
    have N9 := Fr.snoc X9 N6 g_a
    have Fw9 : Fld Z h9 a "java/lang/String" "coder" "B" (.int 0) := F7.same W9
    refine Go.by st9 ?_
    show Go _ _ _ _ T9 (mkF m 51 #[rv a, rv va, iv 0, iv 3, .val .null, rv b] [])
    refine Go.aload1 52 X9 hx (hb hby d2_51) rfl rfl rfl ?_
    refine Go.aload2 54 X9 hx (hb hby d2_52) rfl rfl rfl ?_
    have F10 : Fld Z T4.heap a "java/lang/String" "value" "[B" .null := F_a_value.keep K4 nin0
    have F11 : Fld Z h9 a "java/lang/String" "value" "[B" .null := F10.other W9 (Or.inr (slot_ne (Or.inr (ow hw 30 rfl)) (Or.inr (ow hw 28 rfl)) (by decide) (t := (.array .byte)) (t' := .byte) (by decide) (by decide)))
    have F12 : Exa Z h9 a "java/lang/String" := F8.wr W9
    obtain ⟨T13, h13, X13, e13, W13, st13⟩ := putF X9 hx hZ hown (host := "") (Or.inl (ow hw 29 rfl)) Via.refl e9 F11 F12 (Or.inr ⟨(ow hw 30 rfl), rfl, hnm⟩) (ow hw 3 rfl) (ty := (.array .byte)) (by decide) rfl rfl (g := (mkF m 54 #[rv a, rv va, iv 0, iv 3, .val .null, rv b] [(.ref b), (.ref a)])) rfl rfl (hb hby d2_54)
    have N13 := Fr.snoc X13 N9 g_a
    have Fw13 : Fld Z h13 a "java/lang/String" "value" "[B" (.ref b) := F11.same W13
    refine Go.by st13 ?_
    show Go _ _ _ _ T13 (mkF m 57 #[rv a, rv va, iv 0, iv 3, .val .null, rv b] [])
    have F14 : Keep h0 T4.heap [a] := (Keep.refl h0 [a]).trans K4 all0
    have F15 : Keep h0 h9 [a] := F14.wr W9 (Or.inl (List.mem_of_getElem? (i := 0) rfl))
    have F16 : Keep h0 h13 [a] := F15.wr W13 (Or.inl (List.mem_of_getElem? (i := 0) rfl))
    have F17 : Exa Z h13 a "java/lang/String" := F12.wr W13
    have F18 : Fld Z h13 a "java/lang/String" "coder" "B" (.int 0) := Fw9.other W13 (Or.inr (slot_ne (Or.inr (ow hw 28 rfl)) (Or.inr (ow hw 30 rfl)) (by decide) (t := .byte) (t' := (.array .byte)) (by decide) (by decide)))
    have F19 : Arv Z h9 b kb .byte (3 : Int32) vs (.int 0) := Q4_0.other W9 (Ne.symm ne_a_b)
    have F20 : Arv Z h13 b kb .byte (3 : Int32) vs (.int 0) := F19.other W13 (Ne.symm ne_a_b)
    exact Go.retV X13 hx Bd.notSynchronized Bd.returns (hb hby d2_57) (by rw [e13]; exact ⟨b, kb, vs, (3 : Int32), (0 : Int32), rfl, N13, F16, F17, F18, Fw13, F20, sz_b, Or.inl ⟨rfl, rfl⟩⟩) (by decide) (by decide)
  · refine Go.astore2 41 X4 hx (L' := #[rv a, rv va, iv 0, iv 3, .val .null, rv b]) (hb hby d2_39) rfl rfl rfl ?_
    refine Go.aload1 42 X4 hx (hb hby d2_41) rfl rfl rfl ?_
    refine Go.aload2 44 X4 hx (hb hby d2_42) rfl rfl rfl ?_
    refine Go.iload1 45 X4 hx (hb hby d2_44) rfl rfl ?_
    have F21 : n0 ≤ T4.heap.size := Nat.le_trans Z0 K4.1
    obtain ⟨_, _, ⟨T22, L22, k22, n22⟩, -, X22, ⟨Lc22, hQ22, l22, y22, z22⟩, st22⟩ := Jvm.LawKit.callS X4 hx (y := (⟨"java/lang/StringUTF16", "coderFromArrayLen", "([BI)B"⟩ : MethodName)) hown (mvT hZ (ow hw 24 rfl)) (mvT hZ (ow hw 25 rfl)) (mvT hZ (ow hw 18 rfl)) (mvT hZ (ow hw 26 rfl)) (by decide) (backOf (W := 1) (rmCoder3_1 l Z a0 hw [] b kb vs T4.heap n0 F21 Q4_0) hZ (ow hw 26 rfl) (ow hw 18 rfl) (by decide) (by decide)) (g := (mkF m 45 #[rv a, rv va, iv 0, iv 3, .val .null, rv b] [(.int 3), (.ref b), (.ref a)])) rfl (by rw [hml]; rfl) (argsL := [(.ref b), (.int 3)]) (rest := [(.ref a)]) (lenOf pd_168 rfl) rfl (by show 2 * 0 + _ ≤ _; exact Nat.le_of_eq rfl) (hb hby d2_45) (fun _ _ => ⟨rfl, rfl, (by decide : 2 + 0 ≤ _), (by decide : 9 + 0 ≤ _)⟩)
    dsimp only [Pt.U, Pt.locs, Pt.cells, Pt.slots] at X22 l22 y22 z22 st22 hQ22
    subst l22 y22 z22
    obtain ⟨rfl, N22q, e22⟩ := hQ22
    have N22 := Fr.app N4 N22q
    refine Go.by st22 ?_
    show Go _ _ _ _ T22 (mkF m 48 #[rv a, rv va, iv 0, iv 3, .val .null, rv b] [(.int 1), (.ref a)])
    have F23 : Fld Z T4.heap a "java/lang/String" "coder" "B" (.int 0) := F_a_coder.keep K4 nin0
    have F24 : Exa Z T4.heap a "java/lang/String" := E_a.keep K4
    obtain ⟨T25, h25, X25, e25, W25, st25⟩ := putFN X22 hx hZ hown (ow hw 27 rfl) Via.refl e22 F23 F24 (Or.inr ⟨(ow hw 28 rfl), rfl, hnm⟩) (ow hw 3 rfl) (ty := .byte) (v' := (.int 1)) (by decide) rfl rfl (g := (mkF m 48 #[rv a, rv va, iv 0, iv 3, .val .null, rv b] [(.int 1), (.ref a)])) rfl rfl (hb hby d2_48)
    have N25 := Fr.snoc X25 N22 g_a
    have Fw25 : Fld Z h25 a "java/lang/String" "coder" "B" (.int 1) := F23.same W25
    refine Go.by st25 ?_
    show Go _ _ _ _ T25 (mkF m 51 #[rv a, rv va, iv 0, iv 3, .val .null, rv b] [])
    refine Go.aload1 52 X25 hx (hb hby d2_51) rfl rfl rfl ?_
    refine Go.aload2 54 X25 hx (hb hby d2_52) rfl rfl rfl ?_
    have F26 : Fld Z T4.heap a "java/lang/String" "value" "[B" .null := F_a_value.keep K4 nin0
    have F27 : Fld Z h25 a "java/lang/String" "value" "[B" .null := F26.other W25 (Or.inr (slot_ne (Or.inr (ow hw 30 rfl)) (Or.inr (ow hw 28 rfl)) (by decide) (t := (.array .byte)) (t' := .byte) (by decide) (by decide)))
    have F28 : Exa Z h25 a "java/lang/String" := F24.wr W25
    obtain ⟨T29, h29, X29, e29, W29, st29⟩ := putF X25 hx hZ hown (host := "") (Or.inl (ow hw 29 rfl)) Via.refl e25 F27 F28 (Or.inr ⟨(ow hw 30 rfl), rfl, hnm⟩) (ow hw 3 rfl) (ty := (.array .byte)) (by decide) rfl rfl (g := (mkF m 54 #[rv a, rv va, iv 0, iv 3, .val .null, rv b] [(.ref b), (.ref a)])) rfl rfl (hb hby d2_54)
    have N29 := Fr.snoc X29 N25 g_a
    have Fw29 : Fld Z h29 a "java/lang/String" "value" "[B" (.ref b) := F27.same W29
    refine Go.by st29 ?_
    show Go _ _ _ _ T29 (mkF m 57 #[rv a, rv va, iv 0, iv 3, .val .null, rv b] [])
    have F30 : Keep h0 T4.heap [a] := (Keep.refl h0 [a]).trans K4 all0
    have F31 : Keep h0 h25 [a] := F30.wr W25 (Or.inl (List.mem_of_getElem? (i := 0) rfl))
    have F32 : Keep h0 h29 [a] := F31.wr W29 (Or.inl (List.mem_of_getElem? (i := 0) rfl))
    have F33 : Exa Z h29 a "java/lang/String" := F28.wr W29
    have F34 : Fld Z h29 a "java/lang/String" "coder" "B" (.int 1) := Fw25.other W29 (Or.inr (slot_ne (Or.inr (ow hw 28 rfl)) (Or.inr (ow hw 30 rfl)) (by decide) (t := .byte) (t' := (.array .byte)) (by decide) (by decide)))
    have F35 : Arv Z h25 b kb .byte (6 : Int32) vs (.int 0) := Q4_0.other W25 (Ne.symm ne_a_b)
    have F36 : Arv Z h29 b kb .byte (6 : Int32) vs (.int 0) := F35.other W29 (Ne.symm ne_a_b)
    exact Go.retV X29 hx Bd.notSynchronized Bd.returns (hb hby d2_57) (by rw [e29]; exact ⟨b, kb, vs, (6 : Int32), (1 : Int32), rfl, N29, F32, F33, F34, Fw29, F36, sz_b, Or.inr ⟨rfl, rfl⟩⟩) (by decide) (by decide)
def Q_rmS1_3 (Z : State) (a : Addr) (va : Addr) (kv : ClassId) (c0 : Int32) (c1 : Int32) (c2 : Int32) (cs : Int32) (h0 : Heap) (n0 : Nat) (v : Option Value) (h : Heap) (L : List Loc) : Prop := ∃ b : Addr, ∃ kb : ClassId, ∃ vs : List Value, ∃ ln : Int32, ∃ cd : Int32, v = none ∧ Fr n0 L ∧ Keep h0 h [a] ∧ Exa Z h a "java/lang/String" ∧ Fld Z h a "java/lang/String" "coder" "B" (.int cd) ∧ Fld Z h a "java/lang/String" "value" "[B" (.ref b) ∧ Arv Z h b kb .byte ln vs (.int 0) ∧ h0.size ≤ b ∧ ((ln = 3 ∧ cd = 0) ∨ (ln = 6 ∧ cd = 1))
set_option maxRecDepth 65536 in
set_option maxHeartbeats 40000000 in
theorem rmS1_3 (l : Launch) (Z : State) (a0 : Array Value) (hw : ∀ d ∈ tables_1, d.before a0 Z = true) (ws : List Jvm.Cond) (a : Addr) (va : Addr) (kv : ClassId) (c0 : Int32) (c1 : Int32) (c2 : Int32) (cs : Int32) (h0 : Heap) (n0 : Nat) (Z0 : n0 ≤ h0.size) (O0 : Old Z n0 h0) (E_a : Exa Z h0 a "java/lang/String") (F_a_value : Fld Z h0 a "java/lang/String" "value" "[B" .null) (F_a_coder : Fld Z h0 a "java/lang/String" "coder" "B" (.int 0)) (g_a : n0 ≤ a) (V_va : Arv Z h0 va kv .char (3 : Int32) ([(.int c0), (.int c1), (.int c2)]) (.int 0)) (hn0 : (nar .char c0 = c0)) (hn1 : (nar .char c1 = c1)) (hn2 : (nar .char c2 = c2)) (S_cs : Sta Z Z.heap "java/lang/String" "COMPACT_STRINGS" "Z" (.int cs)) (n_cs : ¬ cs = 0) (U0 : Sta Z Z.heap "java/lang/StringUTF16" "$assertionsDisabled" "Z" (.int 1)) (U1 : Sta Z Z.heap "java/lang/StringUTF16" "HI_BYTE_SHIFT" "I" (.int 0)) (U2 : Sta Z Z.heap "java/lang/StringUTF16" "LO_BYTE_SHIFT" "I" (.int 8)) :
    MetFree l (⟨"java/lang/String", "<init>", "([C)V"⟩ : MethodName) (head1 (Jvm.Cond.code (⟨"java/lang/String", "<init>", "([C)V"⟩ : MethodName) jdk_42_method_3_code 2 none :: ws) ({ frames := 5, cells := 2, slots := 9, locals := 74 } : Room)) (fun as' U => as' = #[(.ref a), (.ref va)] ∧ Z.Warmed39 U.vm ∧ U.heap = h0) (fun _ _ _ _ _ => True) (fun _ U o U' => ∃ v L, o = .returned v ∧ Q_rmS1_3 Z a va kv c0 c1 c2 cs h0 n0 v U'.heap L ∧ FrameEnd U o U' L ({ frames := 5, cells := 2, slots := 9, locals := 74 } : Room).cells ({ frames := 5, cells := 2, slots := 9, locals := 74 } : Room).slots) := by
  refine MetFree.of_bodySF (plainFor_of_name pn_152) hisR ?_
  intro p e s m args below meth c s₁ Bd hml0 hP hK
  obtain ⟨rfl, hZ, hh⟩ := hP
  have hx := Bd.exec
  have hby := Bd.bytes
  have hml : c.maxLocals = 2 := hml0
  have hown : s.vm.findClass "java/lang/String" = some m.cls := findClass_of_methodNamed Bd.named
  have hnm := (name_of_methodNamed Bd.named Bd.method).1
  have X0 : Stand p l e ({ frames := 5, cells := 2, slots := 9, locals := 74 } : Room) s m #[(.ref a), (.ref va)] below meth c s₁ [] 0 0 := Stand.of_body Bd
  have e0 : s₁.heap = h0 := by rw [← hh, Bd.state]; rfl
  have N0 := Fr.nil n0
  refine Go.enter (F := EndN s (Q_rmS1_3 Z a va kv c0 c1 c2 cs h0 n0) ({ frames := 5, cells := 2, slots := 9, locals := 74 } : Room).cells ({ frames := 5, cells := 2, slots := 9, locals := 74 } : Room).slots) (ef_175 m a va) ?_
  show Go _ _ _ _ s₁ (mkF m 0 #[rv a, rv va] [])
  refine Go.aload1 1 X0 hx (hb hby d1_0) rfl rfl rfl ?_
  refine Go.aload1 2 X0 hx (hb hby d1_1) rfl rfl rfl ?_
  refine Go.iconst 3 X0 hx (0 : Int32) (hb hby d1_2) (by decide) rfl ?_
  refine Go.aload1 4 X0 hx (hb hby d1_3) rfl rfl rfl ?_
  obtain ⟨cl1, Ar1, -, S1, M1, -, -⟩ := id V_va
  refine Go.by (fun _ gk => X0.arraylength hx (by rw [e0]; exact Ar1.1) (State.isArrayOf_alike hZ.alike Ar1.2.1) (g := (mkF m 4 #[rv a, rv va] [(.ref va), (.int 0), (.ref va), (.ref a)])) rfl rfl (hb hby d1_4) _ gk) ?_
  rw [len_of S1 M1]
  show Go _ _ _ _ s₁ (mkF m 5 #[rv a, rv va] [(.int 3), (.int 0), (.ref va), (.ref a)])
  refine Go.aconst_null 6 X0 hx (hb hby d1_5) rfl ?_
  obtain ⟨_, _, ⟨T2, L2, k2, n2⟩, -, X2, ⟨Lc2, hQ2, l2, y2, z2⟩, st2⟩ := X0.specialBack hx (y := (⟨"java/lang/String", "<init>", "([CIILjava/lang/Void;)V"⟩ : MethodName)) rfl hown (mvT hZ (ow hw 8 rfl)) (mvT hZ (ow hw 9 rfl)) (mvT hZ (ow hw 11 rfl)) (by decide) (backOf (W := 0) (rmS4_3 l Z a0 hw [] a va kv c0 c1 c2 cs h0 n0 Z0 O0 E_a F_a_value F_a_coder g_a V_va hn0 hn1 hn2 S_cs n_cs U0 U1 U2) hZ (ow hw 11 rfl) (ow hw 4 rfl) (by decide) (by decide)) (g := (mkF m 6 #[rv a, rv va] [.null, (.int 3), (.int 0), (.ref va), (.ref a)])) rfl (by rw [hml]; rfl) (Steps.refl _) (a := a) (argsL := [(.ref va), (.int 0), (.int 3), .null]) (rest := []) (lenOf pd_182 rfl) rfl (by show 2 * 0 + _ ≤ _; exact Nat.le_of_eq rfl) (hb hby d1_6) (fun _ _ => ⟨rfl, e0, (by decide : 0 + 2 ≤ _), (by decide : 0 + 9 ≤ _)⟩)
  dsimp only [Pt.U, Pt.locs, Pt.cells, Pt.slots] at X2 l2 y2 z2 st2 hQ2
  subst l2 y2 z2
  obtain ⟨b, kb, vs, ln, cd, rfl, N2q, K2, Q2_0, Q2_1, Q2_2, Q2_3, Q2_4, Q2_5⟩ := hQ2
  have N2 := Fr.app N0 N2q
  refine Go.to st2 ?_
  show Go _ _ _ _ T2 (mkF m 9 #[rv a, rv va] [])
  have ge_b : n0 ≤ b := Nat.le_trans Z0 Q2_4
  have sz_b : h0.size ≤ b := Nat.le_trans (Keep.refl h0 [a]).1 Q2_4
  have ne_a_b : a ≠ b := Nat.ne_of_lt (Nat.lt_of_lt_of_le E_a.lt Q2_4)
  have ne_va_b : va ≠ b := Nat.ne_of_lt (Nat.lt_of_lt_of_le V_va.lt Q2_4)
  have F3 : Keep h0 T2.heap [a] := (Keep.refl h0 [a]).trans K2 (allS (Or.inl (List.mem_of_getElem? (i := 0) rfl)) all0)
  exact Go.retV X2 hx Bd.notSynchronized Bd.returns (hb hby d1_9) ⟨b, kb, vs, ln, cd, rfl, N2, F3, Q2_0, Q2_1, Q2_2, Q2_3, sz_b, Q2_5⟩ (by decide) (by decide)
theorem ef_185 (m : MethodId) (x0 : Addr) : entryFrame m #[(.ref x0)] 1 = mkF m 0 #[rv x0] [] := by (first | (simp [entryFrame, mkF, argsToLocals, Value.category]; done) | rfl)
theorem d9_0 : decode jdk_42_method_55_code 0 = .ok (.aload_n 0, 1) := by decide +kernel
theorem d9_1 : decode jdk_42_method_55_code 1 = .ok (.getfield 9, 3) := by decide +kernel
theorem d9_4 : decode jdk_42_method_55_code 4 = .ok (.arraylength, 1) := by decide +kernel
theorem d9_5 : decode jdk_42_method_55_code 5 = .ok (.ifCond .ne 7, 3) := by decide +kernel
theorem d9_12 : decode jdk_42_method_55_code 12 = .ok (.iconst 0, 1) := by decide +kernel
theorem d9_13 : decode jdk_42_method_55_code 13 = .ok (.ireturn, 1) := by decide +kernel
def Q_rmEmpty (Z : State) (a : Addr) (b : Addr) (kb : ClassId) (vs : List Value) (ln : Int32) (h0 : Heap) (n0 : Nat) (v : Option Value) (h : Heap) (L : List Loc) : Prop := v = some (.int 0) ∧ Fr n0 L ∧ h = h0
set_option maxRecDepth 65536 in
set_option maxHeartbeats 40000000 in
theorem rmEmpty (l : Launch) (Z : State) (a0 : Array Value) (hw : ∀ d ∈ tables_1, d.before a0 Z = true) (ws : List Jvm.Cond) (a : Addr) (b : Addr) (kb : ClassId) (vs : List Value) (ln : Int32) (h0 : Heap) (n0 : Nat) (Z0 : n0 ≤ h0.size) (F_a_value : Fld Z h0 a "java/lang/String" "value" "[B" (.ref b)) (V_b : Arv Z h0 b kb .byte ln vs (.int 0)) (hne : (¬ ln = 0)) :
    MetFree l (⟨"java/lang/String", "isEmpty", "()Z"⟩ : MethodName) (head1 (Jvm.Cond.code (⟨"java/lang/String", "isEmpty", "()Z"⟩ : MethodName) jdk_42_method_55_code 1 (some .boolean) :: ws) ({ frames := 0, cells := 0, slots := 0, locals := 0 } : Room)) (fun as' U => as' = #[(.ref a)] ∧ Z.Warmed39 U.vm ∧ U.heap = h0) (fun _ _ _ _ _ => True) (fun _ U o U' => ∃ v L, o = .returned v ∧ Q_rmEmpty Z a b kb vs ln h0 n0 v U'.heap L ∧ FrameEnd U o U' L ({ frames := 0, cells := 0, slots := 0, locals := 0 } : Room).cells ({ frames := 0, cells := 0, slots := 0, locals := 0 } : Room).slots) := by
  refine MetFree.of_bodySF (plainFor_of_name pn_152) hisR ?_
  intro p e s m args below meth c s₁ Bd hml0 hP hK
  obtain ⟨rfl, hZ, hh⟩ := hP
  have hx := Bd.exec
  have hby := Bd.bytes
  have hml : c.maxLocals = 1 := hml0
  have hown : s.vm.findClass "java/lang/String" = some m.cls := findClass_of_methodNamed Bd.named
  have hnm := (name_of_methodNamed Bd.named Bd.method).1
  have X0 : Stand p l e ({ frames := 0, cells := 0, slots := 0, locals := 0 } : Room) s m #[(.ref a)] below meth c s₁ [] 0 0 := Stand.of_body Bd
  have e0 : s₁.heap = h0 := by rw [← hh, Bd.state]; rfl
  have N0 := Fr.nil n0
  refine Go.enter (F := EndN s (Q_rmEmpty Z a b kb vs ln h0 n0) ({ frames := 0, cells := 0, slots := 0, locals := 0 } : Room).cells ({ frames := 0, cells := 0, slots := 0, locals := 0 } : Room).slots) (ef_185 m a) ?_
  show Go _ _ _ _ s₁ (mkF m 0 #[rv a] [])
  refine Go.aload1 1 X0 hx (hb hby d9_0) rfl rfl rfl ?_
  obtain ⟨T1, X1, e1, st1⟩ := getF X0 hx hZ hown (host := "") (Or.inl (ow hw 29 rfl)) Via.refl e0 F_a_value (g := (mkF m 1 #[rv a] [(.ref a)])) rfl rfl (hb hby d9_1)
  refine Go.by st1 ?_
  show Go _ _ _ _ T1 (mkF m 4 #[rv a] [(.ref b)])
  obtain ⟨cl2, Ar2, -, S2, M2, -, -⟩ := id V_b
  refine Go.by (fun _ gk => X1.arraylength hx (by rw [e1]; exact Ar2.1) (State.isArrayOf_alike hZ.alike Ar2.2.1) (g := (mkF m 4 #[rv a] [(.ref b)])) rfl rfl (hb hby d9_4) _ gk) ?_
  rw [len_of S2 M2]
  show Go _ _ _ _ T1 (mkF m 5 #[rv a] [(.int ln)])
  refine Go.ifY 12 X1 hx (hb hby d9_5) (XT.i0_ne_t hne) (by decide) (by decide) ?_
  refine Go.iconst 13 X1 hx (0 : Int32) (hb hby d9_12) (by decide) rfl ?_
  exact Go.retI X1 hx Bd.notSynchronized Bd.returns rfl (by simp) (hb hby d9_13) (by rw [e1]; exact ⟨rfl, N0, rfl⟩) (by decide) (by decide)
theorem d11_0 : decode jdk_42_method_152_code 0 = .ok (.getstatic 38, 3) := by decide +kernel
theorem d11_3 : decode jdk_42_method_152_code 3 = .ok (.ifCond .eq 10, 3) := by decide +kernel
theorem d11_6 : decode jdk_42_method_152_code 6 = .ok (.aload_n 0, 1) := by decide +kernel
theorem d11_7 : decode jdk_42_method_152_code 7 = .ok (.getfield 15, 3) := by decide +kernel
theorem d11_10 : decode jdk_42_method_152_code 10 = .ok (.goto 4, 3) := by decide +kernel
theorem d11_14 : decode jdk_42_method_152_code 14 = .ok (.ireturn, 1) := by decide +kernel
def Q_rmSCoder (Z : State) (a : Addr) (cd : Int32) (cs : Int32) (h0 : Heap) (n0 : Nat) (v : Option Value) (h : Heap) (L : List Loc) : Prop := v = some (.int cd) ∧ Fr n0 L ∧ h = h0
set_option maxRecDepth 65536 in
set_option maxHeartbeats 40000000 in
theorem rmSCoder (l : Launch) (Z : State) (a0 : Array Value) (hw : ∀ d ∈ tables_1, d.before a0 Z = true) (ws : List Jvm.Cond) (a : Addr) (cd : Int32) (cs : Int32) (h0 : Heap) (n0 : Nat) (Z0 : n0 ≤ h0.size) (O0 : Old Z n0 h0) (F_a_coder : Fld Z h0 a "java/lang/String" "coder" "B" (.int cd)) (hnc : (narrow .byte (.int cd) = .int cd)) (S_cs : Sta Z Z.heap "java/lang/String" "COMPACT_STRINGS" "Z" (.int cs)) (n_cs : ¬ cs = 0) :
    MetFree l (⟨"java/lang/String", "coder", "()B"⟩ : MethodName) (head1 (Jvm.Cond.code (⟨"java/lang/String", "coder", "()B"⟩ : MethodName) jdk_42_method_152_code 1 (some .byte) :: ws) ({ frames := 0, cells := 0, slots := 0, locals := 0 } : Room)) (fun as' U => as' = #[(.ref a)] ∧ Z.Warmed39 U.vm ∧ U.heap = h0) (fun _ _ _ _ _ => True) (fun _ U o U' => ∃ v L, o = .returned v ∧ Q_rmSCoder Z a cd cs h0 n0 v U'.heap L ∧ FrameEnd U o U' L ({ frames := 0, cells := 0, slots := 0, locals := 0 } : Room).cells ({ frames := 0, cells := 0, slots := 0, locals := 0 } : Room).slots) := by
  refine MetFree.of_bodySF (plainFor_of_name pn_152) hisR ?_
  intro p e s m args below meth c s₁ Bd hml0 hP hK
  obtain ⟨rfl, hZ, hh⟩ := hP
  have hx := Bd.exec
  have hby := Bd.bytes
  have hml : c.maxLocals = 1 := hml0
  have hown : s.vm.findClass "java/lang/String" = some m.cls := findClass_of_methodNamed Bd.named
  have hnm := (name_of_methodNamed Bd.named Bd.method).1
  have X0 : Stand p l e ({ frames := 0, cells := 0, slots := 0, locals := 0 } : Room) s m #[(.ref a)] below meth c s₁ [] 0 0 := Stand.of_body Bd
  have e0 : s₁.heap = h0 := by rw [← hh, Bd.state]; rfl
  have N0 := Fr.nil n0
  refine Go.enter (F := EndN s (Q_rmSCoder Z a cd cs h0 n0) ({ frames := 0, cells := 0, slots := 0, locals := 0 } : Room).cells ({ frames := 0, cells := 0, slots := 0, locals := 0 } : Room).slots) (ef_185 m a) ?_
  show Go _ _ _ _ s₁ (mkF m 0 #[rv a] [])
  have F1 : Sta Z h0 "java/lang/String" "COMPACT_STRINGS" "Z" (.int cs) := S_cs.ext O0.2
  obtain ⟨T2, X2, e2, st2⟩ := getS2 X0 hx hZ hown (host := "") (Or.inl (ow hw 15 rfl)) Via.refl e0 F1 (g := (mkF m 0 #[rv a] [])) rfl (hb hby d11_0)
  refine Go.by st2 ?_
  show Go _ _ _ _ T2 (mkF m 3 #[rv a] [(.int cs)])
  refine Go.ifN 6 X2 hx (hb hby d11_3) (XT.i0_eq_f n_cs) rfl ?_
  refine Go.aload1 7 X2 hx (hb hby d11_6) rfl rfl rfl ?_
  obtain ⟨T3, X3, e3, st3⟩ := getF X2 hx hZ hown (host := "") (Or.inl (ow hw 27 rfl)) Via.refl e2 F_a_coder (g := (mkF m 7 #[rv a] [(.ref a)])) rfl rfl (hb hby d11_7)
  refine Go.by st3 ?_
  show Go _ _ _ _ T3 (mkF m 10 #[rv a] [(.int cd)])
  refine Go.goto 14 X3 hx (hb hby d11_10) (by decide) (by decide) ?_
  exact Go.retI X3 hx Bd.notSynchronized Bd.returns hnc (by simp) (hb hby d11_14) (by rw [e3]; exact ⟨rfl, N0, rfl⟩) (by decide) (by decide)
theorem d10_0 : decode jdk_42_method_54_code 0 = .ok (.aload_n 0, 1) := by decide +kernel
theorem d10_1 : decode jdk_42_method_54_code 1 = .ok (.getfield 9, 3) := by decide +kernel
theorem d10_4 : decode jdk_42_method_54_code 4 = .ok (.arraylength, 1) := by decide +kernel
theorem d10_5 : decode jdk_42_method_54_code 5 = .ok (.aload_n 0, 1) := by decide +kernel
theorem pd_202 : parseMethodDescriptor "()B" = some ⟨[], some .byte⟩ := by decide +kernel
theorem d10_6 : decode jdk_42_method_54_code 6 = .ok (.invokevirtual 335, 3) := by decide +kernel
theorem d10_9 : decode jdk_42_method_54_code 9 = .ok (.ishr, 1) := by decide +kernel
theorem d10_10 : decode jdk_42_method_54_code 10 = .ok (.ireturn, 1) := by decide +kernel
def Q_rmLen (Z : State) (a : Addr) (b : Addr) (kb : ClassId) (vs : List Value) (ln : Int32) (cd : Int32) (cs : Int32) (h0 : Heap) (n0 : Nat) (v : Option Value) (h : Heap) (L : List Loc) : Prop := v = some (.int (ln >>> (cd &&& 31))) ∧ Fr n0 L ∧ h = h0
set_option maxRecDepth 65536 in
set_option maxHeartbeats 40000000 in
theorem rmLen (l : Launch) (Z : State) (a0 : Array Value) (hw : ∀ d ∈ tables_1, d.before a0 Z = true) (ws : List Jvm.Cond) (a : Addr) (b : Addr) (kb : ClassId) (vs : List Value) (ln : Int32) (cd : Int32) (cs : Int32) (h0 : Heap) (n0 : Nat) (Z0 : n0 ≤ h0.size) (O0 : Old Z n0 h0) (E_a : Exa Z h0 a "java/lang/String") (F_a_value : Fld Z h0 a "java/lang/String" "value" "[B" (.ref b)) (V_b : Arv Z h0 b kb .byte ln vs (.int 0)) (F_a_coder : Fld Z h0 a "java/lang/String" "coder" "B" (.int cd)) (hnc : (narrow .byte (.int cd) = .int cd)) (S_cs : Sta Z Z.heap "java/lang/String" "COMPACT_STRINGS" "Z" (.int cs)) (n_cs : ¬ cs = 0) :
    MetFree l (⟨"java/lang/String", "length", "()I"⟩ : MethodName) (head1 (Jvm.Cond.code (⟨"java/lang/String", "length", "()I"⟩ : MethodName) jdk_42_method_54_code 1 (some .int) :: ws) ({ frames := 1, cells := 0, slots := 0, locals := 13 } : Room)) (fun as' U => as' = #[(.ref a)] ∧ Z.Warmed39 U.vm ∧ U.heap = h0) (fun _ _ _ _ _ => True) (fun _ U o U' => ∃ v L, o = .returned v ∧ Q_rmLen Z a b kb vs ln cd cs h0 n0 v U'.heap L ∧ FrameEnd U o U' L ({ frames := 1, cells := 0, slots := 0, locals := 13 } : Room).cells ({ frames := 1, cells := 0, slots := 0, locals := 13 } : Room).slots) := by
  refine MetFree.of_bodySF (plainFor_of_name pn_152) hisR ?_
  intro p e s m args below meth c s₁ Bd hml0 hP hK
  obtain ⟨rfl, hZ, hh⟩ := hP
  have hx := Bd.exec
  have hby := Bd.bytes
  have hml : c.maxLocals = 1 := hml0
  have hown : s.vm.findClass "java/lang/String" = some m.cls := findClass_of_methodNamed Bd.named
  have hnm := (name_of_methodNamed Bd.named Bd.method).1
  have X0 : Stand p l e ({ frames := 1, cells := 0, slots := 0, locals := 13 } : Room) s m #[(.ref a)] below meth c s₁ [] 0 0 := Stand.of_body Bd
  have e0 : s₁.heap = h0 := by rw [← hh, Bd.state]; rfl
  have N0 := Fr.nil n0
  refine Go.enter (F := EndN s (Q_rmLen Z a b kb vs ln cd cs h0 n0) ({ frames := 1, cells := 0, slots := 0, locals := 13 } : Room).cells ({ frames := 1, cells := 0, slots := 0, locals := 13 } : Room).slots) (ef_185 m a) ?_
  show Go _ _ _ _ s₁ (mkF m 0 #[rv a] [])
  refine Go.aload1 1 X0 hx (hb hby d10_0) rfl rfl rfl ?_
  obtain ⟨T1, X1, e1, st1⟩ := getF X0 hx hZ hown (host := "") (Or.inl (ow hw 29 rfl)) Via.refl e0 F_a_value (g := (mkF m 1 #[rv a] [(.ref a)])) rfl rfl (hb hby d10_1)
  refine Go.by st1 ?_
  show Go _ _ _ _ T1 (mkF m 4 #[rv a] [(.ref b)])
  obtain ⟨cl2, Ar2, -, S2, M2, -, -⟩ := id V_b
  refine Go.by (fun _ gk => X1.arraylength hx (by rw [e1]; exact Ar2.1) (State.isArrayOf_alike hZ.alike Ar2.2.1) (g := (mkF m 4 #[rv a] [(.ref b)])) rfl rfl (hb hby d10_4) _ gk) ?_
  rw [len_of S2 M2]
  show Go _ _ _ _ T1 (mkF m 5 #[rv a] [(.int ln)])
  refine Go.aload1 6 X1 hx (hb hby d10_5) rfl rfl rfl ?_
  obtain ⟨cq3, kq3, q3a, q3b, q3c⟩ := isOf hZ e1 E_a
  obtain ⟨_, _, ⟨T3, L3, k3, n3⟩, -, X3, ⟨Lc3, hQ3, l3, y3, z3⟩, st3⟩ := X1.virtualBack hx (y := (⟨"java/lang/String", "coder", "()B"⟩ : MethodName)) (z := (⟨"java/lang/String", "coder", "()B"⟩ : MethodName)) hown (mvT hZ (ow hw 52 rfl)) (mvT hZ (ow hw 53 rfl)) (notFace_of_selects (args := #[]) (mvT hZ (ow hw 55 rfl))) (mvT hZ (ow hw 55 rfl)) (mvT hZ (ow hw 54 rfl)) (by decide) (backOf (W := 1) (rmSCoder l Z a0 hw [] a cd cs h0 n0 Z0 O0 F_a_coder hnc S_cs n_cs) hZ (ow hw 56 rfl) (ow hw 4 rfl) (by decide) (by decide)) q3a q3c (g := (mkF m 6 #[rv a] [(.ref a), (.int ln)])) rfl (by rw [hml]; rfl) (Steps.refl _) (argsL := []) (rest := [(.int ln)]) (lenOf pd_202 rfl) rfl (by show 2 * 0 + _ ≤ _; exact Nat.le_of_eq rfl) (hb hby d10_6) (fun _ _ => ⟨rfl, e1, (by decide : 0 + 0 ≤ _), (by decide : 0 + 0 ≤ _)⟩)
  dsimp only [Pt.U, Pt.locs, Pt.cells, Pt.slots] at X3 l3 y3 z3 st3 hQ3
  subst l3 y3 z3
  obtain ⟨rfl, N3q, e3⟩ := hQ3
  have N3 := Fr.app N0 N3q
  refine Go.to st3 ?_
  show Go _ _ _ _ T3 (mkF m 9 #[rv a] [(.int cd), (.int ln)])
  refine Go.ishr 10 X3 hx (hb hby d10_9) rfl ?_
  exact Go.retI X3 hx Bd.notSynchronized Bd.returns rfl (by simp) (hb hby d10_10) (by rw [e3]; exact ⟨rfl, N3, rfl⟩) (by decide) (by decide)
theorem pn_206 : plainName "java/util/Objects" = true := by first | (simp [plainName, overriddenIn]; done) | decide +kernel
theorem d8_0 : decode jdk_31_method_11_code 0 = .ok (.aload_n 0, 1) := by decide +kernel
theorem d8_1 : decode jdk_31_method_11_code 1 = .ok (.ifnonnull 12, 3) := by decide +kernel
theorem d8_13 : decode jdk_31_method_11_code 13 = .ok (.aload_n 0, 1) := by decide +kernel
theorem d8_14 : decode jdk_31_method_11_code 14 = .ok (.areturn, 1) := by decide +kernel
def Q_rmRnn (Z : State) (a : Addr) (b : Addr) (h0 : Heap) (n0 : Nat) (v : Option Value) (h : Heap) (L : List Loc) : Prop := v = some (.ref a) ∧ Fr n0 L ∧ h = h0
set_option maxRecDepth 65536 in
set_option maxHeartbeats 40000000 in
theorem rmRnn (l : Launch) (Z : State) (a0 : Array Value) (hw : ∀ d ∈ tables_1, d.before a0 Z = true) (ws : List Jvm.Cond) (a : Addr) (b : Addr) (h0 : Heap) (n0 : Nat) (Z0 : n0 ≤ h0.size)  :
    MetFree l (⟨"java/util/Objects", "requireNonNull", "(Ljava/lang/Object;Ljava/lang/String;)Ljava/lang/Object;"⟩ : MethodName) (head1 (Jvm.Cond.code (⟨"java/util/Objects", "requireNonNull", "(Ljava/lang/Object;Ljava/lang/String;)Ljava/lang/Object;"⟩ : MethodName) jdk_31_method_11_code 2 (some (.object "java/lang/Object")) :: ws) ({ frames := 0, cells := 0, slots := 0, locals := 0 } : Room)) (fun as' U => as' = #[(.ref a), (.ref b)] ∧ Z.Warmed39 U.vm ∧ U.heap = h0) (fun _ _ _ _ _ => True) (fun _ U o U' => ∃ v L, o = .returned v ∧ Q_rmRnn Z a b h0 n0 v U'.heap L ∧ FrameEnd U o U' L ({ frames := 0, cells := 0, slots := 0, locals := 0 } : Room).cells ({ frames := 0, cells := 0, slots := 0, locals := 0 } : Room).slots) := by
  refine MetFree.of_bodySF (plainFor_of_name pn_206) hisR ?_
  intro p e s m args below meth c s₁ Bd hml0 hP hK
  obtain ⟨rfl, hZ, hh⟩ := hP
  have hx := Bd.exec
  have hby := Bd.bytes
  have hml : c.maxLocals = 2 := hml0
  have hown : s.vm.findClass "java/util/Objects" = some m.cls := findClass_of_methodNamed Bd.named
  have hnm := (name_of_methodNamed Bd.named Bd.method).1
  have X0 : Stand p l e ({ frames := 0, cells := 0, slots := 0, locals := 0 } : Room) s m #[(.ref a), (.ref b)] below meth c s₁ [] 0 0 := Stand.of_body Bd
  have e0 : s₁.heap = h0 := by rw [← hh, Bd.state]; rfl
  have N0 := Fr.nil n0
  refine Go.enter (F := EndN s (Q_rmRnn Z a b h0 n0) ({ frames := 0, cells := 0, slots := 0, locals := 0 } : Room).cells ({ frames := 0, cells := 0, slots := 0, locals := 0 } : Room).slots) (ef_175 m a b) ?_
  show Go _ _ _ _ s₁ (mkF m 0 #[rv a, rv b] [])
  refine Go.aload1 1 X0 hx (hb hby d8_0) rfl rfl rfl ?_
  refine Go.by (fun _ gk => XT.nonnullYes X0.here hx rfl (pc0 := 1) (pc' := 13) rfl (hb hby d8_1) rfl rfl nofun (by decide) (by decide) gk) ?_
  show Go _ _ _ _ s₁ (mkF m 13 #[rv a, rv b] [])
  refine Go.aload1 14 X0 hx (hb hby d8_13) rfl rfl rfl ?_
  exact Go.retA X0 hx Bd.notSynchronized Bd.returns rfl rfl (hb hby d8_14) (by rw [e0]; exact ⟨rfl, N0, rfl⟩) (by decide) (by decide)
theorem pn_211 : plainName "com/example/sessionkeep/sessionkeep/store/StoredSession" = true := by first | (simp [plainName, overriddenIn]; done) | decide +kernel
theorem d7_0 : decode prog_24_method_26_code 0 = .ok (.aload_n 0, 1) := by decide +kernel
theorem d7_1 : decode prog_24_method_26_code 1 = .ok (.ldc_w 259, 3) := by decide +kernel
theorem pd_214 : parseMethodDescriptor "(Ljava/lang/Object;Ljava/lang/String;)Ljava/lang/Object;" = some ⟨[(.object "java/lang/Object"), (.object "java/lang/String")], some (.object "java/lang/Object")⟩ := by decide +kernel
theorem d7_4 : decode prog_24_method_26_code 4 = .ok (.invokestatic 206, 3) := by decide +kernel
theorem d7_7 : decode prog_24_method_26_code 7 = .ok (.pop, 1) := by decide +kernel
theorem d7_8 : decode prog_24_method_26_code 8 = .ok (.aload_n 0, 1) := by decide +kernel
theorem pd_218 : parseMethodDescriptor "()Z" = some ⟨[], some .boolean⟩ := by decide +kernel
theorem d7_9 : decode prog_24_method_26_code 9 = .ok (.invokevirtual 261, 3) := by decide +kernel
theorem d7_12 : decode prog_24_method_26_code 12 = .ok (.ifCond .eq 14, 3) := by decide +kernel
theorem d7_26 : decode prog_24_method_26_code 26 = .ok (.return_, 1) := by decide +kernel
def Q_rmCheck (Z : State) (a : Addr) (b : Addr) (kb : ClassId) (vs : List Value) (ln : Int32) (h0 : Heap) (n0 : Nat) (v : Option Value) (h : Heap) (L : List Loc) : Prop := v = none ∧ Fr n0 L ∧ Keep h0 h []
set_option maxRecDepth 65536 in
set_option maxHeartbeats 40000000 in
theorem rmCheck (l : Launch) (Z : State) (a0 : Array Value) (hw : ∀ d ∈ tables_1, d.before a0 Z = true) (ws : List Jvm.Cond) (a : Addr) (b : Addr) (kb : ClassId) (vs : List Value) (ln : Int32) (h0 : Heap) (n0 : Nat) (Z0 : n0 ≤ h0.size) (O0 : Old Z n0 h0) (E_a : Exa Z h0 a "java/lang/String") (F_a_value : Fld Z h0 a "java/lang/String" "value" "[B" (.ref b)) (V_b : Arv Z h0 b kb .byte ln vs (.int 0)) (hne : (¬ ln = 0)) :
    MetFree l (⟨"com/example/sessionkeep/sessionkeep/store/StoredSession", "checkPrincipalNameAttribute", "(Ljava/lang/String;)V"⟩ : MethodName) (head1 (Jvm.Cond.code (⟨"com/example/sessionkeep/sessionkeep/store/StoredSession", "checkPrincipalNameAttribute", "(Ljava/lang/String;)V"⟩ : MethodName) prog_24_method_26_code 1 none :: ws) ({ frames := 1, cells := 2, slots := 56, locals := 13 } : Room)) (fun as' U => as' = #[(.ref a)] ∧ Z.Warmed39 U.vm ∧ U.heap = h0 ∧ CHv Z own_EL U.vm h0) (fun _ _ _ _ _ => True) (fun _ U o U' => ∃ v L, o = .returned v ∧ Q_rmCheck Z a b kb vs ln h0 n0 v U'.heap L ∧ CHr Z own_EL U.vm U.heap U'.vm U'.heap ∧ ReturnedEndW U o U' L ({ frames := 1, cells := 2, slots := 56, locals := 13 } : Room).cells ({ frames := 1, cells := 2, slots := 56, locals := 13 } : Room).slots) := by
  refine MetFree.of_bodySF (plainFor_of_name pn_211) hisR ?_
  intro p e s m args below meth c s₁ Bd hml0 hP hK
  obtain ⟨rfl, hZ, hh, hH⟩ := hP
  have hx := Bd.exec
  have hby := Bd.bytes
  have hml : c.maxLocals = 1 := hml0
  have hown : s.vm.findClass "com/example/sessionkeep/sessionkeep/store/StoredSession" = some m.cls := findClass_of_methodNamed Bd.named
  have hnm := (name_of_methodNamed Bd.named Bd.method).1
  have X0 : Stand p l e ({ frames := 1, cells := 2, slots := 56, locals := 13 } : Room) (s.setVm s.vm) m #[(.ref a)] below meth c s₁ [] 0 0 := Stand.of_body Bd
  have e0 : s₁.heap = h0 := by rw [← hh, Bd.state]; rfl
  have N0 := Fr.nil n0
  have hS0 : s.Since s.vm s.heap.size := (State.WarmedH.refl s).since _
  have hk0 : s.heap.size ≤ h0.size := Nat.le_of_eq (by rw [hh])
  have C0 : CHr Z own_EL s.vm h0 s.vm h0 := CHr.refl hH
  have hEL := own_EW hw
  have hSA := own_SA hw
  refine Go.enter (F := EndW Z own_EL s (Q_rmCheck Z a b kb vs ln h0 n0) ({ frames := 1, cells := 2, slots := 56, locals := 13 } : Room).cells ({ frames := 1, cells := 2, slots := 56, locals := 13 } : Room).slots) (ef_185 m a) ?_
  show Go _ _ _ _ s₁ (mkF m 0 #[rv a] [])
  refine Go.aload1 1 X0 hx (hb hby d7_0) rfl rfl rfl ?_
  obtain ⟨q1, T1, h1, kq1, X1, e1, E1, hS1, hk1, hZ1, hown1, st1⟩ := ldcSW X0 hx hZ hown (ow hw 35 rfl) hSA e0 hS0 hk0 (g := (mkF m 1 #[rv a] [(.ref a)])) rfl (hb hby d7_1) (n := 52) (by decide) (by decide) (by decide) (by decide)
  have CH1 : CHr Z own_EL s.vm h0 T1.vm h1 := ⟨(fun _ hp => by cases hp), E1.1, fun y q => by obtain ⟨_, hp, -⟩ := q; cases hp⟩
  have C2 : CHr Z own_EL s.vm h0 T1.vm h1 := C0.trans CH1
  refine Go.by st1 ?_
  show Go _ _ _ _ T1 (mkF m 4 #[rv a] [(.ref q1), (.ref a)])
  have F3 : n0 ≤ h1.size := Nat.le_trans Z0 E1.1
  obtain ⟨_, _, ⟨T4, L4, k4, n4⟩, -, X4, ⟨Lc4, hQ4, l4, y4, z4⟩, st4⟩ := Jvm.LawKit.callS X1 hx (y := (⟨"java/util/Objects", "requireNonNull", "(Ljava/lang/Object;Ljava/lang/String;)Ljava/lang/Object;"⟩ : MethodName)) hown1 (mvT hZ1 (ow hw 38 rfl)) (mvT hZ1 (ow hw 39 rfl)) (mvT hZ1 (ow hw 40 rfl)) (mvT hZ1 (ow hw 41 rfl)) (by decide) (backOf (W := 0) (rmRnn l Z a0 hw [] a q1 h1 n0 F3 ) hZ1 (ow hw 41 rfl) (ow hw 40 rfl) (by decide) (by decide)) (g := (mkF m 4 #[rv a] [(.ref q1), (.ref a)])) rfl (by rw [hml]; rfl) (argsL := [(.ref a), (.ref q1)]) (rest := []) (lenOf pd_214 rfl) rfl (by show 2 * 0 + _ ≤ _; exact Nat.le_of_eq rfl) (hb hby d7_4) (fun _ _ => ⟨rfl, e1, (by decide : 2 + 0 ≤ _), (by decide : 56 + 0 ≤ _)⟩)
  dsimp only [Pt.U, Pt.locs, Pt.cells, Pt.slots] at X4 l4 y4 z4 st4 hQ4
  subst l4 y4 z4
  obtain ⟨rfl, N4q, e4⟩ := hQ4
  have N4 := Fr.app N0 N4q
  refine Go.by st4 ?_
  show Go _ _ _ _ T4 (mkF m 7 #[rv a] [(.ref a)])
  refine Go.pop 8 X4 hx (hb hby d7_7) rfl rfl ?_
  refine Go.aload1 9 X4 hx (hb hby d7_8) rfl rfl rfl ?_
  have F5 : Fld Z h1 a "java/lang/String" "value" "[B" (.ref b) := F_a_value.ext E1
  have F6 : Arv Z h1 b kb .byte ln vs (.int 0) := V_b.ext E1
  have F8 : Exa Z h1 a "java/lang/String" := E_a.ext E1
  obtain ⟨cq7, kq7, q7a, q7b, q7c⟩ := isOf hZ1 e4 F8
  obtain ⟨_, _, ⟨T7, L7, k7, n7⟩, -, X7, ⟨Lc7, hQ7, l7, y7, z7⟩, st7⟩ := X4.virtualBack hx (y := (⟨"java/lang/String", "isEmpty", "()Z"⟩ : MethodName)) (z := (⟨"java/lang/String", "isEmpty", "()Z"⟩ : MethodName)) hown1 (mvT hZ1 (ow hw 42 rfl)) (mvT hZ1 (ow hw 43 rfl)) (notFace_of_selects (args := #[]) (mvT hZ1 (ow hw 45 rfl))) (mvT hZ1 (ow hw 45 rfl)) (mvT hZ1 (ow hw 44 rfl)) (by decide) (backOf (W := 0) (rmEmpty l Z a0 hw [] a b kb vs ln h1 n0 F3 F5 F6 hne) hZ1 (ow hw 46 rfl) (ow hw 4 rfl) (by decide) (by decide)) q7a q7c (g := (mkF m 9 #[rv a] [(.ref a)])) rfl (by rw [hml]; rfl) (Steps.refl _) (argsL := []) (rest := []) (lenOf pd_218 rfl) rfl (by show 2 * 0 + _ ≤ _; exact Nat.le_of_eq rfl) (hb hby d7_9) (fun _ _ => ⟨rfl, e4, (by decide : 2 + 0 ≤ _), (by decide : 56 + 0 ≤ _)⟩)
  dsimp only [Pt.U, Pt.locs, Pt.cells, Pt.slots] at X7 l7 y7 z7 st7 hQ7
  subst l7 y7 z7
  obtain ⟨rfl, N7q, e7⟩ := hQ7
  have N7 := Fr.app N4 N7q
  refine Go.to st7 ?_
  show Go _ _ _ _ T7 (mkF m 12 #[rv a] [(.int 0)])
  refine Go.ifY 26 X7 hx (hb hby d7_12) (XT.i0_eq_t rfl) (by decide) (by decide) ?_
  have F9 : Keep h0 h1 [] := (Keep.refl h0 []).ext E1
  exact Go.retVW X7 hx Bd.notSynchronized hS1 (by rw [e7]; exact hk1) hZ1 hEL (by rw [hh, e7]; exact C2) Bd.returns (hb hby d7_26) (by rw [e7]; exact ⟨rfl, N7, F9⟩) (by decide) (by decide)
theorem own_n3 {x k : Int32} (h : k = (1 : Int32) + ((x &&& 2147483647) - (x &&& 2147483647) / 3 * 3)) : k = 1 ∨ k = 2 ∨ k = 3 := by
  obtain ⟨j, hj, e⟩ := own_rem 3 (own_masked x) (d := 3) rfl (by decide) rfl
  rw [e] at h
  subst h
  rcases (by omega : j = 0 ∨ j = 1 ∨ j = 2) with rfl | rfl | rfl <;> simp
theorem pn_222 : plainName "com/example/sessionkeep/sessionkeep/store/StoredSessionCheckPrincipalNameAttributePinLaw" = true := by first | (simp [plainName, overriddenIn]; done) | decide +kernel
theorem ef_223 (m : MethodId) (x0 : Int32) (x1 : Int32) (x2 : Int32) (x3 : Int32) : entryFrame m #[(.int x0), (.int x1), (.int x2), (.int x3)] 9 = mkF m 0 #[iv x0, iv x1, iv x2, iv x3, un, un, un, un, un] [] := by (first | (simp [entryFrame, mkF, argsToLocals, Value.category]; done) | rfl)
theorem pd_224 : parseMethodDescriptor "([C)V" = some ⟨[(.array .char)], none⟩ := by decide +kernel
theorem pd_225 : parseMethodDescriptor "(Ljava/lang/String;)V" = some ⟨[(.object "java/lang/String")], none⟩ := by decide +kernel
theorem pd_226 : parseMethodDescriptor "()I" = some ⟨[], some .int⟩ := by decide +kernel
def Q_rm0 (Z : State) (p0 : Int32) (p1 : Int32) (p2 : Int32) (p3 : Int32) (cs : Int32) (h0 : Heap) (n0 : Nat) (v : Option Value) (h : Heap) (L : List Loc) : Prop := v = some (.int 1) ∧ Fr n0 L
set_option maxRecDepth 65536 in
set_option maxHeartbeats 40000000 in
theorem rm0 (l : Launch) (Z : State) (a0 : Array Value) (hw : ∀ d ∈ tables_1, d.before a0 Z = true) (ws : List Jvm.Cond) (p0 : Int32) (p1 : Int32) (p2 : Int32) (p3 : Int32) (cs : Int32) (h0 : Heap) (n0 : Nat) (Z0 : n0 ≤ h0.size) (O0 : Old Z n0 h0) (S_cs : Sta Z Z.heap "java/lang/String" "COMPACT_STRINGS" "Z" (.int cs)) (n_cs : ¬ cs = 0) (U0 : Sta Z Z.heap "java/lang/StringUTF16" "$assertionsDisabled" "Z" (.int 1)) (U1 : Sta Z Z.heap "java/lang/StringUTF16" "HI_BYTE_SHIFT" "I" (.int 0)) (U2 : Sta Z Z.heap "java/lang/StringUTF16" "LO_BYTE_SHIFT" "I" (.int 8)) :
    MetFree l x (head1 (Jvm.Cond.code x code maxLocals ret :: ws) room_1) (fun as' U => as' = #[(.int p0), (.int p1), (.int p2), (.int p3)] ∧ Z.Warmed39 U.vm ∧ U.heap = h0 ∧ CHv Z own_EL U.vm h0) (fun _ _ _ _ _ => True) (fun _ U o U' => ∃ v L, o = .returned v ∧ Q_rm0 Z p0 p1 p2 p3 cs h0 n0 v U'.heap L ∧ CHr Z own_EL U.vm U.heap U'.vm U'.heap ∧ ReturnedEndW U o U' L 8 75) := by
  refine MetFree.of_bodySF (plainFor_of_name pn_222) hisR ?_
  intro p e s m args below meth c s₁ Bd hml0 hP hK
  obtain ⟨rfl, hZ, hh, hH⟩ := hP
  have hx := Bd.exec
  have hby := Bd.bytes
  have hml : c.maxLocals = 9 := hml0
  have hown : s.vm.findClass "com/example/sessionkeep/sessionkeep/store/StoredSessionCheckPrincipalNameAttributePinLaw" = some m.cls := findClass_of_methodNamed Bd.named
  have hnm := (name_of_methodNamed Bd.named Bd.method).1
  have X0 : Stand p l e room_1 (s.setVm s.vm) m #[(.int p0), (.int p1), (.int p2), (.int p3)] below meth c s₁ [] 0 0 := Stand.of_body Bd
  have e0 : s₁.heap = h0 := by rw [← hh, Bd.state]; rfl
  have N0 := Fr.nil n0
  have hS0 : s.Since s.vm s.heap.size := (State.WarmedH.refl s).since _
  have hk0 : s.heap.size ≤ h0.size := Nat.le_of_eq (by rw [hh])
  have C0 : CHr Z own_EL s.vm h0 s.vm h0 := CHr.refl hH
  have hEL := own_EW hw
  have hSA := own_SA hw
  refine Go.enter (F := EndW Z own_EL s (Q_rm0 Z p0 p1 p2 p3 cs h0 n0) 8 75) (ef_223 m p0 p1 p2 p3) ?_
  show Go _ _ _ _ s₁ (mkF m 0 #[iv p0, iv p1, iv p2, iv p3, un, un, un, un, un] [])
  refine Go.iconst 1 X0 hx (1 : Int32) (hb hby at_0) (by decide) rfl ?_
  refine Go.iload1 2 X0 hx (hb hby at_1) rfl rfl ?_
  refine Go.by (fun _ gk => X0.ldcI hx hown (mvT hZ (ow hw 0 rfl)) (g := (mkF m 2 #[iv p0, iv p1, iv p2, iv p3, un, un, un, un, un] [(.int p0), (.int 1)])) rfl (hb hby at_2) gk) ?_
  show Go _ _ _ _ s₁ (mkF m 4 #[iv p0, iv p1, iv p2, iv p3, un, un, un, un, un] [(.int 2147483647), (.int p0), (.int 1)])
  refine Go.iand 5 X0 hx (hb hby at_4) rfl ?_
  refine Go.iconst 6 X0 hx (3 : Int32) (hb hby at_5) (by decide) rfl ?_
  refine Go.irem 7 X0 hx (hb hby at_6) (by decide) rfl ?_
  refine Go.iadd 8 X0 hx (hb hby at_7) rfl ?_
  refine Go.istore2 10 X0 hx (L' := #[iv p0, iv p1, iv p2, iv p3, iv ((1 : Int32) + ((p0 &&& (2147483647 : Int32)) - (p0 &&& (2147483647 : Int32)) / (3 : Int32) * (3 : Int32))), un, un, un, un]) (hb hby at_8) rfl rfl ?_
  obtain ⟨n, h_n⟩ : ∃ z, z = ((1 : Int32) + ((p0 &&& (2147483647 : Int32)) - (p0 &&& (2147483647 : Int32)) / (3 : Int32) * (3 : Int32))) := ⟨_, rfl⟩
  rw [← h_n]
  show Go _ _ _ _ s₁ (mkF m 10 #[iv p0, iv p1, iv p2, iv p3, iv n, un, un, un, un] [])
  refine Go.iconst 11 X0 hx (1 : Int32) (hb hby at_10) (by decide) rfl ?_
  obtain ⟨v1, g1⟩ : ∃ z, z = h0.size := ⟨_, rfl⟩
  have ge_v1 : n0 ≤ v1 := Nat.le_trans Z0 (Nat.le_of_eq g1.symm)
  have sz_v1 : h0.size ≤ v1 := Nat.le_trans (Keep.refl h0 []).1 (Nat.le_of_eq g1.symm)
  obtain ⟨T1, h1, k1, X1, e1, E1, A1, Ea1, st1⟩ := newPE X0 hx hZ (ow hw 1 rfl) e0 (g := (mkF m 11 #[iv p0, iv p1, iv p2, iv p3, iv n, un, un, un, un] [(.int 1)])) rfl (hb hby at_11) rfl (by decide) (cap := 1) (by decide) (by decide) (by decide) (by decide) (ad := "[C") rfl
  rw [← g1] at A1 Ea1 st1
  have C2 : CHr Z own_EL s.vm h0 s.vm h1 := C0.trans (CHr.ext E1 C0.1)
  have Sf3 : Safe Z own_EL s.vm h1 v1 := Safe.ext E1 C0.1 (Safe.new (Nat.le_of_eq g1.symm))
  have V_v1 : Arv Z h1 v1 k1 .char (1 : Int32) [(.int 0)] (.int 0) := (Arv.new A1 (by decide)).pad (pad_rep [] (.int 0) 1)
  refine Go.by st1 ?_
  show Go _ _ _ _ T1 (mkF m 13 #[iv p0, iv p1, iv p2, iv p3, iv n, un, un, un, un] [(.ref v1)])
  refine Go.dup 14 X1 hx (hb hby at_13) rfl rfl ?_
  refine Go.iconst 15 X1 hx (0 : Int32) (hb hby at_14) (by decide) rfl ?_
  refine Go.iload1 16 X1 hx (hb hby at_15) rfl rfl ?_
  refine Go.i2c 17 X1 hx (hb hby at_16) rfl ?_
  obtain ⟨d0, h_d0⟩ : ∃ z, z = (p1.toUInt32.toUInt16.toUInt32.toInt32) := ⟨_, rfl⟩
  rw [← h_d0]
  show Go _ _ _ _ T1 (mkF m 17 #[iv p0, iv p1, iv p2, iv p3, iv n, un, un, un, un] [(.int d0), (.int 0), (.ref v1), (.ref v1)])
  have q_d0 := own_narc h_d0
  obtain ⟨cl4, Ar4, q4, S4, M4, H4, G4⟩ := id V_v1
  have hin4 : ¬ ((0 : Int32) < 0 ∨ cl4.slots.size ≤ (0 : Int32).toNatClampNeg) := inb_of S4 ⟨by decide, by decide⟩
  obtain ⟨T4, h4, X4, e4, W4, st4⟩ := stC X1 hx hZ e1 Ar4 (j := (0 : Int32)) hin4 (g := (mkF m 17 #[iv p0, iv p1, iv p2, iv p3, iv n, un, un, un, un] [(.int d0), (.int 0), (.ref v1), (.ref v1)])) rfl rfl (hb hby at_17)
  have C5 : CHr Z own_EL s.vm h0 s.vm h4 := C2.trans (CHr.wr W4 Sf3 C2.1)
  have Sf6 : Safe Z own_EL s.vm h4 v1 := Safe.wr W4 Sf3 C2.1 Sf3
  have N4 := Fr.snoc X4 N0 ge_v1
  have V4 : Arv Z h4 v1 k1 .char (1 : Int32) [(.int (nar .char d0))] (.int 0) := Arv.set Ar4 q4 S4 M4 H4 G4 (fits_nar_char _) W4 0 rfl (Nat.le_of_ble_eq_true rfl)
  refine Go.by st4 ?_
  show Go _ _ _ _ T4 (mkF m 18 #[iv p0, iv p1, iv p2, iv p3, iv n, un, un, un, un] [(.ref v1)])
  rw [q_d0] at V4
  refine Go.astore2 20 X4 hx (L' := #[iv p0, iv p1, iv p2, iv p3, iv n, rv v1, un, un, un]) (hb hby at_18) rfl rfl rfl ?_
  refine Go.iconst 21 X4 hx (2 : Int32) (hb hby at_20) (by decide) rfl ?_
  obtain ⟨v2, g7⟩ : ∃ z, z = h4.size := ⟨_, rfl⟩
  have F8 : n0 ≤ h1.size := Nat.le_trans Z0 E1.1
  have F9 : n0 ≤ h4.size := Nat.le_trans F8 (Nat.le_of_eq (Wr.size W4).symm)
  have ge_v2 : n0 ≤ v2 := Nat.le_trans F9 (Nat.le_of_eq g7.symm)
  have F10 : Keep h0 h1 [] := (Keep.refl h0 []).ext E1
  have F11 : Keep h0 h4 [] := F10.wr W4 (Or.inr sz_v1)
  have sz_v2 : h0.size ≤ v2 := Nat.le_trans F11.1 (Nat.le_of_eq g7.symm)
  have F12 : Exa Z h4 v1 "[C" := Ea1.wr W4
  have ne_v1_v2 : v1 ≠ v2 := Nat.ne_of_lt (Nat.lt_of_lt_of_le F12.lt (Nat.le_of_eq g7.symm))
  obtain ⟨T7, h7, k7, X7, e7, E7, A7, Ea7, st7⟩ := newPE X4 hx hZ (ow hw 1 rfl) e4 (g := (mkF m 21 #[iv p0, iv p1, iv p2, iv p3, iv n, rv v1, un, un, un] [(.int 2)])) rfl (hb hby at_21) rfl (by decide) (cap := 2) (by decide) (by decide) (by decide) (by decide) (ad := "[C") rfl
  rw [← g7] at A7 Ea7 st7
  have C13 : CHr Z own_EL s.vm h0 s.vm h7 := C5.trans (CHr.ext E7 C5.1)
  have Sf14 : Safe Z own_EL s.vm h7 v1 := Safe.ext E7 C5.1 Sf6
  have Sf15 : Safe Z own_EL s.vm h7 v2 := Safe.ext E7 C5.1 (Safe.new (Nat.le_of_eq g7.symm))
  have V_v2 : Arv Z h7 v2 k7 .char (2 : Int32) [(.int 0), (.int 0)] (.int 0) := (Arv.new A7 (by decide)).pad (pad_rep [] (.int 0) 2)
  refine Go.by st7 ?_
  show Go _ _ _ _ T7 (mkF m 23 #[iv p0, iv p1, iv p2, iv p3, iv n, rv v1, un, un, un] [(.ref v2)])
  refine Go.dup 24 X7 hx (hb hby at_23) rfl rfl ?_
  refine Go.iconst 25 X7 hx (0 : Int32) (hb hby at_24) (by decide) rfl ?_
  refine Go.iload1 26 X7 hx (hb hby at_25) rfl rfl ?_
  refine Go.i2c 27 X7 hx (hb hby at_26) rfl ?_
  rw [← h_d0]
  show Go _ _ _ _ T7 (mkF m 27 #[iv p0, iv p1, iv p2, iv p3, iv n, rv v1, un, un, un] [(.int d0), (.int 0), (.ref v2), (.ref v2)])
  obtain ⟨cl16, Ar16, q16, S16, M16, H16, G16⟩ := id V_v2
  have hin16 : ¬ ((0 : Int32) < 0 ∨ cl16.slots.size ≤ (0 : Int32).toNatClampNeg) := inb_of S16 ⟨by decide, by decide⟩
  obtain ⟨T16, h16, X16, e16, W16, st16⟩ := stC X7 hx hZ e7 Ar16 (j := (0 : Int32)) hin16 (g := (mkF m 27 #[iv p0, iv p1, iv p2, iv p3, iv n, rv v1, un, un, un] [(.int d0), (.int 0), (.ref v2), (.ref v2)])) rfl rfl (hb hby at_27)
  have C17 : CHr Z own_EL s.vm h0 s.vm h16 := C13.trans (CHr.wr W16 Sf15 C13.1)
  have Sf18 : Safe Z own_EL s.vm h16 v1 := Safe.wr W16 Sf15 C13.1 Sf14
  have Sf19 : Safe Z own_EL s.vm h16 v2 := Safe.wr W16 Sf15 C13.1 Sf15
  have N16 := Fr.snoc X16 N4 ge_v2
  have V16 : Arv Z h16 v2 k7 .char (2 : Int32) [(.int (nar .char d0)), (.int 0)] (.int 0) := Arv.set Ar16 q16 S16 M16 H16 G16 (fits_nar_char _) W16 0 rfl (Nat.le_of_ble_eq_true rfl)
  refine Go.by st16 ?_
  show Go _ _ _ _ T16 (mkF m 28 #[iv p0, iv p1, iv p2, iv p3, iv n, rv v1, un, un, un] [(.ref v2)])
  rw [q_d0] at V16
  refine Go.dup 29 X16 hx (hb hby at_28) rfl rfl ?_
  refine Go.iconst 30 X16 hx (1 : Int32) (hb hby at_29) (by decide) rfl ?_
  refine Go.iload1 31 X16 hx (hb hby at_30) rfl rfl ?_
  refine Go.i2c 32 X16 hx (hb hby at_31) rfl ?_
  obtain ⟨d1, h_d1⟩ : ∃ z, z = (p2.toUInt32.toUInt16.toUInt32.toInt32) := ⟨_, rfl⟩
  rw [← h_d1]
  show Go _ _ _ _ T16 (mkF m 32 #[iv p0, iv p1, iv p2, iv p3, iv n, rv v1, un, un, un] [(.int d1), (.int 1), (.ref v2), (.ref v2)])
  have q_d1 := own_narc h_d1
  obtain ⟨cl20, Ar20, q20, S20, M20, H20, G20⟩ := id V16
  have hin20 : ¬ ((1 : Int32) < 0 ∨ cl20.slots.size ≤ (1 : Int32).toNatClampNeg) := inb_of S20 ⟨by decide, by decide⟩
  obtain ⟨T20, h20, X20, e20, W20, st20⟩ := stC X16 hx hZ e16 Ar20 (j := (1 : Int32)) hin20 (g := (mkF m 32 #[iv p0, iv p1, iv p2, iv p3, iv n, rv v1, un, un, un] [(.int d1), (.int 1), (.ref v2), (.ref v2)])) rfl rfl (hb hby at_32)
  have C21 : CHr Z own_EL s.vm h0 s.vm h20 := C17.trans (CHr.wr W20 Sf19 C17.1)
  have Sf22 : Safe Z own_EL s.vm h20 v1 := Safe.wr W20 Sf19 C17.1 Sf18
  have Sf23 : Safe Z own_EL s.vm h20 v2 := Safe.wr W20 Sf19 C17.1 Sf19
  have N20 := Fr.snoc X20 N16 ge_v2
  have V20 : Arv Z h20 v2 k7 .char (2 : Int32) [(.int d0), (.int (nar .char d1))] (.int 0) := Arv.set Ar20 q20 S20 M20 H20 G20 (fits_nar_char _) W20 1 rfl (Nat.le_of_ble_eq_true rfl)
  refine Go.by st20 ?_
  show Go _ _ _ _ T20 (mkF m 33 #[iv p0, iv p1, iv p2, iv p3, iv n, rv v1, un, un, un] [(.ref v2)])
  rw [q_d1] at V20
  refine Go.astore2 35 X20 hx (L' := #[iv p0, iv p1, iv p2, iv p3, iv n, rv v1, rv v2, un, un]) (hb hby at_33) rfl rfl rfl ?_
  refine Go.iconst 36 X20 hx (3 : Int32) (hb hby at_35) (by decide) rfl ?_
  obtain ⟨v3, g24⟩ : ∃ z, z = h20.size := ⟨_, rfl⟩
  have F25 : n0 ≤ h7.size := Nat.le_trans F9 E7.1
  have F26 : n0 ≤ h16.size := Nat.le_trans F25 (Nat.le_of_eq (Wr.size W16).symm)
  have F27 : n0 ≤ h20.size := Nat.le_trans F26 (Nat.le_of_eq (Wr.size W20).symm)
  have ge_v3 : n0 ≤ v3 := Nat.le_trans F27 (Nat.le_of_eq g24.symm)
  have F28 : Keep h0 h7 [] := F11.ext E7
  have F29 : Keep h0 h16 [] := F28.wr W16 (Or.inr sz_v2)
  have F30 : Keep h0 h20 [] := F29.wr W20 (Or.inr sz_v2)
  have sz_v3 : h0.size ≤ v3 := Nat.le_trans F30.1 (Nat.le_of_eq g24.symm)
  have F31 : Exa Z h7 v1 "[C" := F12.ext E7
  have F32 : Exa Z h16 v1 "[C" := F31.wr W16
  have F33 : Exa Z h20 v1 "[C" := F32.wr W20
  have ne_v1_v3 : v1 ≠ v3 := Nat.ne_of_lt (Nat.lt_of_lt_of_le F33.lt (Nat.le_of_eq g24.symm))
  have F34 : Exa Z h16 v2 "[C" := Ea7.wr W16
  have F35 : Exa Z h20 v2 "[C" := F34.wr W20
  have ne_v2_v3 : v2 ≠ v3 := Nat.ne_of_lt (Nat.lt_of_lt_of_le F35.lt (Nat.le_of_eq g24.symm))
  obtain ⟨T24, h24, k24, X24, e24, E24, A24, Ea24, st24⟩ := newPE X20 hx hZ (ow hw 1 rfl) e20 (g := (mkF m 36 #[iv p0, iv p1, iv p2, iv p3, iv n, rv v1, rv v2, un, un] [(.int 3)])) rfl (hb hby at_36) rfl (by decide) (cap := 3) (by decide) (by decide) (by decide) (by decide) (ad := "[C") rfl
  rw [← g24] at A24 Ea24 st24
  have C36 : CHr Z own_EL s.vm h0 s.vm h24 := C21.trans (CHr.ext E24 C21.1)
  have Sf37 : Safe Z own_EL s.vm h24 v1 := Safe.ext E24 C21.1 Sf22
  have Sf38 : Safe Z own_EL s.vm h24 v2 := Safe.ext E24 C21.1 Sf23
  have Sf39 : Safe Z own_EL s.vm h24 v3 := Safe.ext E24 C21.1 (Safe.new (Nat.le_of_eq g24.symm))
  have V_v3 : Arv Z h24 v3 k24 .char (3 : Int32) [(.int 0), (.int 0), (.int 0)] (.int 0) := (Arv.new A24 (by decide)).pad (pad_rep [] (.int 0) 3)
  refine Go.by st24 ?_
  show Go _ _ _ _ T24 (mkF m 38 #[iv p0, iv p1, iv p2, iv p3, iv n, rv v1, rv v2, un, un] [(.ref v3)])
  refine Go.dup 39 X24 hx (hb hby at_38) rfl rfl ?_
  refine Go.iconst 40 X24 hx (0 : Int32) (hb hby at_39) (by decide) rfl ?_
  refine Go.iload1 41 X24 hx (hb hby at_40) rfl rfl ?_
  refine Go.i2c 42 X24 hx (hb hby at_41) rfl ?_
  rw [← h_d0]
  show Go _ _ _ _ T24 (mkF m 42 #[iv p0, iv p1, iv p2, iv p3, iv n, rv v1, rv v2, un, un] [(.int d0), (.int 0), (.ref v3), (.ref v3)])
  obtain ⟨cl40, Ar40, q40, S40, M40, H40, G40⟩ := id V_v3
  have hin40 : ¬ ((0 : Int32) < 0 ∨ cl40.slots.size ≤ (0 : Int32).toNatClampNeg) := inb_of S40 ⟨by decide, by decide⟩
  obtain ⟨T40, h40, X40, e40, W40, st40⟩ := stC X24 hx hZ e24 Ar40 (j := (0 : Int32)) hin40 (g := (mkF m 42 #[iv p0, iv p1, iv p2, iv p3, iv n, rv v1, rv v2, un, un] [(.int d0), (.int 0), (.ref v3), (.ref v3)])) rfl rfl (hb hby at_42)
  have C41 : CHr Z own_EL s.vm h0 s.vm h40 := C36.trans (CHr.wr W40 Sf39 C36.1)
  have Sf42 : Safe Z own_EL s.vm h40 v1 := Safe.wr W40 Sf39 C36.1 Sf37
  have Sf43 : Safe Z own_EL s.vm h40 v2 := Safe.wr W40 Sf39 C36.1 Sf38
  have Sf44 : Safe Z own_EL s.vm h40 v3 := Safe.wr W40 Sf39 C36.1 Sf39
  have N40 := Fr.snoc X40 N20 ge_v3
  have V40 : Arv Z h40 v3 k24 .char (3 : Int32) [(.int (nar .char d0)), (.int 0), (.int 0)] (.int 0) := Arv.set Ar40 q40 S40 M40 H40 G40 (fits_nar_char _) W40 0 rfl (Nat.le_of_ble_eq_true rfl)
  refine Go.by st40 ?_
  show Go _ _ _ _ T40 (mkF m 43 #[iv p0, iv p1, iv p2, iv p3, iv n, rv v1, rv v2, un, un] [(.ref v3)])
  rw [q_d0] at V40
  refine Go.dup 44 X40 hx (hb hby at_43) rfl rfl ?_
  refine Go.iconst 45 X40 hx (1 : Int32) (hb hby at_44) (by decide) rfl ?_
  refine Go.iload1 46 X40 hx (hb hby at_45) rfl rfl ?_
  refine Go.i2c 47 X40 hx (hb hby at_46) rfl ?_
  rw [← h_d1]
  show Go _ _ _ _ T40 (mkF m 47 #[iv p0, iv p1, iv p2, iv p3, iv n, rv v1, rv v2, un, un] [(.int d1), (.int 1), (.ref v3), (.ref v3)])
  obtain ⟨cl45, Ar45, q45, S45, M45, H45, G45⟩ := id V40
  have hin45 : ¬ ((1 : Int32) < 0 ∨ cl45.slots.size ≤ (1 : Int32).toNatClampNeg) := inb_of S45 ⟨by decide, by decide⟩
  obtain ⟨T45, h45, X45, e45, W45, st45⟩ := stC X40 hx hZ e40 Ar45 (j := (1 : Int32)) hin45 (g := (mkF m 47 #[iv p0, iv p1, iv p2, iv p3, iv n, rv v1, rv v2, un, un] [(.int d1), (.int 1), (.ref v3), (.ref v3)])) rfl rfl (hb hby at_47)
  have C46 : CHr Z own_EL s.vm h0 s.vm h45 := C41.trans (CHr.wr W45 Sf44 C41.1)
  have Sf47 : Safe Z own_EL s.vm h45 v1 := Safe.wr W45 Sf44 C41.1 Sf42
  have Sf48 : Safe Z own_EL s.vm h45 v2 := Safe.wr W45 Sf44 C41.1 Sf43
  have Sf49 : Safe Z own_EL s.vm h45 v3 := Safe.wr W45 Sf44 C41.1 Sf44
  have N45 := Fr.snoc X45 N40 ge_v3
  have V45 : Arv Z h45 v3 k24 .char (3 : Int32) [(.int d0), (.int (nar .char d1)), (.int 0)] (.int 0) := Arv.set Ar45 q45 S45 M45 H45 G45 (fits_nar_char _) W45 1 rfl (Nat.le_of_ble_eq_true rfl)
  refine Go.by st45 ?_
  show Go _ _ _ _ T45 (mkF m 48 #[iv p0, iv p1, iv p2, iv p3, iv n, rv v1, rv v2, un, un] [(.ref v3)])
  rw [q_d1] at V45
  refine Go.dup 49 X45 hx (hb hby at_48) rfl rfl ?_
  refine Go.iconst 50 X45 hx (2 : Int32) (hb hby at_49) (by decide) rfl ?_
  refine Go.iload1 51 X45 hx (hb hby at_50) rfl rfl ?_
  refine Go.i2c 52 X45 hx (hb hby at_51) rfl ?_
  obtain ⟨d2, h_d2⟩ : ∃ z, z = (p3.toUInt32.toUInt16.toUInt32.toInt32) := ⟨_, rfl⟩
  rw [← h_d2]
  show Go _ _ _ _ T45 (mkF m 52 #[iv p0, iv p1, iv p2, iv p3, iv n, rv v1, rv v2, un, un] [(.int d2), (.int 2), (.ref v3), (.ref v3)])
  have q_d2 := own_narc h_d2
  obtain ⟨cl50, Ar50, q50, S50, M50, H50, G50⟩ := id V45
  have hin50 : ¬ ((2 : Int32) < 0 ∨ cl50.slots.size ≤ (2 : Int32).toNatClampNeg) := inb_of S50 ⟨by decide, by decide⟩
  obtain ⟨T50, h50, X50, e50, W50, st50⟩ := stC X45 hx hZ e45 Ar50 (j := (2 : Int32)) hin50 (g := (mkF m 52 #[iv p0, iv p1, iv p2, iv p3, iv n, rv v1, rv v2, un, un] [(.int d2), (.int 2), (.ref v3), (.ref v3)])) rfl rfl (hb hby at_52)
  have C51 : CHr Z own_EL s.vm h0 s.vm h50 := C46.trans (CHr.wr W50 Sf49 C46.1)
  have Sf52 : Safe Z own_EL s.vm h50 v1 := Safe.wr W50 Sf49 C46.1 Sf47
  have Sf53 : Safe Z own_EL s.vm h50 v2 := Safe.wr W50 Sf49 C46.1 Sf48
  have Sf54 : Safe Z own_EL s.vm h50 v3 := Safe.wr W50 Sf49 C46.1 Sf49
  have N50 := Fr.snoc X50 N45 ge_v3
  have V50 : Arv Z h50 v3 k24 .char (3 : Int32) [(.int d0), (.int d1), (.int (nar .char d2))] (.int 0) := Arv.set Ar50 q50 S50 M50 H50 G50 (fits_nar_char _) W50 2 rfl (Nat.le_of_ble_eq_true rfl)
  refine Go.by st50 ?_
  show Go _ _ _ _ T50 (mkF m 53 #[iv p0, iv p1, iv p2, iv p3, iv n, rv v1, rv v2, un, un] [(.ref v3)])
  rw [q_d2] at V50
  refine Go.astore2 55 X50 hx (L' := #[iv p0, iv p1, iv p2, iv p3, iv n, rv v1, rv v2, rv v3, un]) (hb hby at_53) rfl rfl rfl ?_
  refine Go.iload2 57 X50 hx (hb hby at_55) rfl rfl ?_
  refine Go.iconst 58 X50 hx (1 : Int32) (hb hby at_57) (by decide) rfl ?_
  rcases own_n3 h_n with rfl | rfl | rfl
  · show Go _ _ _ _ T50 (mkF m 58 #[iv p0, iv p1, iv p2, iv p3, iv 1, rv v1, rv v2, rv v3, un] [(.int 1), (.int 1)])
    refine Go.icmpN 61 X50 hx (hb hby at_58) (XT.ii_ne_f rfl) rfl ?_
    have F56 : n0 ≤ h24.size := Nat.le_trans F27 E24.1
    have F57 : n0 ≤ h40.size := Nat.le_trans F56 (Nat.le_of_eq (Wr.size W40).symm)
    have F58 : n0 ≤ h45.size := Nat.le_trans F57 (Nat.le_of_eq (Wr.size W45).symm)
    have F59 : n0 ≤ h50.size := Nat.le_trans F58 (Nat.le_of_eq (Wr.size W50).symm)
    obtain ⟨st, g55⟩ : ∃ z, z = h50.size := ⟨_, rfl⟩
    have ge_st : n0 ≤ st := Nat.le_trans F59 (Nat.le_of_eq g55.symm)
    have F60 : Keep h0 h24 [] := F30.ext E24
    have F61 : Keep h0 h40 [] := F60.wr W40 (Or.inr sz_v3)
    have F62 : Keep h0 h45 [] := F61.wr W45 (Or.inr sz_v3)
    have F63 : Keep h0 h50 [] := F62.wr W50 (Or.inr sz_v3)
    have sz_st : h0.size ≤ st := Nat.le_trans F63.1 (Nat.le_of_eq g55.symm)
    have F64 : Exa Z h24 v1 "[C" := F33.ext E24
    have F65 : Exa Z h40 v1 "[C" := F64.wr W40
    have F66 : Exa Z h45 v1 "[C" := F65.wr W45
    have F67 : Exa Z h50 v1 "[C" := F66.wr W50
    have ne_v1_st : v1 ≠ st := Nat.ne_of_lt (Nat.lt_of_lt_of_le F67.lt (Nat.le_of_eq g55.symm))
    have F68 : Exa Z h24 v2 "[C" := F35.ext E24
    have F69 : Exa Z h40 v2 "[C" := F68.wr W40
    have F70 : Exa Z h45 v2 "[C" := F69.wr W45
    have F71 : Exa Z h50 v2 "[C" := F70.wr W50
    have ne_v2_st : v2 ≠ st := Nat.ne_of_lt (Nat.lt_of_lt_of_le F71.lt (Nat.le_of_eq g55.symm))
    have F72 : Exa Z h40 v3 "[C" := Ea24.wr W40
    have F73 : Exa Z h45 v3 "[C" := F72.wr W45
    have F74 : Exa Z h50 v3 "[C" := F73.wr W50
    have ne_v3_st : v3 ≠ st := Nat.ne_of_lt (Nat.lt_of_lt_of_le F74.lt (Nat.le_of_eq g55.symm))
    obtain ⟨T55, h55, X55, e55, E55, A55, D55, -, st55⟩ := newO X50 hx hZ hown (ow hw 2 rfl) (ow hw 3 rfl) (ow hw 4 rfl) e50 (g := (mkF m 61 #[iv p0, iv p1, iv p2, iv p3, iv 1, rv v1, rv v2, rv v3, un] [])) rfl (hb hby at_61) (by decide) (by decide)
    rw [← g55] at A55 D55 st55
    have C75 : CHr Z own_EL s.vm h0 s.vm h55 := C51.trans (CHr.ext E55 C51.1)
    have Sf76 : Safe Z own_EL s.vm h55 v1 := Safe.ext E55 C51.1 Sf52
    have Sf77 : Safe Z own_EL s.vm h55 v2 := Safe.ext E55 C51.1 Sf53
    have Sf78 : Safe Z own_EL s.vm h55 v3 := Safe.ext E55 C51.1 Sf54
    have Sf79 : Safe Z own_EL s.vm h55 st := Safe.ext E55 C51.1 (Safe.new (Nat.le_of_eq g55.symm))
    have F_coder_st : Fld Z h55 st "java/lang/String" "coder" "B" (.int 0) := D55 (Or.inr (ow hw 28 rfl)) (ty := .byte) (by decide)
    have F_value_st : Fld Z h55 st "java/lang/String" "value" "[B" .null := D55 (Or.inr (ow hw 30 rfl)) (ty := (.array .byte)) (by decide)
    refine Go.by st55 ?_
    show Go _ _ _ _ T55 (mkF m 64 #[iv p0, iv p1, iv p2, iv p3, iv 1, rv v1, rv v2, rv v3, un] [(.ref st)])
    refine Go.dup 65 X55 hx (hb hby at_64) rfl rfl ?_
    refine Go.aload2 67 X55 hx (hb hby at_65) rfl rfl rfl ?_
    have F80 : Old Z n0 h1 := O0.ext E1
    have F81 : Old Z n0 h4 := F80.wr W4 ge_v1
    have F82 : Old Z n0 h7 := F81.ext E7
    have F83 : Old Z n0 h16 := F82.wr W16 ge_v2
    have F84 : Old Z n0 h20 := F83.wr W20 ge_v2
    have F85 : Old Z n0 h24 := F84.ext E24
    have F86 : Old Z n0 h40 := F85.wr W40 ge_v3
    have F87 : Old Z n0 h45 := F86.wr W45 ge_v3
    have F88 : Old Z n0 h50 := F87.wr W50 ge_v3
    have F89 : Old Z n0 h55 := F88.ext E55
    have F90 : Arv Z h7 v1 k1 .char (1 : Int32) [(.int d0)] (.int 0) := V4.ext E7
    have F91 : Arv Z h16 v1 k1 .char (1 : Int32) [(.int d0)] (.int 0) := F90.other W16 ne_v1_v2
    have F92 : Arv Z h20 v1 k1 .char (1 : Int32) [(.int d0)] (.int 0) := F91.other W20 ne_v1_v2
    have F93 : Arv Z h24 v1 k1 .char (1 : Int32) [(.int d0)] (.int 0) := F92.ext E24
    have F94 : Arv Z h40 v1 k1 .char (1 : Int32) [(.int d0)] (.int 0) := F93.other W40 ne_v1_v3
    have F95 : Arv Z h45 v1 k1 .char (1 : Int32) [(.int d0)] (.int 0) := F94.other W45 ne_v1_v3
    have F96 : Arv Z h50 v1 k1 .char (1 : Int32) [(.int d0)] (.int 0) := F95.other W50 ne_v1_v3
    have F97 : Arv Z h55 v1 k1 .char (1 : Int32) [(.int d0)] (.int 0) := F96.ext E55
    have F98 : n0 ≤ h55.size := Nat.le_trans F59 E55.1
    have F99 : Keep h0 h55 [] := F63.ext E55
    have F100 : Exa Z h55 v1 "[C" := F67.ext E55
    have F101 : Exa Z h55 v2 "[C" := F71.ext E55
    have F102 : Exa Z h55 v3 "[C" := F74.ext E55
    obtain ⟨_, _, ⟨T103, L103, k103, n103⟩, -, X103, ⟨Lc103, hQ103, l103, y103, z103⟩, st103⟩ := X55.specialBack hx (y := (⟨"java/lang/String", "<init>", "([C)V"⟩ : MethodName)) rfl hown (mvT hZ (ow hw 5 rfl)) (mvT hZ (ow hw 6 rfl)) (mvT hZ (ow hw 7 rfl)) (by decide) (backOf (W := 1) (rmS1_1 l Z a0 hw [] st v1 k1 d0 cs h55 n0 F98 F89 A55 F_value_st F_coder_st ge_st F97 q_d0 S_cs n_cs U0 U1 U2) hZ (ow hw 7 rfl) (ow hw 4 rfl) (by decide) (by decide)) (g := (mkF m 67 #[iv p0, iv p1, iv p2, iv p3, iv 1, rv v1, rv v2, rv v3, un] [(.ref v1), (.ref st), (.ref st)])) rfl (by rw [hml]; rfl) (Steps.refl _) (a := st) (argsL := [(.ref v1)]) (rest := [(.ref st)]) (lenOf pd_224 rfl) rfl (by show 2 * 0 + _ ≤ _; exact Nat.le_of_eq rfl) (hb hby at_67) (fun _ _ => ⟨rfl, e55, (by decide : 4 + 2 ≤ _), (by decide : 10 + 3 ≤ _)⟩)
    dsimp only [Pt.U, Pt.locs, Pt.cells, Pt.slots] at X103 l103 y103 z103 st103 hQ103
    subst l103 y103 z103
    obtain ⟨sb, kb, vs, ln, cd, rfl, N103q, K103, Q103_0, Q103_1, Q103_2, Q103_3, Q103_4, Q103_5⟩ := hQ103
    have N103 := Fr.app N50 N103q
    have C104 : CHr Z own_EL s.vm h0 s.vm T103.heap := C75.trans (CHr.keep K103 (sfS Sf79 sf0) C75.1)
    have Sf105 : Safe Z own_EL s.vm T103.heap v1 := Safe.keep K103 (sfS Sf79 sf0) C75.1 Sf76
    have Sf106 : Safe Z own_EL s.vm T103.heap v2 := Safe.keep K103 (sfS Sf79 sf0) C75.1 Sf77
    have Sf107 : Safe Z own_EL s.vm T103.heap v3 := Safe.keep K103 (sfS Sf79 sf0) C75.1 Sf78
    have Sf108 : Safe Z own_EL s.vm T103.heap st := Safe.keep K103 (sfS Sf79 sf0) C75.1 Sf79
    refine Go.to st103 ?_
    show Go _ _ _ _ T103 (mkF m 70 #[iv p0, iv p1, iv p2, iv p3, iv 1, rv v1, rv v2, rv v3, un] [(.ref st)])
    have ge_sb : n0 ≤ sb := Nat.le_trans F98 Q103_4
    have sz_sb : h0.size ≤ sb := Nat.le_trans F99.1 Q103_4
    have ne_st_sb : st ≠ sb := Nat.ne_of_lt (Nat.lt_of_lt_of_le A55.lt Q103_4)
    have ne_v1_sb : v1 ≠ sb := Nat.ne_of_lt (Nat.lt_of_lt_of_le F97.lt Q103_4)
    have ne_v2_sb : v2 ≠ sb := Nat.ne_of_lt (Nat.lt_of_lt_of_le F101.lt Q103_4)
    have ne_v3_sb : v3 ≠ sb := Nat.ne_of_lt (Nat.lt_of_lt_of_le F102.lt Q103_4)
    refine Go.astore2 72 X103 hx (L' := #[iv p0, iv p1, iv p2, iv p3, iv 1, rv v1, rv v2, rv v3, rv st]) (hb hby at_70) rfl rfl rfl ?_
    refine Go.goto 106 X103 hx (hb hby at_72) (by decide) (by decide) ?_
    refine Go.aload2 108 X103 hx (hb hby at_106) rfl rfl rfl ?_
    rcases Q103_5 with ⟨rfl, rfl⟩ | ⟨rfl, rfl⟩
    · have F109 : Old Z n0 T103.heap := F89.keep K103 (allS ge_st all0)
      have F110 : n0 ≤ T103.heap.size := Nat.le_trans F98 K103.1
      have F112 : s.heap.size ≤ h1.size := Nat.le_trans hk0 E1.1
      have F113 : s.heap.size ≤ h4.size := Nat.le_trans F112 (Nat.le_of_eq (Wr.size W4).symm)
      have F114 : s.heap.size ≤ h7.size := Nat.le_trans F113 E7.1
      have F115 : s.heap.size ≤ h16.size := Nat.le_trans F114 (Nat.le_of_eq (Wr.size W16).symm)
      have F116 : s.heap.size ≤ h20.size := Nat.le_trans F115 (Nat.le_of_eq (Wr.size W20).symm)
      have F117 : s.heap.size ≤ h24.size := Nat.le_trans F116 E24.1
      have F118 : s.heap.size ≤ h40.size := Nat.le_trans F117 (Nat.le_of_eq (Wr.size W40).symm)
      have F119 : s.heap.size ≤ h45.size := Nat.le_trans F118 (Nat.le_of_eq (Wr.size W45).symm)
      have F120 : s.heap.size ≤ h50.size := Nat.le_trans F119 (Nat.le_of_eq (Wr.size W50).symm)
      have F121 : s.heap.size ≤ h55.size := Nat.le_trans F120 E55.1
      have F122 : s.heap.size ≤ T103.heap.size := Nat.le_trans F121 K103.1
      have F123 : Exa Z T103.heap v1 "[C" := F100.keep K103
      have F124 : Exa Z T103.heap v2 "[C" := F101.keep K103
      have F125 : Exa Z T103.heap v3 "[C" := F102.keep K103
      obtain ⟨_, _, ⟨T111, L111, k111, n111⟩, -, Xq111, hSq111, hgr111, ⟨Lc111, hQ111, l111, y111, z111, CH111⟩, st111⟩ := callSS X103 hx (y := (⟨"com/example/sessionkeep/sessionkeep/store/StoredSession", "checkPrincipalNameAttribute", "(Ljava/lang/String;)V"⟩ : MethodName)) hown (mvT hZ (ow hw 31 rfl)) (mvT hZ (ow hw 32 rfl)) (mvT hZ (ow hw 33 rfl)) (mvT hZ (ow hw 34 rfl)) (by decide) (backOfSH (W := 0) (rmCheck l Z a0 hw [] st sb kb vs (1 : Int32) T103.heap n0 F110 F109 Q103_0 Q103_2 Q103_3 (by decide)) hZ (ow hw 34 rfl) (ow hw 33 rfl) (by decide) (by decide) hEL C104.1) (g := (mkF m 108 #[iv p0, iv p1, iv p2, iv p3, iv 1, rv v1, rv v2, rv v3, rv st] [(.ref st)])) rfl (by rw [hml]; rfl) (argsL := [(.ref st)]) (rest := []) (lenOf pd_225 rfl) rfl (by show 2 * 0 + _ ≤ _; exact Nat.le_of_eq rfl) (hb hby at_108) (fun _ _ => ⟨rfl, rfl, (by decide : 6 + 2 ≤ _), (by decide : 13 + 56 ≤ _)⟩)
      dsimp only [Pt.U, Pt.locs, Pt.cells, Pt.slots] at Xq111 hSq111 hgr111 l111 y111 z111 st111 hQ111 CH111
      subst l111 y111 z111
      obtain ⟨rfl, N111q, K111⟩ := hQ111
      have N111 := Fr.app N103 N111q
      obtain ⟨X111, hS111, hZ111, hown111⟩ := rebS hS0 (by exact F122) Xq111 hSq111 hgr111 hZ hown
      have C126 : CHr Z own_EL s.vm h0 T111.vm T111.heap := C104.trans CH111
      have Sf127 : Safe Z own_EL T111.vm T111.heap v1 := CH111.safe F123.lt Sf105
      have Sf128 : Safe Z own_EL T111.vm T111.heap v2 := CH111.safe F124.lt Sf106
      have Sf129 : Safe Z own_EL T111.vm T111.heap v3 := CH111.safe F125.lt Sf107
      have Sf130 : Safe Z own_EL T111.vm T111.heap st := CH111.safe Q103_0.lt Sf108
      refine Go.to st111 ?_
      show Go _ _ _ _ T111 (mkF m 111 #[iv p0, iv p1, iv p2, iv p3, iv 1, rv v1, rv v2, rv v3, rv st] [])
      refine Go.aload2 113 X111 hx (hb hby at_111) rfl rfl rfl ?_
      have F131 : Old Z n0 T111.heap := F109.keep K111 all0
      have F132 : Exa Z T111.heap st "java/lang/String" := Q103_0.keep K111
      have F133 : Fld Z T111.heap st "java/lang/String" "value" "[B" (.ref sb) := Q103_2.keep K111 nin0
      have F134 : Arv Z T111.heap sb kb .byte (1 : Int32) vs (.int 0) := Q103_3.keep K111 nin0
      have F135 : Fld Z T111.heap st "java/lang/String" "coder" "B" (.int 0) := Q103_1.keep K111 nin0
      have F136 : n0 ≤ T111.heap.size := Nat.le_trans F110 K111.1
      obtain ⟨cq137, kq137, q137a, q137b, q137c⟩ := isOf hZ111 rfl F132
      obtain ⟨_, _, ⟨T137, L137, k137, n137⟩, -, X137, ⟨Lc137, hQ137, l137, y137, z137⟩, st137⟩ := X111.virtualBack hx (y := (⟨"java/lang/String", "length", "()I"⟩ : MethodName)) (z := (⟨"java/lang/String", "length", "()I"⟩ : MethodName)) hown111 (mvT hZ111 (ow hw 47 rfl)) (mvT hZ111 (ow hw 48 rfl)) (notFace_of_selects (args := #[]) (mvT hZ111 (ow hw 50 rfl))) (mvT hZ111 (ow hw 50 rfl)) (mvT hZ111 (ow hw 49 rfl)) (by decide) (backOf (W := 0) (rmLen l Z a0 hw [] st sb kb vs (1 : Int32) (0 : Int32) cs T111.heap n0 F136 F131 F132 F133 F134 F135 rfl S_cs n_cs) hZ111 (ow hw 51 rfl) (ow hw 4 rfl) (by decide) (by decide)) q137a q137c (g := (mkF m 113 #[iv p0, iv p1, iv p2, iv p3, iv 1, rv v1, rv v2, rv v3, rv st] [(.ref st)])) rfl (by rw [hml]; rfl) (Steps.refl _) (argsL := []) (rest := []) (lenOf pd_226 rfl) rfl (by show 2 * 0 + _ ≤ _; exact Nat.le_of_eq rfl) (hb hby at_113) (fun _ _ => ⟨rfl, rfl, (by decide : 8 + 0 ≤ _), (by decide : 69 + 0 ≤ _)⟩)
      dsimp only [Pt.U, Pt.locs, Pt.cells, Pt.slots] at X137 l137 y137 z137 st137 hQ137
      subst l137 y137 z137
      obtain ⟨rfl, N137q, e137⟩ := hQ137
      have N137 := Fr.app N111 N137q
      refine Go.to st137 ?_
      show Go _ _ _ _ T137 (mkF m 116 #[iv p0, iv p1, iv p2, iv p3, iv 1, rv v1, rv v2, rv v3, rv st] [(.int ((1 : Int32) >>> ((0 : Int32) &&& 31)))])
      rw [(by decide : ((1 : Int32) >>> ((0 : Int32) &&& 31)) = (1 : Int32))]
      show Go _ _ _ _ T137 (mkF m 116 #[iv p0, iv p1, iv p2, iv p3, iv 1, rv v1, rv v2, rv v3, rv st] [(.int 1)])
      refine Go.iload2 118 X137 hx (hb hby at_116) rfl rfl ?_
      refine Go.icmpN 121 X137 hx (hb hby at_118) (XT.ii_ne_f rfl) rfl ?_
      refine Go.aload2 123 X137 hx (hb hby at_121) rfl rfl rfl ?_
      obtain ⟨cq138, kq138, q138a, q138b, q138c⟩ := isOf hZ111 e137 F132
      obtain ⟨_, _, ⟨T138, L138, k138, n138⟩, -, X138, ⟨Lc138, hQ138, l138, y138, z138⟩, st138⟩ := X137.virtualBack hx (y := (⟨"java/lang/String", "isEmpty", "()Z"⟩ : MethodName)) (z := (⟨"java/lang/String", "isEmpty", "()Z"⟩ : MethodName)) hown111 (mvT hZ111 (ow hw 57 rfl)) (mvT hZ111 (ow hw 43 rfl)) (notFace_of_selects (args := #[]) (mvT hZ111 (ow hw 45 rfl))) (mvT hZ111 (ow hw 45 rfl)) (mvT hZ111 (ow hw 44 rfl)) (by decide) (backOf (W := 0) (rmEmpty l Z a0 hw [] st sb kb vs (1 : Int32) T111.heap n0 F136 F133 F134 (by decide)) hZ111 (ow hw 46 rfl) (ow hw 4 rfl) (by decide) (by decide)) q138a q138c (g := (mkF m 123 #[iv p0, iv p1, iv p2, iv p3, iv 1, rv v1, rv v2, rv v3, rv st] [(.ref st)])) rfl (by rw [hml]; rfl) (Steps.refl _) (argsL := []) (rest := []) (lenOf pd_218 rfl) rfl (by show 2 * 0 + _ ≤ _; exact Nat.le_of_eq rfl) (hb hby at_123) (fun _ _ => ⟨rfl, e137, (by decide : 8 + 0 ≤ _), (by decide : 69 + 0 ≤ _)⟩)
      dsimp only [Pt.U, Pt.locs, Pt.cells, Pt.slots] at X138 l138 y138 z138 st138 hQ138
      subst l138 y138 z138
      obtain ⟨rfl, N138q, e138⟩ := hQ138
      have N138 := Fr.app N137 N138q
      refine Go.to st138 ?_
      show Go _ _ _ _ T138 (mkF m 126 #[iv p0, iv p1, iv p2, iv p3, iv 1, rv v1, rv v2, rv v3, rv st] [(.int 0)])
      refine Go.ifN 129 X138 hx (hb hby at_126) (XT.i0_ne_f rfl) rfl ?_
      refine Go.iconst 130 X138 hx (1 : Int32) (hb hby at_129) (by decide) rfl ?_
      refine Go.goto 134 X138 hx (hb hby at_130) (by decide) (by decide) ?_
      exact Go.retIW X138 hx Bd.notSynchronized hS111 (by rw [e138]; exact (Nat.le_refl T111.heap.size)) hZ111 hEL (by rw [hh, e138]; exact C126) Bd.returns rfl (by simp) (hb hby at_134) (by rw [e138]; exact ⟨rfl, N138⟩) (by decide) (by decide)
    · have F139 : Old Z n0 T103.heap := F89.keep K103 (allS ge_st all0)
      have F140 : n0 ≤ T103.heap.size := Nat.le_trans F98 K103.1
      have F142 : s.heap.size ≤ h1.size := Nat.le_trans hk0 E1.1
      have F143 : s.heap.size ≤ h4.size := Nat.le_trans F142 (Nat.le_of_eq (Wr.size W4).symm)
      have F144 : s.heap.size ≤ h7.size := Nat.le_trans F143 E7.1
      have F145 : s.heap.size ≤ h16.size := Nat.le_trans F144 (Nat.le_of_eq (Wr.size W16).symm)
      have F146 : s.heap.size ≤ h20.size := Nat.le_trans F145 (Nat.le_of_eq (Wr.size W20).symm)
      have F147 : s.heap.size ≤ h24.size := Nat.le_trans F146 E24.1
      have F148 : s.heap.size ≤ h40.size := Nat.le_trans F147 (Nat.le_of_eq (Wr.size W40).symm)
      have F149 : s.heap.size ≤ h45.size := Nat.le_trans F148 (Nat.le_of_eq (Wr.size W45).symm)
      have F150 : s.heap.size ≤ h50.size := Nat.le_trans F149 (Nat.le_of_eq (Wr.size W50).symm)
      have F151 : s.heap.size ≤ h55.size := Nat.le_trans F150 E55.1
      have F152 : s.heap.size ≤ T103.heap.size := Nat.le_trans F151 K103.1
      have F153 : Exa Z T103.heap v1 "[C" := F100.keep K103
      have F154 : Exa Z T103.heap v2 "[C" := F101.keep K103
      have F155 : Exa Z T103.heap v3 "[C" := F102.keep K103
      obtain ⟨_, _, ⟨T141, L141, k141, n141⟩, -, Xq141, hSq141, hgr141, ⟨Lc141, hQ141, l141, y141, z141, CH141⟩, st141⟩ := callSS X103 hx (y := (⟨"com/example/sessionkeep/sessionkeep/store/StoredSession", "checkPrincipalNameAttribute", "(Ljava/lang/String;)V"⟩ : MethodName)) hown (mvT hZ (ow hw 31 rfl)) (mvT hZ (ow hw 32 rfl)) (mvT hZ (ow hw 33 rfl)) (mvT hZ (ow hw 34 rfl)) (by decide) (backOfSH (W := 0) (rmCheck l Z a0 hw [] st sb kb vs (2 : Int32) T103.heap n0 F140 F139 Q103_0 Q103_2 Q103_3 (by decide)) hZ (ow hw 34 rfl) (ow hw 33 rfl) (by decide) (by decide) hEL C104.1) (g := (mkF m 108 #[iv p0, iv p1, iv p2, iv p3, iv 1, rv v1, rv v2, rv v3, rv st] [(.ref st)])) rfl (by rw [hml]; rfl) (argsL := [(.ref st)]) (rest := []) (lenOf pd_225 rfl) rfl (by show 2 * 0 + _ ≤ _; exact Nat.le_of_eq rfl) (hb hby at_108) (fun _ _ => ⟨rfl, rfl, (by decide : 6 + 2 ≤ _), (by decide : 13 + 56 ≤ _)⟩)
      dsimp only [Pt.U, Pt.locs, Pt.cells, Pt.slots] at Xq141 hSq141 hgr141 l141 y141 z141 st141 hQ141 CH141
      subst l141 y141 z141
      obtain ⟨rfl, N141q, K141⟩ := hQ141
      have N141 := Fr.app N103 N141q
      obtain ⟨X141, hS141, hZ141, hown141⟩ := rebS hS0 (by exact F152) Xq141 hSq141 hgr141 hZ hown
      have C156 : CHr Z own_EL s.vm h0 T141.vm T141.heap := C104.trans CH141
      have Sf157 : Safe Z own_EL T141.vm T141.heap v1 := CH141.safe F153.lt Sf105
      have Sf158 : Safe Z own_EL T141.vm T141.heap v2 := CH141.safe F154.lt Sf106
      have Sf159 : Safe Z own_EL T141.vm T141.heap v3 := CH141.safe F155.lt Sf107
      have Sf160 : Safe Z own_EL T141.vm T141.heap st := CH141.safe Q103_0.lt Sf108
      refine Go.to st141 ?_
      show Go _ _ _ _ T141 (mkF m 111 #[iv p0, iv p1, iv p2, iv p3, iv 1, rv v1, rv v2, rv v3, rv st] [])
      refine Go.aload2 113 X141 hx (hb hby at_111) rfl rfl rfl ?_
      have F161 : Old Z n0 T141.heap := F139.keep K141 all0
      have F162 : Exa Z T141.heap st "java/lang/String" := Q103_0.keep K141
      have F163 : Fld Z T141.heap st "java/lang/String" "value" "[B" (.ref sb) := Q103_2.keep K141 nin0
      have F164 : Arv Z T141.heap sb kb .byte (2 : Int32) vs (.int 0) := Q103_3.keep K141 nin0
      have F165 : Fld Z T141.heap st "java/lang/String" "coder" "B" (.int 1) := Q103_1.keep K141 nin0
      have F166 : n0 ≤ T141.heap.size := Nat.le_trans F140 K141.1
      obtain ⟨cq167, kq167, q167a, q167b, q167c⟩ := isOf hZ141 rfl F162
      obtain ⟨_, _, ⟨T167, L167, k167, n167⟩, -, X167, ⟨Lc167, hQ167, l167, y167, z167⟩, st167⟩ := X141.virtualBack hx (y := (⟨"java/lang/String", "length", "()I"⟩ : MethodName)) (z := (⟨"java/lang/String", "length", "()I"⟩ : MethodName)) hown141 (mvT hZ141 (ow hw 47 rfl)) (mvT hZ141 (ow hw 48 rfl)) (notFace_of_selects (args := #[]) (mvT hZ141 (ow hw 50 rfl))) (mvT hZ141 (ow hw 50 rfl)) (mvT hZ141 (ow hw 49 rfl)) (by decide) (backOf (W := 0) (rmLen l Z a0 hw [] st sb kb vs (2 : Int32) (1 : Int32) cs T141.heap n0 F166 F161 F162 F163 F164 F165 rfl S_cs n_cs) hZ141 (ow hw 51 rfl) (ow hw 4 rfl) (by decide) (by decide)) q167a q167c (g := (mkF m 113 #[iv p0, iv p1, iv p2, iv p3, iv 1, rv v1, rv v2, rv v3, rv st] [(.ref st)])) rfl (by rw [hml]; rfl) (Steps.refl _) (argsL := []) (rest := []) (lenOf pd_226 rfl) rfl (by show 2 * 0 + _ ≤ _; exact Nat.le_of_eq rfl) (hb hby at_113) (fun _ _ => ⟨rfl, rfl, (by decide : 8 + 0 ≤ _), (by decide : 69 + 0 ≤ _)⟩)
      dsimp only [Pt.U, Pt.locs, Pt.cells, Pt.slots] at X167 l167 y167 z167 st167 hQ167
      subst l167 y167 z167
      obtain ⟨rfl, N167q, e167⟩ := hQ167
      have N167 := Fr.app N141 N167q
      refine Go.to st167 ?_
      show Go _ _ _ _ T167 (mkF m 116 #[iv p0, iv p1, iv p2, iv p3, iv 1, rv v1, rv v2, rv v3, rv st] [(.int ((2 : Int32) >>> ((1 : Int32) &&& 31)))])
      rw [(by decide : ((2 : Int32) >>> ((1 : Int32) &&& 31)) = (1 : Int32))]
      show Go _ _ _ _ T167 (mkF m 116 #[iv p0, iv p1, iv p2, iv p3, iv 1, rv v1, rv v2, rv v3, rv st] [(.int 1)])
      refine Go.iload2 118 X167 hx (hb hby at_116) rfl rfl ?_
      refine Go.icmpN 121 X167 hx (hb hby at_118) (XT.ii_ne_f rfl) rfl ?_
      refine Go.aload2 123 X167 hx (hb hby at_121) rfl rfl rfl ?_
      obtain ⟨cq168, kq168, q168a, q168b, q168c⟩ := isOf hZ141 e167 F162
      obtain ⟨_, _, ⟨T168, L168, k168, n168⟩, -, X168, ⟨Lc168, hQ168, l168, y168, z168⟩, st168⟩ := X167.virtualBack hx (y := (⟨"java/lang/String", "isEmpty", "()Z"⟩ : MethodName)) (z := (⟨"java/lang/String", "isEmpty", "()Z"⟩ : MethodName)) hown141 (mvT hZ141 (ow hw 57 rfl)) (mvT hZ141 (ow hw 43 rfl)) (notFace_of_selects (args := #[]) (mvT hZ141 (ow hw 45 rfl))) (mvT hZ141 (ow hw 45 rfl)) (mvT hZ141 (ow hw 44 rfl)) (by decide) (backOf (W := 0) (rmEmpty l Z a0 hw [] st sb kb vs (2 : Int32) T141.heap n0 F166 F163 F164 (by decide)) hZ141 (ow hw 46 rfl) (ow hw 4 rfl) (by decide) (by decide)) q168a q168c (g := (mkF m 123 #[iv p0, iv p1, iv p2, iv p3, iv 1, rv v1, rv v2, rv v3, rv st] [(.ref st)])) rfl (by rw [hml]; rfl) (Steps.refl _) (argsL := []) (rest := []) (lenOf pd_218 rfl) rfl (by show 2 * 0 + _ ≤ _; exact Nat.le_of_eq rfl) (hb hby at_123) (fun _ _ => ⟨rfl, e167, (by decide : 8 + 0 ≤ _), (by decide : 69 + 0 ≤ _)⟩)
      dsimp only [Pt.U, Pt.locs, Pt.cells, Pt.slots] at X168 l168 y168 z168 st168 hQ168
      subst l168 y168 z168
      obtain ⟨rfl, N168q, e168⟩ := hQ168
      have N168 := Fr.app N167 N168q
      refine Go.to st168 ?_
      show Go _ _ _ _ T168 (mkF m 126 #[iv p0, iv p1, iv p2, iv p3, iv 1, rv v1, rv v2, rv v3, rv st] [(.int 0)])
      refine Go.ifN 129 X168 hx (hb hby at_126) (XT.i0_ne_f rfl) rfl ?_
      refine Go.iconst 130 X168 hx (1 : Int32) (hb hby at_129) (by decide) rfl ?_
      refine Go.goto 134 X168 hx (hb hby at_130) (by decide) (by decide) ?_
      exact Go.retIW X168 hx Bd.notSynchronized hS141 (by rw [e168]; exact (Nat.le_refl T141.heap.size)) hZ141 hEL (by rw [hh, e168]; exact C156) Bd.returns rfl (by simp) (hb hby at_134) (by rw [e168]; exact ⟨rfl, N168⟩) (by decide) (by decide)
  · show Go _ _ _ _ T50 (mkF m 58 #[iv p0, iv p1, iv p2, iv p3, iv 2, rv v1, rv v2, rv v3, un] [(.int 1), (.int 2)])
    refine Go.icmpY 75 X50 hx (hb hby at_58) (XT.ii_ne_t (by decide)) (by decide) (by decide) ?_
    refine Go.iload2 77 X50 hx (hb hby at_75) rfl rfl ?_
    refine Go.iconst 78 X50 hx (2 : Int32) (hb hby at_77) (by decide) rfl ?_
    refine Go.icmpN 81 X50 hx (hb hby at_78) (XT.ii_ne_f rfl) rfl ?_
    have F170 : n0 ≤ h24.size := Nat.le_trans F27 E24.1
    have F171 : n0 ≤ h40.size := Nat.le_trans F170 (Nat.le_of_eq (Wr.size W40).symm)
    have F172 : n0 ≤ h45.size := Nat.le_trans F171 (Nat.le_of_eq (Wr.size W45).symm)
    have F173 : n0 ≤ h50.size := Nat.le_trans F172 (Nat.le_of_eq (Wr.size W50).symm)
    obtain ⟨st, g169⟩ : ∃ z, z = h50.size := ⟨_, rfl⟩
    have ge_st : n0 ≤ st := Nat.le_trans F173 (Nat.le_of_eq g169.symm)
    have F174 : Keep h0 h24 [] := F30.ext E24
    have F175 : Keep h0 h40 [] := F174.wr W40 (Or.inr sz_v3)
    have F176 : Keep h0 h45 [] := F175.wr W45 (Or.inr sz_v3)
    have F177 : Keep h0 h50 [] := F176.wr W50 (Or.inr sz_v3)
    have sz_st : h0.size ≤ st := Nat.le_trans F177.1 (Nat.le_of_eq g169.symm)
    have F178 : Exa Z h24 v1 "[C" := F33.ext E24
    have F179 : Exa Z h40 v1 "[C" := F178.wr W40
    have F180 : Exa Z h45 v1 "[C" := F179.wr W45
    have F181 : Exa Z h50 v1 "[C" := F180.wr W50
    have ne_v1_st : v1 ≠ st := Nat.ne_of_lt (Nat.lt_of_lt_of_le F181.lt (Nat.le_of_eq g169.symm))
    have F182 : Exa Z h24 v2 "[C" := F35.ext E24
    have F183 : Exa Z h40 v2 "[C" := F182.wr W40
    have F184 : Exa Z h45 v2 "[C" := F183.wr W45
    have F185 : Exa Z h50 v2 "[C" := F184.wr W50
    have ne_v2_st : v2 ≠ st := Nat.ne_of_lt (Nat.lt_of_lt_of_le F185.lt (Nat.le_of_eq g169.symm))
    have F186 : Exa Z h40 v3 "[C" := Ea24.wr W40
    have F187 : Exa Z h45 v3 "[C" := F186.wr W45
    have F188 : Exa Z h50 v3 "[C" := F187.wr W50
    have ne_v3_st : v3 ≠ st := Nat.ne_of_lt (Nat.lt_of_lt_of_le F188.lt (Nat.le_of_eq g169.symm))
    obtain ⟨T169, h169, X169, e169, E169, A169, D169, -, st169⟩ := newO X50 hx hZ hown (ow hw 2 rfl) (ow hw 3 rfl) (ow hw 4 rfl) e50 (g := (mkF m 81 #[iv p0, iv p1, iv p2, iv p3, iv 2, rv v1, rv v2, rv v3, un] [])) rfl (hb hby at_81) (by decide) (by decide)
    rw [← g169] at A169 D169 st169
    have C189 : CHr Z own_EL s.vm h0 s.vm h169 := C51.trans (CHr.ext E169 C51.1)
    have Sf190 : Safe Z own_EL s.vm h169 v1 := Safe.ext E169 C51.1 Sf52
    have Sf191 : Safe Z own_EL s.vm h169 v2 := Safe.ext E169 C51.1 Sf53
    have Sf192 : Safe Z own_EL s.vm h169 v3 := Safe.ext E169 C51.1 Sf54
    have Sf193 : Safe Z own_EL s.vm h169 st := Safe.ext E169 C51.1 (Safe.new (Nat.le_of_eq g169.symm))
    have F_coder_st : Fld Z h169 st "java/lang/String" "coder" "B" (.int 0) := D169 (Or.inr (ow hw 28 rfl)) (ty := .byte) (by decide)
    have F_value_st : Fld Z h169 st "java/lang/String" "value" "[B" .null := D169 (Or.inr (ow hw 30 rfl)) (ty := (.array .byte)) (by decide)
    refine Go.by st169 ?_
    show Go _ _ _ _ T169 (mkF m 84 #[iv p0, iv p1, iv p2, iv p3, iv 2, rv v1, rv v2, rv v3, un] [(.ref st)])
    refine Go.dup 85 X169 hx (hb hby at_84) rfl rfl ?_
    refine Go.aload2 87 X169 hx (hb hby at_85) rfl rfl rfl ?_
    have F194 : Old Z n0 h1 := O0.ext E1
    have F195 : Old Z n0 h4 := F194.wr W4 ge_v1
    have F196 : Old Z n0 h7 := F195.ext E7
    have F197 : Old Z n0 h16 := F196.wr W16 ge_v2
    have F198 : Old Z n0 h20 := F197.wr W20 ge_v2
    have F199 : Old Z n0 h24 := F198.ext E24
    have F200 : Old Z n0 h40 := F199.wr W40 ge_v3
    have F201 : Old Z n0 h45 := F200.wr W45 ge_v3
    have F202 : Old Z n0 h50 := F201.wr W50 ge_v3
    have F203 : Old Z n0 h169 := F202.ext E169
    have F204 : Arv Z h24 v2 k7 .char (2 : Int32) [(.int d0), (.int d1)] (.int 0) := V20.ext E24
    have F205 : Arv Z h40 v2 k7 .char (2 : Int32) [(.int d0), (.int d1)] (.int 0) := F204.other W40 ne_v2_v3
    have F206 : Arv Z h45 v2 k7 .char (2 : Int32) [(.int d0), (.int d1)] (.int 0) := F205.other W45 ne_v2_v3
    have F207 : Arv Z h50 v2 k7 .char (2 : Int32) [(.int d0), (.int d1)] (.int 0) := F206.other W50 ne_v2_v3
    have F208 : Arv Z h169 v2 k7 .char (2 : Int32) [(.int d0), (.int d1)] (.int 0) := F207.ext E169
    have F209 : n0 ≤ h169.size := Nat.le_trans F173 E169.1
    have F210 : Keep h0 h169 [] := F177.ext E169
    have F211 : Exa Z h169 v1 "[C" := F181.ext E169
    have F212 : Exa Z h169 v2 "[C" := F185.ext E169
    have F213 : Exa Z h169 v3 "[C" := F188.ext E169
    obtain ⟨_, _, ⟨T214, L214, k214, n214⟩, -, X214, ⟨Lc214, hQ214, l214, y214, z214⟩, st214⟩ := X169.specialBack hx (y := (⟨"java/lang/String", "<init>", "([C)V"⟩ : MethodName)) rfl hown (mvT hZ (ow hw 5 rfl)) (mvT hZ (ow hw 6 rfl)) (mvT hZ (ow hw 7 rfl)) (by decide) (backOf (W := 1) (rmS1_2 l Z a0 hw [] st v2 k7 d0 d1 cs h169 n0 F209 F203 A169 F_value_st F_coder_st ge_st F208 q_d0 q_d1 S_cs n_cs U0 U1 U2) hZ (ow hw 7 rfl) (ow hw 4 rfl) (by decide) (by decide)) (g := (mkF m 87 #[iv p0, iv p1, iv p2, iv p3, iv 2, rv v1, rv v2, rv v3, un] [(.ref v2), (.ref st), (.ref st)])) rfl (by rw [hml]; rfl) (Steps.refl _) (a := st) (argsL := [(.ref v2)]) (rest := [(.ref st)]) (lenOf pd_224 rfl) rfl (by show 2 * 0 + _ ≤ _; exact Nat.le_of_eq rfl) (hb hby at_87) (fun _ _ => ⟨rfl, e169, (by decide : 4 + 2 ≤ _), (by decide : 10 + 6 ≤ _)⟩)
    dsimp only [Pt.U, Pt.locs, Pt.cells, Pt.slots] at X214 l214 y214 z214 st214 hQ214
    subst l214 y214 z214
    obtain ⟨sb, kb, vs, ln, cd, rfl, N214q, K214, Q214_0, Q214_1, Q214_2, Q214_3, Q214_4, Q214_5⟩ := hQ214
    have N214 := Fr.app N50 N214q
    have C215 : CHr Z own_EL s.vm h0 s.vm T214.heap := C189.trans (CHr.keep K214 (sfS Sf193 sf0) C189.1)
    have Sf216 : Safe Z own_EL s.vm T214.heap v1 := Safe.keep K214 (sfS Sf193 sf0) C189.1 Sf190
    have Sf217 : Safe Z own_EL s.vm T214.heap v2 := Safe.keep K214 (sfS Sf193 sf0) C189.1 Sf191
    have Sf218 : Safe Z own_EL s.vm T214.heap v3 := Safe.keep K214 (sfS Sf193 sf0) C189.1 Sf192
    have Sf219 : Safe Z own_EL s.vm T214.heap st := Safe.keep K214 (sfS Sf193 sf0) C189.1 Sf193
    refine Go.to st214 ?_
    show Go _ _ _ _ T214 (mkF m 90 #[iv p0, iv p1, iv p2, iv p3, iv 2, rv v1, rv v2, rv v3, un] [(.ref st)])
    have ge_sb : n0 ≤ sb := Nat.le_trans F209 Q214_4
    have sz_sb : h0.size ≤ sb := Nat.le_trans F210.1 Q214_4
    have ne_st_sb : st ≠ sb := Nat.ne_of_lt (Nat.lt_of_lt_of_le A169.lt Q214_4)
    have ne_v1_sb : v1 ≠ sb := Nat.ne_of_lt (Nat.lt_of_lt_of_le F211.lt Q214_4)
    have ne_v2_sb : v2 ≠ sb := Nat.ne_of_lt (Nat.lt_of_lt_of_le F208.lt Q214_4)
    have ne_v3_sb : v3 ≠ sb := Nat.ne_of_lt (Nat.lt_of_lt_of_le F213.lt Q214_4)
    refine Go.astore2 92 X214 hx (L' := #[iv p0, iv p1, iv p2, iv p3, iv 2, rv v1, rv v2, rv v3, rv st]) (hb hby at_90) rfl rfl rfl ?_
    refine Go.goto 106 X214 hx (hb hby at_92) (by decide) (by decide) ?_
    refine Go.aload2 108 X214 hx (hb hby at_106) rfl rfl rfl ?_
    rcases Q214_5 with ⟨rfl, rfl⟩ | ⟨rfl, rfl⟩
    · have F220 : Old Z n0 T214.heap := F203.keep K214 (allS ge_st all0)
      have F221 : n0 ≤ T214.heap.size := Nat.le_trans F209 K214.1
      have F223 : s.heap.size ≤ h1.size := Nat.le_trans hk0 E1.1
      have F224 : s.heap.size ≤ h4.size := Nat.le_trans F223 (Nat.le_of_eq (Wr.size W4).symm)
      have F225 : s.heap.size ≤ h7.size := Nat.le_trans F224 E7.1
      have F226 : s.heap.size ≤ h16.size := Nat.le_trans F225 (Nat.le_of_eq (Wr.size W16).symm)
      have F227 : s.heap.size ≤ h20.size := Nat.le_trans F226 (Nat.le_of_eq (Wr.size W20).symm)
      have F228 : s.heap.size ≤ h24.size := Nat.le_trans F227 E24.1
      have F229 : s.heap.size ≤ h40.size := Nat.le_trans F228 (Nat.le_of_eq (Wr.size W40).symm)
      have F230 : s.heap.size ≤ h45.size := Nat.le_trans F229 (Nat.le_of_eq (Wr.size W45).symm)
      have F231 : s.heap.size ≤ h50.size := Nat.le_trans F230 (Nat.le_of_eq (Wr.size W50).symm)
      have F232 : s.heap.size ≤ h169.size := Nat.le_trans F231 E169.1
      have F233 : s.heap.size ≤ T214.heap.size := Nat.le_trans F232 K214.1
      have F234 : Exa Z T214.heap v1 "[C" := F211.keep K214
      have F235 : Exa Z T214.heap v2 "[C" := F212.keep K214
      have F236 : Exa Z T214.heap v3 "[C" := F213.keep K214
      obtain ⟨_, _, ⟨T222, L222, k222, n222⟩, -, Xq222, hSq222, hgr222, ⟨Lc222, hQ222, l222, y222, z222, CH222⟩, st222⟩ := callSS X214 hx (y := (⟨"com/example/sessionkeep/sessionkeep/store/StoredSession", "checkPrincipalNameAttribute", "(Ljava/lang/String;)V"⟩ : MethodName)) hown (mvT hZ (ow hw 31 rfl)) (mvT hZ (ow hw 32 rfl)) (mvT hZ (ow hw 33 rfl)) (mvT hZ (ow hw 34 rfl)) (by decide) (backOfSH (W := 0) (rmCheck l Z a0 hw [] st sb kb vs (2 : Int32) T214.heap n0 F221 F220 Q214_0 Q214_2 Q214_3 (by decide)) hZ (ow hw 34 rfl) (ow hw 33 rfl) (by decide) (by decide) hEL C215.1) (g := (mkF m 108 #[iv p0, iv p1, iv p2, iv p3, iv 2, rv v1, rv v2, rv v3, rv st] [(.ref st)])) rfl (by rw [hml]; rfl) (argsL := [(.ref st)]) (rest := []) (lenOf pd_225 rfl) rfl (by show 2 * 0 + _ ≤ _; exact Nat.le_of_eq rfl) (hb hby at_108) (fun _ _ => ⟨rfl, rfl, (by decide : 6 + 2 ≤ _), (by decide : 16 + 56 ≤ _)⟩)
      dsimp only [Pt.U, Pt.locs, Pt.cells, Pt.slots] at Xq222 hSq222 hgr222 l222 y222 z222 st222 hQ222 CH222
      subst l222 y222 z222
      obtain ⟨rfl, N222q, K222⟩ := hQ222
      have N222 := Fr.app N214 N222q
      obtain ⟨X222, hS222, hZ222, hown222⟩ := rebS hS0 (by exact F233) Xq222 hSq222 hgr222 hZ hown
      have C237 : CHr Z own_EL s.vm h0 T222.vm T222.heap := C215.trans CH222
      have Sf238 : Safe Z own_EL T222.vm T222.heap v1 := CH222.safe F234.lt Sf216
      have Sf239 : Safe Z own_EL T222.vm T222.heap v2 := CH222.safe F235.lt Sf217
      have Sf240 : Safe Z own_EL T222.vm T222.heap v3 := CH222.safe F236.lt Sf218
      have Sf241 : Safe Z own_EL T222.vm T222.heap st := CH222.safe Q214_0.lt Sf219
      refine Go.to st222 ?_
      show Go _ _ _ _ T222 (mkF m 111 #[iv p0, iv p1, iv p2, iv p3, iv 2, rv v1, rv v2, rv v3, rv st] [])
      refine Go.aload2 113 X222 hx (hb hby at_111) rfl rfl rfl ?_
      have F242 : Old Z n0 T222.heap := F220.keep K222 all0
      have F243 : Exa Z T222.heap st "java/lang/String" := Q214_0.keep K222
      have F244 : Fld Z T222.heap st "java/lang/String" "value" "[B" (.ref sb) := Q214_2.keep K222 nin0
      have F245 : Arv Z T222.heap sb kb .byte (2 : Int32) vs (.int 0) := Q214_3.keep K222 nin0
      have F246 : Fld Z T222.heap st "java/lang/String" "coder" "B" (.int 0) := Q214_1.keep K222 nin0
      have F247 : n0 ≤ T222.heap.size := Nat.le_trans F221 K222.1
      obtain ⟨cq248, kq248, q248a, q248b, q248c⟩ := isOf hZ222 rfl F243
      obtain ⟨_, _, ⟨T248, L248, k248, n248⟩, -, X248, ⟨Lc248, hQ248, l248, y248, z248⟩, st248⟩ := X222.virtualBack hx (y := (⟨"java/lang/String", "length", "()I"⟩ : MethodName)) (z := (⟨"java/lang/String", "length", "()I"⟩ : MethodName)) hown222 (mvT hZ222 (ow hw 47 rfl)) (mvT hZ222 (ow hw 48 rfl)) (notFace_of_selects (args := #[]) (mvT hZ222 (ow hw 50 rfl))) (mvT hZ222 (ow hw 50 rfl)) (mvT hZ222 (ow hw 49 rfl)) (by decide) (backOf (W := 0) (rmLen l Z a0 hw [] st sb kb vs (2 : Int32) (0 : Int32) cs T222.heap n0 F247 F242 F243 F244 F245 F246 rfl S_cs n_cs) hZ222 (ow hw 51 rfl) (ow hw 4 rfl) (by decide) (by decide)) q248a q248c (g := (mkF m 113 #[iv p0, iv p1, iv p2, iv p3, iv 2, rv v1, rv v2, rv v3, rv st] [(.ref st)])) rfl (by rw [hml]; rfl) (Steps.refl _) (argsL := []) (rest := []) (lenOf pd_226 rfl) rfl (by show 2 * 0 + _ ≤ _; exact Nat.le_of_eq rfl) (hb hby at_113) (fun _ _ => ⟨rfl, rfl, (by decide : 8 + 0 ≤ _), (by decide : 72 + 0 ≤ _)⟩)
      dsimp only [Pt.U, Pt.locs, Pt.cells, Pt.slots] at X248 l248 y248 z248 st248 hQ248
      subst l248 y248 z248
      obtain ⟨rfl, N248q, e248⟩ := hQ248
      have N248 := Fr.app N222 N248q
      refine Go.to st248 ?_
      show Go _ _ _ _ T248 (mkF m 116 #[iv p0, iv p1, iv p2, iv p3, iv 2, rv v1, rv v2, rv v3, rv st] [(.int ((2 : Int32) >>> ((0 : Int32) &&& 31)))])
      rw [(by decide : ((2 : Int32) >>> ((0 : Int32) &&& 31)) = (2 : Int32))]
      show Go _ _ _ _ T248 (mkF m 116 #[iv p0, iv p1, iv p2, iv p3, iv 2, rv v1, rv v2, rv v3, rv st] [(.int 2)])
      refine Go.iload2 118 X248 hx (hb hby at_116) rfl rfl ?_
      refine Go.icmpN 121 X248 hx (hb hby at_118) (XT.ii_ne_f rfl) rfl ?_
      refine Go.aload2 123 X248 hx (hb hby at_121) rfl rfl rfl ?_
      obtain ⟨cq249, kq249, q249a, q249b, q249c⟩ := isOf hZ222 e248 F243
      obtain ⟨_, _, ⟨T249, L249, k249, n249⟩, -, X249, ⟨Lc249, hQ249, l249, y249, z249⟩, st249⟩ := X248.virtualBack hx (y := (⟨"java/lang/String", "isEmpty", "()Z"⟩ : MethodName)) (z := (⟨"java/lang/String", "isEmpty", "()Z"⟩ : MethodName)) hown222 (mvT hZ222 (ow hw 57 rfl)) (mvT hZ222 (ow hw 43 rfl)) (notFace_of_selects (args := #[]) (mvT hZ222 (ow hw 45 rfl))) (mvT hZ222 (ow hw 45 rfl)) (mvT hZ222 (ow hw 44 rfl)) (by decide) (backOf (W := 0) (rmEmpty l Z a0 hw [] st sb kb vs (2 : Int32) T222.heap n0 F247 F244 F245 (by decide)) hZ222 (ow hw 46 rfl) (ow hw 4 rfl) (by decide) (by decide)) q249a q249c (g := (mkF m 123 #[iv p0, iv p1, iv p2, iv p3, iv 2, rv v1, rv v2, rv v3, rv st] [(.ref st)])) rfl (by rw [hml]; rfl) (Steps.refl _) (argsL := []) (rest := []) (lenOf pd_218 rfl) rfl (by show 2 * 0 + _ ≤ _; exact Nat.le_of_eq rfl) (hb hby at_123) (fun _ _ => ⟨rfl, e248, (by decide : 8 + 0 ≤ _), (by decide : 72 + 0 ≤ _)⟩)
      dsimp only [Pt.U, Pt.locs, Pt.cells, Pt.slots] at X249 l249 y249 z249 st249 hQ249
      subst l249 y249 z249
      obtain ⟨rfl, N249q, e249⟩ := hQ249
      have N249 := Fr.app N248 N249q
      refine Go.to st249 ?_
      show Go _ _ _ _ T249 (mkF m 126 #[iv p0, iv p1, iv p2, iv p3, iv 2, rv v1, rv v2, rv v3, rv st] [(.int 0)])
      refine Go.ifN 129 X249 hx (hb hby at_126) (XT.i0_ne_f rfl) rfl ?_
      refine Go.iconst 130 X249 hx (1 : Int32) (hb hby at_129) (by decide) rfl ?_
      refine Go.goto 134 X249 hx (hb hby at_130) (by decide) (by decide) ?_
      exact Go.retIW X249 hx Bd.notSynchronized hS222 (by rw [e249]; exact (Nat.le_refl T222.heap.size)) hZ222 hEL (by rw [hh, e249]; exact C237) Bd.returns rfl (by simp) (hb hby at_134) (by rw [e249]; exact ⟨rfl, N249⟩) (by decide) (by decide)
    · have F250 : Old Z n0 T214.heap := F203.keep K214 (allS ge_st all0)
      have F251 : n0 ≤ T214.heap.size := Nat.le_trans F209 K214.1
      have F253 : s.heap.size ≤ h1.size := Nat.le_trans hk0 E1.1
      have F254 : s.heap.size ≤ h4.size := Nat.le_trans F253 (Nat.le_of_eq (Wr.size W4).symm)
      have F255 : s.heap.size ≤ h7.size := Nat.le_trans F254 E7.1
      have F256 : s.heap.size ≤ h16.size := Nat.le_trans F255 (Nat.le_of_eq (Wr.size W16).symm)
      have F257 : s.heap.size ≤ h20.size := Nat.le_trans F256 (Nat.le_of_eq (Wr.size W20).symm)
      have F258 : s.heap.size ≤ h24.size := Nat.le_trans F257 E24.1
      have F259 : s.heap.size ≤ h40.size := Nat.le_trans F258 (Nat.le_of_eq (Wr.size W40).symm)
      have F260 : s.heap.size ≤ h45.size := Nat.le_trans F259 (Nat.le_of_eq (Wr.size W45).symm)
      have F261 : s.heap.size ≤ h50.size := Nat.le_trans F260 (Nat.le_of_eq (Wr.size W50).symm)
      have F262 : s.heap.size ≤ h169.size := Nat.le_trans F261 E169.1
      have F263 : s.heap.size ≤ T214.heap.size := Nat.le_trans F262 K214.1
      have F264 : Exa Z T214.heap v1 "[C" := F211.keep K214
      have F265 : Exa Z T214.heap v2 "[C" := F212.keep K214
      have F266 : Exa Z T214.heap v3 "[C" := F213.keep K214
      obtain ⟨_, _, ⟨T252, L252, k252, n252⟩, -, Xq252, hSq252, hgr252, ⟨Lc252, hQ252, l252, y252, z252, CH252⟩, st252⟩ := callSS X214 hx (y := (⟨"com/example/sessionkeep/sessionkeep/store/StoredSession", "checkPrincipalNameAttribute", "(Ljava/lang/String;)V"⟩ : MethodName)) hown (mvT hZ (ow hw 31 rfl)) (mvT hZ (ow hw 32 rfl)) (mvT hZ (ow hw 33 rfl)) (mvT hZ (ow hw 34 rfl)) (by decide) (backOfSH (W := 0) (rmCheck l Z a0 hw [] st sb kb vs (4 : Int32) T214.heap n0 F251 F250 Q214_0 Q214_2 Q214_3 (by decide)) hZ (ow hw 34 rfl) (ow hw 33 rfl) (by decide) (by decide) hEL C215.1) (g := (mkF m 108 #[iv p0, iv p1, iv p2, iv p3, iv 2, rv v1, rv v2, rv v3, rv st] [(.ref st)])) rfl (by rw [hml]; rfl) (argsL := [(.ref st)]) (rest := []) (lenOf pd_225 rfl) rfl (by show 2 * 0 + _ ≤ _; exact Nat.le_of_eq rfl) (hb hby at_108) (fun _ _ => ⟨rfl, rfl, (by decide : 6 + 2 ≤ _), (by decide : 16 + 56 ≤ _)⟩)
      dsimp only [Pt.U, Pt.locs, Pt.cells, Pt.slots] at Xq252 hSq252 hgr252 l252 y252 z252 st252 hQ252 CH252
      subst l252 y252 z252
      obtain ⟨rfl, N252q, K252⟩ := hQ252
      have N252 := Fr.app N214 N252q
      obtain ⟨X252, hS252, hZ252, hown252⟩ := rebS hS0 (by exact F263) Xq252 hSq252 hgr252 hZ hown
      have C267 : CHr Z own_EL s.vm h0 T252.vm T252.heap := C215.trans CH252
      have Sf268 : Safe Z own_EL T252.vm T252.heap v1 := CH252.safe F264.lt Sf216
      have Sf269 : Safe Z own_EL T252.vm T252.heap v2 := CH252.safe F265.lt Sf217
      have Sf270 : Safe Z own_EL T252.vm T252.heap v3 := CH252.safe F266.lt Sf218
      have Sf271 : Safe Z own_EL T252.vm T252.heap st := CH252.safe Q214_0.lt Sf219
      refine Go.to st252 ?_
      show Go _ _ _ _ T252 (mkF m 111 #[iv p0, iv p1, iv p2, iv p3, iv 2, rv v1, rv v2, rv v3, rv st] [])
      refine Go.aload2 113 X252 hx (hb hby at_111) rfl rfl rfl ?_
      have F272 : Old Z n0 T252.heap := F250.keep K252 all0
      have F273 : Exa Z T252.heap st "java/lang/String" := Q214_0.keep K252
      have F274 : Fld Z T252.heap st "java/lang/String" "value" "[B" (.ref sb) := Q214_2.keep K252 nin0
      have F275 : Arv Z T252.heap sb kb .byte (4 : Int32) vs (.int 0) := Q214_3.keep K252 nin0
      have F276 : Fld Z T252.heap st "java/lang/String" "coder" "B" (.int 1) := Q214_1.keep K252 nin0
      have F277 : n0 ≤ T252.heap.size := Nat.le_trans F251 K252.1
      obtain ⟨cq278, kq278, q278a, q278b, q278c⟩ := isOf hZ252 rfl F273
      obtain ⟨_, _, ⟨T278, L278, k278, n278⟩, -, X278, ⟨Lc278, hQ278, l278, y278, z278⟩, st278⟩ := X252.virtualBack hx (y := (⟨"java/lang/String", "length", "()I"⟩ : MethodName)) (z := (⟨"java/lang/String", "length", "()I"⟩ : MethodName)) hown252 (mvT hZ252 (ow hw 47 rfl)) (mvT hZ252 (ow hw 48 rfl)) (notFace_of_selects (args := #[]) (mvT hZ252 (ow hw 50 rfl))) (mvT hZ252 (ow hw 50 rfl)) (mvT hZ252 (ow hw 49 rfl)) (by decide) (backOf (W := 0) (rmLen l Z a0 hw [] st sb kb vs (4 : Int32) (1 : Int32) cs T252.heap n0 F277 F272 F273 F274 F275 F276 rfl S_cs n_cs) hZ252 (ow hw 51 rfl) (ow hw 4 rfl) (by decide) (by decide)) q278a q278c (g := (mkF m 113 #[iv p0, iv p1, iv p2, iv p3, iv 2, rv v1, rv v2, rv v3, rv st] [(.ref st)])) rfl (by rw [hml]; rfl) (Steps.refl _) (argsL := []) (rest := []) (lenOf pd_226 rfl) rfl (by show 2 * 0 + _ ≤ _; exact Nat.le_of_eq rfl) (hb hby at_113) (fun _ _ => ⟨rfl, rfl, (by decide : 8 + 0 ≤ _), (by decide : 72 + 0 ≤ _)⟩)
      dsimp only [Pt.U, Pt.locs, Pt.cells, Pt.slots] at X278 l278 y278 z278 st278 hQ278
      subst l278 y278 z278
      obtain ⟨rfl, N278q, e278⟩ := hQ278
      have N278 := Fr.app N252 N278q
      refine Go.to st278 ?_
      show Go _ _ _ _ T278 (mkF m 116 #[iv p0, iv p1, iv p2, iv p3, iv 2, rv v1, rv v2, rv v3, rv st] [(.int ((4 : Int32) >>> ((1 : Int32) &&& 31)))])
      rw [(by decide : ((4 : Int32) >>> ((1 : Int32) &&& 31)) = (2 : Int32))]
      show Go _ _ _ _ T278 (mkF m 116 #[iv p0, iv p1, iv p2, iv p3, iv 2, rv v1, rv v2, rv v3, rv st] [(.int 2)])
      refine Go.iload2 118 X278 hx (hb hby at_116) rfl rfl ?_
      refine Go.icmpN 121 X278 hx (hb hby at_118) (XT.ii_ne_f rfl) rfl ?_
      refine Go.aload2 123 X278 hx (hb hby at_121) rfl rfl rfl ?_
      obtain ⟨cq279, kq279, q279a, q279b, q279c⟩ := isOf hZ252 e278 F273
      obtain ⟨_, _, ⟨T279, L279, k279, n279⟩, -, X279, ⟨Lc279, hQ279, l279, y279, z279⟩, st279⟩ := X278.virtualBack hx (y := (⟨"java/lang/String", "isEmpty", "()Z"⟩ : MethodName)) (z := (⟨"java/lang/String", "isEmpty", "()Z"⟩ : MethodName)) hown252 (mvT hZ252 (ow hw 57 rfl)) (mvT hZ252 (ow hw 43 rfl)) (notFace_of_selects (args := #[]) (mvT hZ252 (ow hw 45 rfl))) (mvT hZ252 (ow hw 45 rfl)) (mvT hZ252 (ow hw 44 rfl)) (by decide) (backOf (W := 0) (rmEmpty l Z a0 hw [] st sb kb vs (4 : Int32) T252.heap n0 F277 F274 F275 (by decide)) hZ252 (ow hw 46 rfl) (ow hw 4 rfl) (by decide) (by decide)) q279a q279c (g := (mkF m 123 #[iv p0, iv p1, iv p2, iv p3, iv 2, rv v1, rv v2, rv v3, rv st] [(.ref st)])) rfl (by rw [hml]; rfl) (Steps.refl _) (argsL := []) (rest := []) (lenOf pd_218 rfl) rfl (by show 2 * 0 + _ ≤ _; exact Nat.le_of_eq rfl) (hb hby at_123) (fun _ _ => ⟨rfl, e278, (by decide : 8 + 0 ≤ _), (by decide : 72 + 0 ≤ _)⟩)
      dsimp only [Pt.U, Pt.locs, Pt.cells, Pt.slots] at X279 l279 y279 z279 st279 hQ279
      subst l279 y279 z279
      obtain ⟨rfl, N279q, e279⟩ := hQ279
      have N279 := Fr.app N278 N279q
      refine Go.to st279 ?_
      show Go _ _ _ _ T279 (mkF m 126 #[iv p0, iv p1, iv p2, iv p3, iv 2, rv v1, rv v2, rv v3, rv st] [(.int 0)])
      refine Go.ifN 129 X279 hx (hb hby at_126) (XT.i0_ne_f rfl) rfl ?_
      refine Go.iconst 130 X279 hx (1 : Int32) (hb hby at_129) (by decide) rfl ?_
      refine Go.goto 134 X279 hx (hb hby at_130) (by decide) (by decide) ?_
      exact Go.retIW X279 hx Bd.notSynchronized hS252 (by rw [e279]; exact (Nat.le_refl T252.heap.size)) hZ252 hEL (by rw [hh, e279]; exact C267) Bd.returns rfl (by simp) (hb hby at_134) (by rw [e279]; exact ⟨rfl, N279⟩) (by decide) (by decide)
  · show Go _ _ _ _ T50 (mkF m 58 #[iv p0, iv p1, iv p2, iv p3, iv 3, rv v1, rv v2, rv v3, un] [(.int 1), (.int 3)])
    refine Go.icmpY 75 X50 hx (hb hby at_58) (XT.ii_ne_t (by decide)) (by decide) (by decide) ?_
    refine Go.iload2 77 X50 hx (hb hby at_75) rfl rfl ?_
    refine Go.iconst 78 X50 hx (2 : Int32) (hb hby at_77) (by decide) rfl ?_
    refine Go.icmpY 95 X50 hx (hb hby at_78) (XT.ii_ne_t (by decide)) (by decide) (by decide) ?_
    have F281 : n0 ≤ h24.size := Nat.le_trans F27 E24.1
    have F282 : n0 ≤ h40.size := Nat.le_trans F281 (Nat.le_of_eq (Wr.size W40).symm)
    have F283 : n0 ≤ h45.size := Nat.le_trans F282 (Nat.le_of_eq (Wr.size W45).symm)
    have F284 : n0 ≤ h50.size := Nat.le_trans F283 (Nat.le_of_eq (Wr.size W50).symm)
    obtain ⟨st, g280⟩ : ∃ z, z = h50.size := ⟨_, rfl⟩
    have ge_st : n0 ≤ st := Nat.le_trans F284 (Nat.le_of_eq g280.symm)
    have F285 : Keep h0 h24 [] := F30.ext E24
    have F286 : Keep h0 h40 [] := F285.wr W40 (Or.inr sz_v3)
    have F287 : Keep h0 h45 [] := F286.wr W45 (Or.inr sz_v3)
    have F288 : Keep h0 h50 [] := F287.wr W50 (Or.inr sz_v3)
    have sz_st : h0.size ≤ st := Nat.le_trans F288.1 (Nat.le_of_eq g280.symm)
    have F289 : Exa Z h24 v1 "[C" := F33.ext E24
    have F290 : Exa Z h40 v1 "[C" := F289.wr W40
    have F291 : Exa Z h45 v1 "[C" := F290.wr W45
    have F292 : Exa Z h50 v1 "[C" := F291.wr W50
    have ne_v1_st : v1 ≠ st := Nat.ne_of_lt (Nat.lt_of_lt_of_le F292.lt (Nat.le_of_eq g280.symm))
    have F293 : Exa Z h24 v2 "[C" := F35.ext E24
    have F294 : Exa Z h40 v2 "[C" := F293.wr W40
    have F295 : Exa Z h45 v2 "[C" := F294.wr W45
    have F296 : Exa Z h50 v2 "[C" := F295.wr W50
    have ne_v2_st : v2 ≠ st := Nat.ne_of_lt (Nat.lt_of_lt_of_le F296.lt (Nat.le_of_eq g280.symm))
    have F297 : Exa Z h40 v3 "[C" := Ea24.wr W40
    have F298 : Exa Z h45 v3 "[C" := F297.wr W45
    have F299 : Exa Z h50 v3 "[C" := F298.wr W50
    have ne_v3_st : v3 ≠ st := Nat.ne_of_lt (Nat.lt_of_lt_of_le F299.lt (Nat.le_of_eq g280.symm))
    obtain ⟨T280, h280, X280, e280, E280, A280, D280, -, st280⟩ := newO X50 hx hZ hown (ow hw 2 rfl) (ow hw 3 rfl) (ow hw 4 rfl) e50 (g := (mkF m 95 #[iv p0, iv p1, iv p2, iv p3, iv 3, rv v1, rv v2, rv v3, un] [])) rfl (hb hby at_95) (by decide) (by decide)
    rw [← g280] at A280 D280 st280
    have C300 : CHr Z own_EL s.vm h0 s.vm h280 := C51.trans (CHr.ext E280 C51.1)
    have Sf301 : Safe Z own_EL s.vm h280 v1 := Safe.ext E280 C51.1 Sf52
    have Sf302 : Safe Z own_EL s.vm h280 v2 := Safe.ext E280 C51.1 Sf53
    have Sf303 : Safe Z own_EL s.vm h280 v3 := Safe.ext E280 C51.1 Sf54
    have Sf304 : Safe Z own_EL s.vm h280 st := Safe.ext E280 C51.1 (Safe.new (Nat.le_of_eq g280.symm))
    have F_coder_st : Fld Z h280 st "java/lang/String" "coder" "B" (.int 0) := D280 (Or.inr (ow hw 28 rfl)) (ty := .byte) (by decide)
    have F_value_st : Fld Z h280 st "java/lang/String" "value" "[B" .null := D280 (Or.inr (ow hw 30 rfl)) (ty := (.array .byte)) (by decide)
    refine Go.by st280 ?_
    show Go _ _ _ _ T280 (mkF m 98 #[iv p0, iv p1, iv p2, iv p3, iv 3, rv v1, rv v2, rv v3, un] [(.ref st)])
    refine Go.dup 99 X280 hx (hb hby at_98) rfl rfl ?_
    refine Go.aload2 101 X280 hx (hb hby at_99) rfl rfl rfl ?_
    have F305 : Old Z n0 h1 := O0.ext E1
    have F306 : Old Z n0 h4 := F305.wr W4 ge_v1
    have F307 : Old Z n0 h7 := F306.ext E7
    have F308 : Old Z n0 h16 := F307.wr W16 ge_v2
    have F309 : Old Z n0 h20 := F308.wr W20 ge_v2
    have F310 : Old Z n0 h24 := F309.ext E24
    have F311 : Old Z n0 h40 := F310.wr W40 ge_v3
    have F312 : Old Z n0 h45 := F311.wr W45 ge_v3
    have F313 : Old Z n0 h50 := F312.wr W50 ge_v3
    have F314 : Old Z n0 h280 := F313.ext E280
    have F315 : Arv Z h280 v3 k24 .char (3 : Int32) [(.int d0), (.int d1), (.int d2)] (.int 0) := V50.ext E280
    have F316 : n0 ≤ h280.size := Nat.le_trans F284 E280.1
    have F317 : Keep h0 h280 [] := F288.ext E280
    have F318 : Exa Z h280 v1 "[C" := F292.ext E280
    have F319 : Exa Z h280 v2 "[C" := F296.ext E280
    have F320 : Exa Z h280 v3 "[C" := F299.ext E280
    obtain ⟨_, _, ⟨T321, L321, k321, n321⟩, -, X321, ⟨Lc321, hQ321, l321, y321, z321⟩, st321⟩ := X280.specialBack hx (y := (⟨"java/lang/String", "<init>", "([C)V"⟩ : MethodName)) rfl hown (mvT hZ (ow hw 5 rfl)) (mvT hZ (ow hw 6 rfl)) (mvT hZ (ow hw 7 rfl)) (by decide) (backOf (W := 1) (rmS1_3 l Z a0 hw [] st v3 k24 d0 d1 d2 cs h280 n0 F316 F314 A280 F_value_st F_coder_st ge_st F315 q_d0 q_d1 q_d2 S_cs n_cs U0 U1 U2) hZ (ow hw 7 rfl) (ow hw 4 rfl) (by decide) (by decide)) (g := (mkF m 101 #[iv p0, iv p1, iv p2, iv p3, iv 3, rv v1, rv v2, rv v3, un] [(.ref v3), (.ref st), (.ref st)])) rfl (by rw [hml]; rfl) (Steps.refl _) (a := st) (argsL := [(.ref v3)]) (rest := [(.ref st)]) (lenOf pd_224 rfl) rfl (by show 2 * 0 + _ ≤ _; exact Nat.le_of_eq rfl) (hb hby at_101) (fun _ _ => ⟨rfl, e280, (by decide : 4 + 2 ≤ _), (by decide : 10 + 9 ≤ _)⟩)
    dsimp only [Pt.U, Pt.locs, Pt.cells, Pt.slots] at X321 l321 y321 z321 st321 hQ321
    subst l321 y321 z321
    obtain ⟨sb, kb, vs, ln, cd, rfl, N321q, K321, Q321_0, Q321_1, Q321_2, Q321_3, Q321_4, Q321_5⟩ := hQ321
    have N321 := Fr.app N50 N321q
    have C322 : CHr Z own_EL s.vm h0 s.vm T321.heap := C300.trans (CHr.keep K321 (sfS Sf304 sf0) C300.1)
    have Sf323 : Safe Z own_EL s.vm T321.heap v1 := Safe.keep K321 (sfS Sf304 sf0) C300.1 Sf301
    have Sf324 : Safe Z own_EL s.vm T321.heap v2 := Safe.keep K321 (sfS Sf304 sf0) C300.1 Sf302
    have Sf325 : Safe Z own_EL s.vm T321.heap v3 := Safe.keep K321 (sfS Sf304 sf0) C300.1 Sf303
    have Sf326 : Safe Z own_EL s.vm T321.heap st := Safe.keep K321 (sfS Sf304 sf0) C300.1 Sf304
    refine Go.to st321 ?_
    show Go _ _ _ _ T321 (mkF m 104 #[iv p0, iv p1, iv p2, iv p3, iv 3, rv v1, rv v2, rv v3, un] [(.ref st)])
    have ge_sb : n0 ≤ sb := Nat.le_trans F316 Q321_4
    have sz_sb : h0.size ≤ sb := Nat.le_trans F317.1 Q321_4
    have ne_st_sb : st ≠ sb := Nat.ne_of_lt (Nat.lt_of_lt_of_le A280.lt Q321_4)
    have ne_v1_sb : v1 ≠ sb := Nat.ne_of_lt (Nat.lt_of_lt_of_le F318.lt Q321_4)
    have ne_v2_sb : v2 ≠ sb := Nat.ne_of_lt (Nat.lt_of_lt_of_le F319.lt Q321_4)
    have ne_v3_sb : v3 ≠ sb := Nat.ne_of_lt (Nat.lt_of_lt_of_le F315.lt Q321_4)
    refine Go.astore2 106 X321 hx (L' := #[iv p0, iv p1, iv p2, iv p3, iv 3, rv v1, rv v2, rv v3, rv st]) (hb hby at_104) rfl rfl rfl ?_
    refine Go.aload2 108 X321 hx (hb hby at_106) rfl rfl rfl ?_
    rcases Q321_5 with ⟨rfl, rfl⟩ | ⟨rfl, rfl⟩
    · have F327 : Old Z n0 T321.heap := F314.keep K321 (allS ge_st all0)
      have F328 : n0 ≤ T321.heap.size := Nat.le_trans F316 K321.1
      have F330 : s.heap.size ≤ h1.size := Nat.le_trans hk0 E1.1
      have F331 : s.heap.size ≤ h4.size := Nat.le_trans F330 (Nat.le_of_eq (Wr.size W4).symm)
      have F332 : s.heap.size ≤ h7.size := Nat.le_trans F331 E7.1
      have F333 : s.heap.size ≤ h16.size := Nat.le_trans F332 (Nat.le_of_eq (Wr.size W16).symm)
      have F334 : s.heap.size ≤ h20.size := Nat.le_trans F333 (Nat.le_of_eq (Wr.size W20).symm)
      have F335 : s.heap.size ≤ h24.size := Nat.le_trans F334 E24.1
      have F336 : s.heap.size ≤ h40.size := Nat.le_trans F335 (Nat.le_of_eq (Wr.size W40).symm)
      have F337 : s.heap.size ≤ h45.size := Nat.le_trans F336 (Nat.le_of_eq (Wr.size W45).symm)
      have F338 : s.heap.size ≤ h50.size := Nat.le_trans F337 (Nat.le_of_eq (Wr.size W50).symm)
      have F339 : s.heap.size ≤ h280.size := Nat.le_trans F338 E280.1
      have F340 : s.heap.size ≤ T321.heap.size := Nat.le_trans F339 K321.1
      have F341 : Exa Z T321.heap v1 "[C" := F318.keep K321
      have F342 : Exa Z T321.heap v2 "[C" := F319.keep K321
      have F343 : Exa Z T321.heap v3 "[C" := F320.keep K321
      obtain ⟨_, _, ⟨T329, L329, k329, n329⟩, -, Xq329, hSq329, hgr329, ⟨Lc329, hQ329, l329, y329, z329, CH329⟩, st329⟩ := callSS X321 hx (y := (⟨"com/example/sessionkeep/sessionkeep/store/StoredSession", "checkPrincipalNameAttribute", "(Ljava/lang/String;)V"⟩ : MethodName)) hown (mvT hZ (ow hw 31 rfl)) (mvT hZ (ow hw 32 rfl)) (mvT hZ (ow hw 33 rfl)) (mvT hZ (ow hw 34 rfl)) (by decide) (backOfSH (W := 0) (rmCheck l Z a0 hw [] st sb kb vs (3 : Int32) T321.heap n0 F328 F327 Q321_0 Q321_2 Q321_3 (by decide)) hZ (ow hw 34 rfl) (ow hw 33 rfl) (by decide) (by decide) hEL C322.1) (g := (mkF m 108 #[iv p0, iv p1, iv p2, iv p3, iv 3, rv v1, rv v2, rv v3, rv st] [(.ref st)])) rfl (by rw [hml]; rfl) (argsL := [(.ref st)]) (rest := []) (lenOf pd_225 rfl) rfl (by show 2 * 0 + _ ≤ _; exact Nat.le_of_eq rfl) (hb hby at_108) (fun _ _ => ⟨rfl, rfl, (by decide : 6 + 2 ≤ _), (by decide : 19 + 56 ≤ _)⟩)
      dsimp only [Pt.U, Pt.locs, Pt.cells, Pt.slots] at Xq329 hSq329 hgr329 l329 y329 z329 st329 hQ329 CH329
      subst l329 y329 z329
      obtain ⟨rfl, N329q, K329⟩ := hQ329
      have N329 := Fr.app N321 N329q
      obtain ⟨X329, hS329, hZ329, hown329⟩ := rebS hS0 (by exact F340) Xq329 hSq329 hgr329 hZ hown
      have C344 : CHr Z own_EL s.vm h0 T329.vm T329.heap := C322.trans CH329
      have Sf345 : Safe Z own_EL T329.vm T329.heap v1 := CH329.safe F341.lt Sf323
      have Sf346 : Safe Z own_EL T329.vm T329.heap v2 := CH329.safe F342.lt Sf324
      have Sf347 : Safe Z own_EL T329.vm T329.heap v3 := CH329.safe F343.lt Sf325
      have Sf348 : Safe Z own_EL T329.vm T329.heap st := CH329.safe Q321_0.lt Sf326
      refine Go.to st329 ?_
      show Go _ _ _ _ T329 (mkF m 111 #[iv p0, iv p1, iv p2, iv p3, iv 3, rv v1, rv v2, rv v3, rv st] [])
      refine Go.aload2 113 X329 hx (hb hby at_111) rfl rfl rfl ?_
      have F349 : Old Z n0 T329.heap := F327.keep K329 all0
      have F350 : Exa Z T329.heap st "java/lang/String" := Q321_0.keep K329
      have F351 : Fld Z T329.heap st "java/lang/String" "value" "[B" (.ref sb) := Q321_2.keep K329 nin0
      have F352 : Arv Z T329.heap sb kb .byte (3 : Int32) vs (.int 0) := Q321_3.keep K329 nin0
      have F353 : Fld Z T329.heap st "java/lang/String" "coder" "B" (.int 0) := Q321_1.keep K329 nin0
      have F354 : n0 ≤ T329.heap.size := Nat.le_trans F328 K329.1
      obtain ⟨cq355, kq355, q355a, q355b, q355c⟩ := isOf hZ329 rfl F350
      obtain ⟨_, _, ⟨T355, L355, k355, n355⟩, -, X355, ⟨Lc355, hQ355, l355, y355, z355⟩, st355⟩ := X329.virtualBack hx (y := (⟨"java/lang/String", "length", "()I"⟩ : MethodName)) (z := (⟨"java/lang/String", "length", "()I"⟩ : MethodName)) hown329 (mvT hZ329 (ow hw 47 rfl)) (mvT hZ329 (ow hw 48 rfl)) (notFace_of_selects (args := #[]) (mvT hZ329 (ow hw 50 rfl))) (mvT hZ329 (ow hw 50 rfl)) (mvT hZ329 (ow hw 49 rfl)) (by decide) (backOf (W := 0) (rmLen l Z a0 hw [] st sb kb vs (3 : Int32) (0 : Int32) cs T329.heap n0 F354 F349 F350 F351 F352 F353 rfl S_cs n_cs) hZ329 (ow hw 51 rfl) (ow hw 4 rfl) (by decide) (by decide)) q355a q355c (g := (mkF m 113 #[iv p0, iv p1, iv p2, iv p3, iv 3, rv v1, rv v2, rv v3, rv st] [(.ref st)])) rfl (by rw [hml]; rfl) (Steps.refl _) (argsL := []) (rest := []) (lenOf pd_226 rfl) rfl (by show 2 * 0 + _ ≤ _; exact Nat.le_of_eq rfl) (hb hby at_113) (fun _ _ => ⟨rfl, rfl, (by decide : 8 + 0 ≤ _), (by decide : 75 + 0 ≤ _)⟩)
      dsimp only [Pt.U, Pt.locs, Pt.cells, Pt.slots] at X355 l355 y355 z355 st355 hQ355
      subst l355 y355 z355
      obtain ⟨rfl, N355q, e355⟩ := hQ355
      have N355 := Fr.app N329 N355q
      refine Go.to st355 ?_
      show Go _ _ _ _ T355 (mkF m 116 #[iv p0, iv p1, iv p2, iv p3, iv 3, rv v1, rv v2, rv v3, rv st] [(.int ((3 : Int32) >>> ((0 : Int32) &&& 31)))])
      rw [(by decide : ((3 : Int32) >>> ((0 : Int32) &&& 31)) = (3 : Int32))]
      show Go _ _ _ _ T355 (mkF m 116 #[iv p0, iv p1, iv p2, iv p3, iv 3, rv v1, rv v2, rv v3, rv st] [(.int 3)])
      refine Go.iload2 118 X355 hx (hb hby at_116) rfl rfl ?_
      refine Go.icmpN 121 X355 hx (hb hby at_118) (XT.ii_ne_f rfl) rfl ?_
      refine Go.aload2 123 X355 hx (hb hby at_121) rfl rfl rfl ?_
      obtain ⟨cq356, kq356, q356a, q356b, q356c⟩ := isOf hZ329 e355 F350
      obtain ⟨_, _, ⟨T356, L356, k356, n356⟩, -, X356, ⟨Lc356, hQ356, l356, y356, z356⟩, st356⟩ := X355.virtualBack hx (y := (⟨"java/lang/String", "isEmpty", "()Z"⟩ : MethodName)) (z := (⟨"java/lang/String", "isEmpty", "()Z"⟩ : MethodName)) hown329 (mvT hZ329 (ow hw 57 rfl)) (mvT hZ329 (ow hw 43 rfl)) (notFace_of_selects (args := #[]) (mvT hZ329 (ow hw 45 rfl))) (mvT hZ329 (ow hw 45 rfl)) (mvT hZ329 (ow hw 44 rfl)) (by decide) (backOf (W := 0) (rmEmpty l Z a0 hw [] st sb kb vs (3 : Int32) T329.heap n0 F354 F351 F352 (by decide)) hZ329 (ow hw 46 rfl) (ow hw 4 rfl) (by decide) (by decide)) q356a q356c (g := (mkF m 123 #[iv p0, iv p1, iv p2, iv p3, iv 3, rv v1, rv v2, rv v3, rv st] [(.ref st)])) rfl (by rw [hml]; rfl) (Steps.refl _) (argsL := []) (rest := []) (lenOf pd_218 rfl) rfl (by show 2 * 0 + _ ≤ _; exact Nat.le_of_eq rfl) (hb hby at_123) (fun _ _ => ⟨rfl, e355, (by decide : 8 + 0 ≤ _), (by decide : 75 + 0 ≤ _)⟩)
      dsimp only [Pt.U, Pt.locs, Pt.cells, Pt.slots] at X356 l356 y356 z356 st356 hQ356
      subst l356 y356 z356
      obtain ⟨rfl, N356q, e356⟩ := hQ356
      have N356 := Fr.app N355 N356q
      refine Go.to st356 ?_
      show Go _ _ _ _ T356 (mkF m 126 #[iv p0, iv p1, iv p2, iv p3, iv 3, rv v1, rv v2, rv v3, rv st] [(.int 0)])
      refine Go.ifN 129 X356 hx (hb hby at_126) (XT.i0_ne_f rfl) rfl ?_
      refine Go.iconst 130 X356 hx (1 : Int32) (hb hby at_129) (by decide) rfl ?_
      refine Go.goto 134 X356 hx (hb hby at_130) (by decide) (by decide) ?_
      exact Go.retIW X356 hx Bd.notSynchronized hS329 (by rw [e356]; exact (Nat.le_refl T329.heap.size)) hZ329 hEL (by rw [hh, e356]; exact C344) Bd.returns rfl (by simp) (hb hby at_134) (by rw [e356]; exact ⟨rfl, N356⟩) (by decide) (by decide)
    · have F357 : Old Z n0 T321.heap := F314.keep K321 (allS ge_st all0)
      have F358 : n0 ≤ T321.heap.size := Nat.le_trans F316 K321.1
      have F360 : s.heap.size ≤ h1.size := Nat.le_trans hk0 E1.1
      have F361 : s.heap.size ≤ h4.size := Nat.le_trans F360 (Nat.le_of_eq (Wr.size W4).symm)
      have F362 : s.heap.size ≤ h7.size := Nat.le_trans F361 E7.1
      have F363 : s.heap.size ≤ h16.size := Nat.le_trans F362 (Nat.le_of_eq (Wr.size W16).symm)
      have F364 : s.heap.size ≤ h20.size := Nat.le_trans F363 (Nat.le_of_eq (Wr.size W20).symm)
      have F365 : s.heap.size ≤ h24.size := Nat.le_trans F364 E24.1
      have F366 : s.heap.size ≤ h40.size := Nat.le_trans F365 (Nat.le_of_eq (Wr.size W40).symm)
      have F367 : s.heap.size ≤ h45.size := Nat.le_trans F366 (Nat.le_of_eq (Wr.size W45).symm)
      have F368 : s.heap.size ≤ h50.size := Nat.le_trans F367 (Nat.le_of_eq (Wr.size W50).symm)
      have F369 : s.heap.size ≤ h280.size := Nat.le_trans F368 E280.1
      have F370 : s.heap.size ≤ T321.heap.size := Nat.le_trans F369 K321.1
      have F371 : Exa Z T321.heap v1 "[C" := F318.keep K321
      have F372 : Exa Z T321.heap v2 "[C" := F319.keep K321
      have F373 : Exa Z T321.heap v3 "[C" := F320.keep K321
      obtain ⟨_, _, ⟨T359, L359, k359, n359⟩, -, Xq359, hSq359, hgr359, ⟨Lc359, hQ359, l359, y359, z359, CH359⟩, st359⟩ := callSS X321 hx (y := (⟨"com/example/sessionkeep/sessionkeep/store/StoredSession", "checkPrincipalNameAttribute", "(Ljava/lang/String;)V"⟩ : MethodName)) hown (mvT hZ (ow hw 31 rfl)) (mvT hZ (ow hw 32 rfl)) (mvT hZ (ow hw 33 rfl)) (mvT hZ (ow hw 34 rfl)) (by decide) (backOfSH (W := 0) (rmCheck l Z a0 hw [] st sb kb vs (6 : Int32) T321.heap n0 F358 F357 Q321_0 Q321_2 Q321_3 (by decide)) hZ (ow hw 34 rfl) (ow hw 33 rfl) (by decide) (by decide) hEL C322.1) (g := (mkF m 108 #[iv p0, iv p1, iv p2, iv p3, iv 3, rv v1, rv v2, rv v3, rv st] [(.ref st)])) rfl (by rw [hml]; rfl) (argsL := [(.ref st)]) (rest := []) (lenOf pd_225 rfl) rfl (by show 2 * 0 + _ ≤ _; exact Nat.le_of_eq rfl) (hb hby at_108) (fun _ _ => ⟨rfl, rfl, (by decide : 6 + 2 ≤ _), (by decide : 19 + 56 ≤ _)⟩)
      dsimp only [Pt.U, Pt.locs, Pt.cells, Pt.slots] at Xq359 hSq359 hgr359 l359 y359 z359 st359 hQ359 CH359
      subst l359 y359 z359
      obtain ⟨rfl, N359q, K359⟩ := hQ359
      have N359 := Fr.app N321 N359q
      obtain ⟨X359, hS359, hZ359, hown359⟩ := rebS hS0 (by exact F370) Xq359 hSq359 hgr359 hZ hown
      have C374 : CHr Z own_EL s.vm h0 T359.vm T359.heap := C322.trans CH359
      have Sf375 : Safe Z own_EL T359.vm T359.heap v1 := CH359.safe F371.lt Sf323
      have Sf376 : Safe Z own_EL T359.vm T359.heap v2 := CH359.safe F372.lt Sf324
      have Sf377 : Safe Z own_EL T359.vm T359.heap v3 := CH359.safe F373.lt Sf325
      have Sf378 : Safe Z own_EL T359.vm T359.heap st := CH359.safe Q321_0.lt Sf326
      refine Go.to st359 ?_
      show Go _ _ _ _ T359 (mkF m 111 #[iv p0, iv p1, iv p2, iv p3, iv 3, rv v1, rv v2, rv v3, rv st] [])
      refine Go.aload2 113 X359 hx (hb hby at_111) rfl rfl rfl ?_
      have F379 : Old Z n0 T359.heap := F357.keep K359 all0
      have F380 : Exa Z T359.heap st "java/lang/String" := Q321_0.keep K359
      have F381 : Fld Z T359.heap st "java/lang/String" "value" "[B" (.ref sb) := Q321_2.keep K359 nin0
      have F382 : Arv Z T359.heap sb kb .byte (6 : Int32) vs (.int 0) := Q321_3.keep K359 nin0
      have F383 : Fld Z T359.heap st "java/lang/String" "coder" "B" (.int 1) := Q321_1.keep K359 nin0
      have F384 : n0 ≤ T359.heap.size := Nat.le_trans F358 K359.1
      obtain ⟨cq385, kq385, q385a, q385b, q385c⟩ := isOf hZ359 rfl F380
      obtain ⟨_, _, ⟨T385, L385, k385, n385⟩, -, X385, ⟨Lc385, hQ385, l385, y385, z385⟩, st385⟩ := X359.virtualBack hx (y := (⟨"java/lang/String", "length", "()I"⟩ : MethodName)) (z := (⟨"java/lang/String", "length", "()I"⟩ : MethodName)) hown359 (mvT hZ359 (ow hw 47 rfl)) (mvT hZ359 (ow hw 48 rfl)) (notFace_of_selects (args := #[]) (mvT hZ359 (ow hw 50 rfl))) (mvT hZ359 (ow hw 50 rfl)) (mvT hZ359 (ow hw 49 rfl)) (by decide) (backOf (W := 0) (rmLen l Z a0 hw [] st sb kb vs (6 : Int32) (1 : Int32) cs T359.heap n0 F384 F379 F380 F381 F382 F383 rfl S_cs n_cs) hZ359 (ow hw 51 rfl) (ow hw 4 rfl) (by decide) (by decide)) q385a q385c (g := (mkF m 113 #[iv p0, iv p1, iv p2, iv p3, iv 3, rv v1, rv v2, rv v3, rv st] [(.ref st)])) rfl (by rw [hml]; rfl) (Steps.refl _) (argsL := []) (rest := []) (lenOf pd_226 rfl) rfl (by show 2 * 0 + _ ≤ _; exact Nat.le_of_eq rfl) (hb hby at_113) (fun _ _ => ⟨rfl, rfl, (by decide : 8 + 0 ≤ _), (by decide : 75 + 0 ≤ _)⟩)
      dsimp only [Pt.U, Pt.locs, Pt.cells, Pt.slots] at X385 l385 y385 z385 st385 hQ385
      subst l385 y385 z385
      obtain ⟨rfl, N385q, e385⟩ := hQ385
      have N385 := Fr.app N359 N385q
      refine Go.to st385 ?_
      show Go _ _ _ _ T385 (mkF m 116 #[iv p0, iv p1, iv p2, iv p3, iv 3, rv v1, rv v2, rv v3, rv st] [(.int ((6 : Int32) >>> ((1 : Int32) &&& 31)))])
      rw [(by decide : ((6 : Int32) >>> ((1 : Int32) &&& 31)) = (3 : Int32))]
      show Go _ _ _ _ T385 (mkF m 116 #[iv p0, iv p1, iv p2, iv p3, iv 3, rv v1, rv v2, rv v3, rv st] [(.int 3)])
      refine Go.iload2 118 X385 hx (hb hby at_116) rfl rfl ?_
      refine Go.icmpN 121 X385 hx (hb hby at_118) (XT.ii_ne_f rfl) rfl ?_
      refine Go.aload2 123 X385 hx (hb hby at_121) rfl rfl rfl ?_
      obtain ⟨cq386, kq386, q386a, q386b, q386c⟩ := isOf hZ359 e385 F380
      obtain ⟨_, _, ⟨T386, L386, k386, n386⟩, -, X386, ⟨Lc386, hQ386, l386, y386, z386⟩, st386⟩ := X385.virtualBack hx (y := (⟨"java/lang/String", "isEmpty", "()Z"⟩ : MethodName)) (z := (⟨"java/lang/String", "isEmpty", "()Z"⟩ : MethodName)) hown359 (mvT hZ359 (ow hw 57 rfl)) (mvT hZ359 (ow hw 43 rfl)) (notFace_of_selects (args := #[]) (mvT hZ359 (ow hw 45 rfl))) (mvT hZ359 (ow hw 45 rfl)) (mvT hZ359 (ow hw 44 rfl)) (by decide) (backOf (W := 0) (rmEmpty l Z a0 hw [] st sb kb vs (6 : Int32) T359.heap n0 F384 F381 F382 (by decide)) hZ359 (ow hw 46 rfl) (ow hw 4 rfl) (by decide) (by decide)) q386a q386c (g := (mkF m 123 #[iv p0, iv p1, iv p2, iv p3, iv 3, rv v1, rv v2, rv v3, rv st] [(.ref st)])) rfl (by rw [hml]; rfl) (Steps.refl _) (argsL := []) (rest := []) (lenOf pd_218 rfl) rfl (by show 2 * 0 + _ ≤ _; exact Nat.le_of_eq rfl) (hb hby at_123) (fun _ _ => ⟨rfl, e385, (by decide : 8 + 0 ≤ _), (by decide : 75 + 0 ≤ _)⟩)
      dsimp only [Pt.U, Pt.locs, Pt.cells, Pt.slots] at X386 l386 y386 z386 st386 hQ386
      subst l386 y386 z386
      obtain ⟨rfl, N386q, e386⟩ := hQ386
      have N386 := Fr.app N385 N386q
      refine Go.to st386 ?_
      show Go _ _ _ _ T386 (mkF m 126 #[iv p0, iv p1, iv p2, iv p3, iv 3, rv v1, rv v2, rv v3, rv st] [(.int 0)])
      refine Go.ifN 129 X386 hx (hb hby at_126) (XT.i0_ne_f rfl) rfl ?_
      refine Go.iconst 130 X386 hx (1 : Int32) (hb hby at_129) (by decide) rfl ?_
      refine Go.goto 134 X386 hx (hb hby at_130) (by decide) (by decide) ?_
      exact Go.retIW X386 hx Bd.notSynchronized hS359 (by rw [e386]; exact (Nat.le_refl T359.heap.size)) hZ359 hEL (by rw [hh, e386]; exact C374) Bd.returns rfl (by simp) (hb hby at_134) (by rw [e386]; exact ⟨rfl, N386⟩) (by decide) (by decide)
set_option maxRecDepth 65536 in
set_option maxHeartbeats 40000000 in
theorem comes_1 {Post : Tables → Env → Array Value → State → Outcome → State → Prop} (hpost : ∀ tb e args s v u, (limb_1_1.after args s (.returned v) u = true ∧ limb_1_2.after args s (.returned v) u = true ∧ True) → ReturnedEndW s (.returned v) u (Jvm.fieldLocs frame_1_writes args s ++ Jvm.arrayLocs frame_1_arrays args s ++ Jvm.staticLocs frame_1_statics s) 24 1152 → Post tb e args s (.returned v) u) :
    ArmFor flags0 classFile x code maxLocals ret World_1 tables_1 room_1 Calls_1 rest_1 Pre_1 Post := by
  intro l hfl _ _ p e ha hc hk s m args below hf hA hF happ hP
  obtain ⟨hcalls, hrest, hpre⟩ := hP
  obtain ⟨-, -, -, hnamed, -, -, -, hat⟩ := (Spec.applies_iff hf).mp happ
  obtain ⟨hg, hn⟩ := and_e (Cond.before_iff.mp (show (Jvm.Cond.and given_1 narrow_1).before args s = true from hpre))
  obtain ⟨hcount, hg0⟩ := and_e hg
  obtain ⟨ha0, hg1⟩ := and_e hg0
  obtain ⟨ha1, hg2⟩ := and_e hg1
  obtain ⟨ha2, hg3⟩ := and_e hg2
  have ha3 := hg3
  obtain ⟨w0, w1, w2, w3, rfl⟩ : ∃ w0 w1 w2 w3 : Value, args = #[w0, w1, w2, w3] := by
    have hs : args.size = 4 := by simpa [Cond.value, given_1] using hcount
    obtain ⟨L⟩ := args
    match L, hs with
    | [w0, w1, w2, w3], _ => exact ⟨w0, w1, w2, w3, rfl⟩
  have hw := fun d (hd : d ∈ tables_1) => atoms_spec (ws := Jvm.Cond.code x code maxLocals ret :: tables_1) hat d (List.mem_cons_of_mem _ hd)
  obtain ⟨hsets, hown0⟩ := atoms_of _ (rest_1_c_eq ▸ (show rest_1_c.before _ s = true from hrest))
  have hr0 := Cond.before_iff.mp hown0
  have hfit : Fit s := fun {y c} hc i hi => by
    obtain ⟨ha, rfl⟩ := Array.getElem?_eq_some_iff.mp hc
    have q := List.all_eq_true.mp ((Array.all_eq_true_iff_forall_mem.mp hF) _ (Array.getElem_mem ha)) i (List.mem_range.mpr hi)
    simpa [Array.getElem?_eq_getElem hi] using q
  obtain ⟨i0, ei0⟩ := is_v ha0
  obtain rfl : w0 = (.int i0) := Option.some.inj ei0
  obtain ⟨i1, ei1⟩ := is_v ha1
  obtain rfl : w1 = (.int i1) := Option.some.inj ei1
  obtain ⟨i2, ei2⟩ := is_v ha2
  obtain rfl : w2 = (.int i2) := Option.some.inj ei2
  obtain ⟨i3, ei3⟩ := is_v ha3
  obtain rfl : w3 = (.int i3) := Option.some.inj ei3
  obtain ⟨cs, ev_cs⟩ := is_v (Cond.before_iff.mp (hsets _ (List.mem_of_getElem? (i := 1) rfl)))
  have S_cs := Sta.start ev_cs (Or.inl (hsets _ (List.mem_of_getElem? (i := 0) rfl)))
  have n_cs : ¬ (cs = (0 : Int32)) := gotF (Cond.eq_ints ev_cs (Term.int_eval (0))) (not_v (Cond.before_iff.mp (hsets _ (List.mem_of_getElem? (i := 2) rfl))))
  have U0 := Sta.start (eqv_i (Term.int_eval 1) (Cond.before_iff.mp (hsets _ (List.mem_of_getElem? (i := 12) rfl)))) (Or.inl (hsets _ (List.mem_of_getElem? (i := 11) rfl)))
  have U1 := Sta.start (eqv_i (Term.int_eval 0) (Cond.before_iff.mp (hsets _ (List.mem_of_getElem? (i := 15) rfl)))) (Or.inl (hsets _ (List.mem_of_getElem? (i := 14) rfl)))
  have U2 := Sta.start (eqv_i (Term.int_eval 8) (Cond.before_iff.mp (hsets _ (List.mem_of_getElem? (i := 18) rfl)))) (Or.inl (hsets _ (List.mem_of_getElem? (i := 17) rfl)))
  have hCH : CHv s own_EL s.vm s.heap := fun _ hp => by cases hp
  obtain ⟨n, o, h1, h2, h3, _, L, rfl, ⟨rfl, N⟩, -, hq⟩ := rm0 l s _ hw tables_1 i0 i1 i2 i3 cs s.heap s.heap.size (Nat.le_refl _) (Old.start s) S_cs n_cs U0 U1 U2 p e ha hc hk s m _ below hf ((Spec.applies_iff_loose hf).mp happ).1 ⟨rfl, State.Warmed39.refl s, rfl, hCH⟩ trivial
  refine ⟨n, _, h1, h2, h3, hpost _ _ _ _ _ _ ⟨Cond.after_iff.mpr rfl, Cond.after_iff.mpr (eq_i res_at (Term.int_eval (1)) rfl), trivial⟩ ⟨hq.1, hq.2.1, hq.2.2.1, (hq.2.2.2.sift fun y hy => Or.inr (N y hy)).mono (by decide) (by decide)⟩⟩
theorem main_1_1 : Claimed_1_1 := comes_1 fun _ _ _ _ _ _ h hF => ⟨h.1, hF⟩
theorem main_1_2 : Claimed_1_2 := comes_1 fun _ _ _ _ _ _ h hF => ⟨h.2.1, hF⟩
end Jvm.Pilot.@@N@@
namespace Jvm.Pilot.@@N@@
open Jvm Jvm.ClassFile Sem Op Lib Jvm.Free Jvm.Stand Jvm.Pilot.@@N@@.Jvm.D
/-! MADE BY PROGRAM (witnessworld.py) out of the Statement's table words and the real class files: 22 classes; the members and pool entries that the words name. The judged class is class 1, her method 1. -/
namespace start1
open Jvm.ClassFile
def u (s : String) : CpInfo := .utf8 (stringToUtf16 s)
/-- a pool by its gaps: so many unusable entries, then the entry; so many at the end -/
def gap : Nat → List CpInfo → List CpInfo
  | 0, r => r
  | n + 1, r => .unusable :: gap n r
def poolList (es : List (Nat × CpInfo)) (last : Nat) : List CpInfo := es.foldr (fun e r => gap e.1 (e.2 :: r)) (gap last [])
def pool (es : List (Nat × CpInfo)) (last : Nat) : Array CpInfo := ⟨poolList es last⟩
def fileOf (pool : Array CpInfo) (this : Nat) (attrs : Array Attribute := #[]) (ms : Array MethodInfo := #[]) (fl : Nat := 33) (sup : Nat := 0) (ifs : Array Nat := #[]) (fds : Array FieldInfo := #[]) : ClassFile where
  minorVersion := 0
  majorVersion := 65
  constantPool := pool
  accessFlags := fl
  thisClass := this
  superClass := sup
  interfaces := ifs
  fields := fds
  methods := ms
  attributes := attrs
def plain (name : String) (sup : Option ClassId) : Class where
  name := name
  kind := .ordinary
  loader := none
  accessFlags := 33
  super := sup
  interfaces := #[]
  cf := none
  fields := #[]
  methods := #[]
  instanceTypes := #[]
  staticTypes := #[]
  resolved := #[]
  callSites := []
  init := .initialized
  statics := none
  mirror := none

def pool0 : Array CpInfo := pool [(5, u "<init>"), (0, u "()V"), (1, .class_ 10), (1, u "java/lang/Object")] 113

def k0c0 : Code := { maxStack := 0, maxLocals := 1, code := object_method_1_code, exceptionTable := #[], attributes := #[] }
def k0m0 : Method := { name := "<init>", desc := "()V", sig := { parameters := [], returnType := none }, accessFlags := 1, code := some k0c0 }
/-- java/lang/Object -/
def k0 : Class := { plain "java/lang/Object" none with
  accessFlags := 33
  interfaces := #[]
  cf := some (fileOf pool0 8 #[] #[{ accessFlags := 1, nameIndex := 5, descriptorIndex := 6, attributes := #[] }] 33 0 #[] #[])
  fields := #[]
  methods := #[k0m0]
  instanceTypes := #[]
  staticTypes := #[]
  resolved := Array.replicate 124 none
  statics := none }

def pool1 : Array CpInfo := pool [(2, .class_ 4), (1, u "java/lang/Object"), (0, u "<init>"), (0, u "()V"), (0, .integer 2147483647), (0, .class_ 9), (0, u "java/lang/String"), (0, .methodref 8 11), (0, .nameAndType 5 12), (0, u "([C)V"), (0, .methodref 14 15), (0, .class_ 16), (0, .nameAndType 17 18), (0, u "com/example/sessionkeep/sessionkeep/store/StoredSession"), (0, u "checkPrincipalNameAttribute"), (0, u "(Ljava/lang/String;)V"), (0, .methodref 8 20), (0, .nameAndType 21 22), (0, u "length"), (0, u "()I"), (0, .methodref 8 24), (0, .nameAndType 25 26), (0, u "isEmpty"), (0, u "()Z"), (0, .class_ 28), (0, u "com/example/sessionkeep/sessionkeep/store/StoredSessionCheckPrincipalNameAttributePinLaw"), (2, u "law"), (0, u "(IIII)Z")] 5

def k1m0 : Method := { name := "<init>", desc := "()V", sig := { parameters := [], returnType := none }, accessFlags := 1, code := none }
def k1c1 : Code := { maxStack := 4, maxLocals := 9, code := code, exceptionTable := #[], attributes := #[] }
def k1m1 : Method := { name := "law", desc := "(IIII)Z", sig := { parameters := [.int, .int, .int, .int], returnType := some .boolean }, accessFlags := 9, code := some k1c1 }
/-- com/example/sessionkeep/sessionkeep/store/StoredSessionCheckPrincipalNameAttributePinLaw -/
def k1 : Class := { plain "com/example/sessionkeep/sessionkeep/store/StoredSessionCheckPrincipalNameAttributePinLaw" (some 0) with
  accessFlags := 49
  interfaces := #[]
  cf := some (fileOf pool1 27 #[] #[{ accessFlags := 1, nameIndex := 5, descriptorIndex := 6, attributes := #[] }, { accessFlags := 9, nameIndex := 31, descriptorIndex := 32, attributes := #[] }] 49 2 #[] #[])
  fields := #[]
  methods := #[k1m0, k1m1]
  instanceTypes := #[]
  staticTypes := #[]
  resolved := Array.replicate 38 none
  statics := none }

def pool2 : Array CpInfo := pool [(1, .class_ 2), (0, u "java/io/Serializable"), (0, .class_ 4), (0, u "java/lang/Object")] 2

/-- java/io/Serializable -/
def k2 : Class := { plain "java/io/Serializable" (some 0) with
  accessFlags := 1537
  interfaces := #[]
  cf := some (fileOf pool2 1 #[] #[] 1537 3 #[] #[])
  fields := #[]
  methods := #[]
  instanceTypes := #[]
  staticTypes := #[]
  resolved := Array.replicate 7 none
  statics := none }

def pool3 : Array CpInfo := pool [(1, .class_ 2), (0, u "java/lang/Comparable"), (0, .class_ 4), (0, u "java/lang/Object")] 7

/-- java/lang/Comparable -/
def k3 : Class := { plain "java/lang/Comparable" (some 0) with
  accessFlags := 1537
  interfaces := #[]
  cf := some (fileOf pool3 1 #[] #[] 1537 3 #[] #[])
  fields := #[]
  methods := #[]
  instanceTypes := #[]
  staticTypes := #[]
  resolved := Array.replicate 12 none
  statics := none }

def pool4 : Array CpInfo := pool [(2, .class_ 4), (1, u "java/lang/CharSequence"), (42, .class_ 48), (0, u "java/lang/CharSequence$1CodePointIterator"), (10, .class_ 60), (0, u "java/lang/CharSequence$1CharIterator"), (5, .class_ 67), (0, u "java/lang/Object")] 63

/-- java/lang/CharSequence -/
def k4 : Class := { plain "java/lang/CharSequence" (some 0) with
  accessFlags := 1537
  interfaces := #[]
  cf := some (fileOf pool4 2 #[.nestMembers #[47, 59]] #[] 1537 66 #[] #[])
  fields := #[]
  methods := #[]
  instanceTypes := #[]
  staticTypes := #[]
  resolved := Array.replicate 131 none
  statics := none }

def pool5 : Array CpInfo := pool [(1, .class_ 2), (0, u "java/lang/constant/Constable"), (0, .class_ 4), (0, u "java/lang/Object")] 6

/-- java/lang/constant/Constable -/
def k5 : Class := { plain "java/lang/constant/Constable" (some 0) with
  accessFlags := 1537
  interfaces := #[]
  cf := some (fileOf pool5 1 #[] #[] 1537 3 #[] #[])
  fields := #[]
  methods := #[]
  instanceTypes := #[]
  staticTypes := #[]
  resolved := Array.replicate 11 none
  statics := none }

def pool6 : Array CpInfo := pool [(1, .class_ 2), (0, u "java/lang/constant/ConstantDesc"), (0, .class_ 4), (0, u "java/lang/Object")] 32

/-- java/lang/constant/ConstantDesc -/
def k6 : Class := { plain "java/lang/constant/ConstantDesc" (some 0) with
  accessFlags := 1537
  interfaces := #[]
  cf := some (fileOf pool6 1 #[] #[] 1537 3 #[] #[])
  fields := #[]
  methods := #[]
  instanceTypes := #[]
  staticTypes := #[]
  resolved := Array.replicate 37 none
  statics := none }

def pool7 : Array CpInfo := pool [(1, .methodref 2 3), (0, .class_ 4), (0, .nameAndType 5 6), (0, u "java/lang/Object"), (0, u "<init>"), (0, u "()V"), (2, .fieldref 10 11), (0, .class_ 12), (0, .nameAndType 13 14), (0, u "java/lang/String"), (0, u "value"), (0, u "[B"), (0, .fieldref 10 16), (0, .nameAndType 17 18), (0, u "coder"), (0, u "B"), (2, u "hash"), (0, u "I"), (2, u "hashIsZero"), (0, u "Z"), (0, .methodref 10 28), (0, .nameAndType 5 29), (0, u "([CIILjava/lang/Void;)V"), (8, .fieldref 10 39), (0, .nameAndType 40 26), (0, u "COMPACT_STRINGS"), (1, .class_ 44), (1, u "java/lang/StringUTF16"), (0, u "compress"), (1, .methodref 42 48), (0, .nameAndType 49 50), (0, u "coderFromArrayLen"), (0, u "([BI)B"), (91, u "()Z"), (34, .methodref 42 178), (0, .nameAndType 45 179), (0, u "([CII)[B"), (154, u "()I"), (0, .methodref 10 336), (0, .nameAndType 17 337), (0, u "()B"), (169, u "length"), (67, .class_ 576), (0, u "java/lang/CharSequence"), (22, u "CASE_INSENSITIVE_ORDER"), (0, u "Ljava/util/Comparator;"), (91, u "isEmpty"), (317, u "([C)V"), (90, u "serialPersistentFields"), (0, u "[Ljava/io/ObjectStreamField;"), (0, .class_ 1104), (0, u "java/lang/String$CaseInsensitiveComparator"), (1, .class_ 1107), (0, u "java/io/Serializable"), (0, .class_ 1109), (0, u "java/lang/Comparable"), (0, .class_ 1111), (0, u "java/lang/constant/Constable"), (0, .class_ 1113), (0, u "java/lang/constant/ConstantDesc"), (2, u "serialVersionUID"), (0, u "J"), (3, u "REPL"), (0, u "C"), (2, u "LATIN1"), (1, u "UTF16")] 323

def k7m0 : Method := { name := "<init>", desc := "()V", sig := { parameters := [], returnType := none }, accessFlags := 1, code := none }
def k7c1 : Code := { maxStack := 5, maxLocals := 2, code := jdk_42_method_3_code, exceptionTable := #[], attributes := #[] }
def k7m1 : Method := { name := "<init>", desc := "([C)V", sig := { parameters := [(.array .char)], returnType := none }, accessFlags := 1, code := some k7c1 }
def k7c2 : Code := { maxStack := 2, maxLocals := 1, code := jdk_42_method_54_code, exceptionTable := #[], attributes := #[] }
def k7m2 : Method := { name := "length", desc := "()I", sig := { parameters := [], returnType := some .int }, accessFlags := 1, code := some k7c2 }
def k7c3 : Code := { maxStack := 1, maxLocals := 1, code := jdk_42_method_55_code, exceptionTable := #[], attributes := #[] }
def k7m3 : Method := { name := "isEmpty", desc := "()Z", sig := { parameters := [], returnType := some .boolean }, accessFlags := 1, code := some k7c3 }
def k7c4 : Code := { maxStack := 4, maxLocals := 6, code := jdk_42_method_149_code, exceptionTable := #[], attributes := #[] }
def k7m4 : Method := { name := "<init>", desc := "([CIILjava/lang/Void;)V", sig := { parameters := [(.array .char), .int, .int, (.object "java/lang/Void")], returnType := none }, accessFlags := 2, code := some k7c4 }
def k7c5 : Code := { maxStack := 1, maxLocals := 1, code := jdk_42_method_152_code, exceptionTable := #[], attributes := #[] }
def k7m5 : Method := { name := "coder", desc := "()B", sig := { parameters := [], returnType := some .byte }, accessFlags := 0, code := some k7c5 }
/-- java/lang/String -/
def k7 : Class := { plain "java/lang/String" (some 0) with
  accessFlags := 49
  interfaces := #[2, 3, 4, 5, 6]
  cf := some (fileOf pool7 10 #[.nestMembers #[1103]] #[{ accessFlags := 1, nameIndex := 5, descriptorIndex := 6, attributes := #[] }, { accessFlags := 1, nameIndex := 5, descriptorIndex := 1010, attributes := #[] }, { accessFlags := 1, nameIndex := 507, descriptorIndex := 334, attributes := #[] }, { accessFlags := 1, nameIndex := 692, descriptorIndex := 142, attributes := #[] }, { accessFlags := 2, nameIndex := 5, descriptorIndex := 29, attributes := #[] }, { accessFlags := 0, nameIndex := 17, descriptorIndex := 337, attributes := #[] }] 49 2 #[1106, 1108, 575, 1110, 1112] #[{ accessFlags := 18, nameIndex := 13, descriptorIndex := 14, attributes := #[] }, { accessFlags := 18, nameIndex := 17, descriptorIndex := 18, attributes := #[] }, { accessFlags := 2, nameIndex := 21, descriptorIndex := 22, attributes := #[] }, { accessFlags := 2, nameIndex := 25, descriptorIndex := 26, attributes := #[] }, { accessFlags := 26, nameIndex := 1116, descriptorIndex := 1117, attributes := #[] }, { accessFlags := 24, nameIndex := 40, descriptorIndex := 26, attributes := #[] }, { accessFlags := 26, nameIndex := 1101, descriptorIndex := 1102, attributes := #[] }, { accessFlags := 26, nameIndex := 1121, descriptorIndex := 1122, attributes := #[] }, { accessFlags := 25, nameIndex := 599, descriptorIndex := 600, attributes := #[] }, { accessFlags := 24, nameIndex := 1125, descriptorIndex := 18, attributes := #[] }, { accessFlags := 24, nameIndex := 1127, descriptorIndex := 18, attributes := #[] }])
  fields := #[{ name := "value", type := (.array .byte), accessFlags := 18, slot := 0, constantValue := 0 }, { name := "coder", type := .byte, accessFlags := 18, slot := 1, constantValue := 0 }, { name := "hash", type := .int, accessFlags := 2, slot := 2, constantValue := 0 }, { name := "hashIsZero", type := .boolean, accessFlags := 2, slot := 3, constantValue := 0 }, { name := "serialVersionUID", type := .long, accessFlags := 26, slot := 0, constantValue := 0 }, { name := "COMPACT_STRINGS", type := .boolean, accessFlags := 24, slot := 1, constantValue := 0 }, { name := "serialPersistentFields", type := (.array (.object "java/io/ObjectStreamField")), accessFlags := 26, slot := 2, constantValue := 0 }, { name := "REPL", type := .char, accessFlags := 26, slot := 3, constantValue := 0 }, { name := "CASE_INSENSITIVE_ORDER", type := (.object "java/util/Comparator"), accessFlags := 25, slot := 4, constantValue := 0 }, { name := "LATIN1", type := .byte, accessFlags := 24, slot := 5, constantValue := 0 }, { name := "UTF16", type := .byte, accessFlags := 24, slot := 6, constantValue := 0 }]
  methods := #[k7m0, k7m1, k7m2, k7m3, k7m4, k7m5]
  instanceTypes := #[(.array .byte), .byte, .int, .boolean]
  staticTypes := #[.long, .boolean, (.array (.object "java/io/ObjectStreamField")), .char, (.object "java/util/Comparator"), .byte, .byte]
  resolved := Array.replicate 1451 none
  statics := some 0 }

def pool8 : Array CpInfo := pool [(6, .class_ 8), (1, u "java/lang/Object"), (0, u "<init>"), (0, u "()V"), (0, .methodref 12 13), (0, .class_ 14), (0, .nameAndType 15 16), (0, u "java/lang/StringUTF16"), (0, u "newBytesLength"), (0, u "(I)I"), (3, .integer 1073741823), (23, .fieldref 12 45), (0, .nameAndType 46 47), (0, u "$assertionsDisabled"), (0, u "Z"), (11, .fieldref 12 60), (0, .nameAndType 61 62), (0, u "HI_BYTE_SHIFT"), (0, u "I"), (0, .fieldref 12 64), (0, .nameAndType 65 62), (0, u "LO_BYTE_SHIFT"), (5, .methodref 12 72), (0, .nameAndType 73 74), (0, u "getChar"), (0, u "([BI)C"), (32, .methodref 12 108), (0, .nameAndType 109 110), (0, u "newBytesFor"), (0, u "(I)[B"), (0, .methodref 12 112), (0, .nameAndType 113 114), (0, u "putChar"), (0, u "([BII)V"), (0, .methodref 12 116), (0, .nameAndType 117 118), (0, u "compress"), (0, u "([CI[BII)I"), (0, .methodref 12 120), (0, .nameAndType 121 122), (0, u "toBytes"), (0, u "([CII)[B"), (138, u "coderFromArrayLen"), (0, u "([BI)B"), (106, .class_ 371), (1, u "java/lang/StringUTF16$LinesSpliterator"), (58, u "MAX_LENGTH"), (196, .class_ 628), (0, u "java/lang/StringUTF16$CodePointsSpliterator"), (0, .class_ 630), (0, u "java/lang/StringUTF16$CharsSpliterator")] 4

def k8m0 : Method := { name := "<init>", desc := "()V", sig := { parameters := [], returnType := none }, accessFlags := 0, code := none }
def k8c1 : Code := { maxStack := 1, maxLocals := 1, code := jdk_52_method_2_code, exceptionTable := #[], attributes := #[] }
def k8m1 : Method := { name := "newBytesFor", desc := "(I)[B", sig := { parameters := [.int], returnType := some (.array .byte) }, accessFlags := 9, code := some k8c1 }
def k8c2 : Code := { maxStack := 4, maxLocals := 1, code := jdk_52_method_3_code, exceptionTable := #[], attributes := #[] }
def k8m2 : Method := { name := "newBytesLength", desc := "(I)I", sig := { parameters := [.int], returnType := some .int }, accessFlags := 9, code := some k8c2 }
def k8c3 : Code := { maxStack := 4, maxLocals := 3, code := jdk_52_method_4_code, exceptionTable := #[], attributes := #[] }
def k8m3 : Method := { name := "putChar", desc := "([BII)V", sig := { parameters := [(.array .byte), .int, .int], returnType := none }, accessFlags := 8, code := some k8c3 }
def k8c4 : Code := { maxStack := 3, maxLocals := 2, code := jdk_52_method_5_code, exceptionTable := #[], attributes := #[] }
def k8m4 : Method := { name := "getChar", desc := "([BI)C", sig := { parameters := [(.array .byte), .int], returnType := some .char }, accessFlags := 8, code := some k8c4 }
def k8c5 : Code := { maxStack := 4, maxLocals := 5, code := jdk_52_method_14_code, exceptionTable := #[], attributes := #[] }
def k8m5 : Method := { name := "toBytes", desc := "([CII)[B", sig := { parameters := [(.array .char), .int, .int], returnType := some (.array .byte) }, accessFlags := 9, code := some k8c5 }
def k8c6 : Code := { maxStack := 2, maxLocals := 2, code := jdk_52_method_15_code, exceptionTable := #[], attributes := #[] }
def k8m6 : Method := { name := "coderFromArrayLen", desc := "([BI)B", sig := { parameters := [(.array .byte), .int], returnType := some .byte }, accessFlags := 8, code := some k8c6 }
def k8c7 : Code := { maxStack := 5, maxLocals := 6, code := jdk_52_method_16_code, exceptionTable := #[], attributes := #[] }
def k8m7 : Method := { name := "compress", desc := "([CII)[B", sig := { parameters := [(.array .char), .int, .int], returnType := some (.array .byte) }, accessFlags := 9, code := some k8c7 }
def k8c8 : Code := { maxStack := 3, maxLocals := 7, code := jdk_52_method_21_code, exceptionTable := #[], attributes := #[] }
def k8m8 : Method := { name := "compress", desc := "([CI[BII)I", sig := { parameters := [(.array .char), .int, (.array .byte), .int, .int], returnType := some .int }, accessFlags := 9, code := some k8c8 }
/-- java/lang/StringUTF16 -/
def k8 : Class := { plain "java/lang/StringUTF16" (some 0) with
  accessFlags := 48
  interfaces := #[]
  cf := some (fileOf pool8 12 #[.nestMembers #[627, 629, 369]] #[{ accessFlags := 0, nameIndex := 9, descriptorIndex := 10, attributes := #[] }, { accessFlags := 9, nameIndex := 109, descriptorIndex := 110, attributes := #[] }, { accessFlags := 9, nameIndex := 15, descriptorIndex := 16, attributes := #[] }, { accessFlags := 8, nameIndex := 113, descriptorIndex := 114, attributes := #[] }, { accessFlags := 8, nameIndex := 73, descriptorIndex := 74, attributes := #[] }, { accessFlags := 9, nameIndex := 121, descriptorIndex := 122, attributes := #[] }, { accessFlags := 8, nameIndex := 261, descriptorIndex := 262, attributes := #[] }, { accessFlags := 9, nameIndex := 117, descriptorIndex := 122, attributes := #[] }, { accessFlags := 9, nameIndex := 117, descriptorIndex := 118, attributes := #[] }] 48 6 #[] #[{ accessFlags := 26, nameIndex := 61, descriptorIndex := 62, attributes := #[] }, { accessFlags := 26, nameIndex := 65, descriptorIndex := 62, attributes := #[] }, { accessFlags := 24, nameIndex := 430, descriptorIndex := 62, attributes := #[] }, { accessFlags := 4120, nameIndex := 46, descriptorIndex := 47, attributes := #[] }])
  fields := #[{ name := "HI_BYTE_SHIFT", type := .int, accessFlags := 26, slot := 0, constantValue := 0 }, { name := "LO_BYTE_SHIFT", type := .int, accessFlags := 26, slot := 1, constantValue := 0 }, { name := "MAX_LENGTH", type := .int, accessFlags := 24, slot := 2, constantValue := 0 }, { name := "$assertionsDisabled", type := .boolean, accessFlags := 4120, slot := 3, constantValue := 0 }]
  methods := #[k8m0, k8m1, k8m2, k8m3, k8m4, k8m5, k8m6, k8m7, k8m8]
  instanceTypes := #[]
  staticTypes := #[.int, .int, .int, .boolean]
  resolved := Array.replicate 635 none
  statics := some 1 }

def pool9 : Array CpInfo := pool [(1, .class_ 2), (0, u "com/example/sessionkeep/sessionkeep/session/Session"), (0, .class_ 4), (0, u "java/lang/Object"), (0, u "PRINCIPAL_NAME_INDEX_NAME"), (0, u "Ljava/lang/String;")] 30

/-- com/example/sessionkeep/sessionkeep/session/Session -/
def k9 : Class := { plain "com/example/sessionkeep/sessionkeep/session/Session" (some 0) with
  accessFlags := 1537
  interfaces := #[]
  cf := some (fileOf pool9 1 #[] #[] 1537 3 #[] #[{ accessFlags := 25, nameIndex := 5, descriptorIndex := 6, attributes := #[] }])
  fields := #[{ name := "PRINCIPAL_NAME_INDEX_NAME", type := (.object "java/lang/String"), accessFlags := 25, slot := 0, constantValue := 0 }]
  methods := #[]
  instanceTypes := #[]
  staticTypes := #[(.object "java/lang/String")]
  resolved := Array.replicate 37 none
  statics := none }

def pool10 : Array CpInfo := pool [(2, .class_ 4), (1, u "java/lang/Object"), (6, .class_ 13), (1, u "com/example/sessionkeep/sessionkeep/store/StoredSession"), (0, u "changedAttributes"), (0, u "Ljava/util/Map;"), (2, u "clock"), (0, u "Ljava/time/Clock;"), (6, u "id"), (0, u "Ljava/lang/String;"), (8, u "creationTime"), (0, u "Ljava/time/Instant;"), (2, u "lastAccessedTime"), (2, u "maxInactiveInterval"), (0, u "Ljava/time/Duration;"), (5, u "attributes"), (8, u "storedForms"), (5, u "storedId"), (2, u "storedLastAccessedTime"), (2, u "storedMaxInactiveInterval"), (22, u "()Z"), (12, .class_ 108), (0, u "java/lang/String"), (22, .nameAndType 132 94), (0, u "isEmpty"), (7, .class_ 141), (0, u "com/example/sessionkeep/sessionkeep/store/StoredSession$Changes"), (32, .class_ 175), (0, u "com/example/sessionkeep/sessionkeep/store/StoredSession$Change"), (2, u "changeCount"), (0, u "J"), (17, u "(Ljava/lang/String;)V"), (8, .methodref 207 208), (0, .class_ 209), (0, .nameAndType 210 211), (0, u "java/util/Objects"), (0, u "requireNonNull"), (0, u "(Ljava/lang/Object;Ljava/lang/String;)Ljava/lang/Object;"), (47, .string 260), (0, u "attributeName"), (0, .methodref 107 131), (36, u "DEFAULT_MAX_INACTIVE_INTERVAL"), (0, .class_ 300), (0, u "com/example/sessionkeep/sessionkeep/session/Session"), (38, u "checkPrincipalNameAttribute")] 37

def k10c0 : Code := { maxStack := 3, maxLocals := 1, code := prog_24_method_26_code, exceptionTable := #[], attributes := #[] }
def k10m0 : Method := { name := "checkPrincipalNameAttribute", desc := "(Ljava/lang/String;)V", sig := { parameters := [(.object "java/lang/String")], returnType := none }, accessFlags := 8, code := some k10c0 }
/-- com/example/sessionkeep/sessionkeep/store/StoredSession -/
def k10 : Class := { plain "com/example/sessionkeep/sessionkeep/store/StoredSession" (some 0) with
  accessFlags := 33
  interfaces := #[9]
  cf := some (fileOf pool10 11 #[.nestMembers #[140, 174]] #[{ accessFlags := 8, nameIndex := 339, descriptorIndex := 197, attributes := #[] }] 33 2 #[299] #[{ accessFlags := 24, nameIndex := 298, descriptorIndex := 44, attributes := #[] }, { accessFlags := 18, nameIndex := 18, descriptorIndex := 19, attributes := #[] }, { accessFlags := 18, nameIndex := 36, descriptorIndex := 37, attributes := #[] }, { accessFlags := 18, nameIndex := 50, descriptorIndex := 15, attributes := #[] }, { accessFlags := 18, nameIndex := 14, descriptorIndex := 15, attributes := #[] }, { accessFlags := 2, nameIndex := 178, descriptorIndex := 179, attributes := #[] }, { accessFlags := 66, nameIndex := 26, descriptorIndex := 27, attributes := #[] }, { accessFlags := 2, nameIndex := 65, descriptorIndex := 27, attributes := #[] }, { accessFlags := 66, nameIndex := 40, descriptorIndex := 37, attributes := #[] }, { accessFlags := 2, nameIndex := 68, descriptorIndex := 37, attributes := #[] }, { accessFlags := 66, nameIndex := 43, descriptorIndex := 44, attributes := #[] }, { accessFlags := 2, nameIndex := 71, descriptorIndex := 44, attributes := #[] }, { accessFlags := 2, nameIndex := 59, descriptorIndex := 15, attributes := #[] }])
  fields := #[{ name := "DEFAULT_MAX_INACTIVE_INTERVAL", type := (.object "java/time/Duration"), accessFlags := 24, slot := 0, constantValue := 0 }, { name := "clock", type := (.object "java/time/Clock"), accessFlags := 18, slot := 0, constantValue := 0 }, { name := "creationTime", type := (.object "java/time/Instant"), accessFlags := 18, slot := 1, constantValue := 0 }, { name := "attributes", type := (.object "java/util/Map"), accessFlags := 18, slot := 2, constantValue := 0 }, { name := "changedAttributes", type := (.object "java/util/Map"), accessFlags := 18, slot := 3, constantValue := 0 }, { name := "changeCount", type := .long, accessFlags := 2, slot := 4, constantValue := 0 }, { name := "id", type := (.object "java/lang/String"), accessFlags := 66, slot := 5, constantValue := 0 }, { name := "storedId", type := (.object "java/lang/String"), accessFlags := 2, slot := 6, constantValue := 0 }, { name := "lastAccessedTime", type := (.object "java/time/Instant"), accessFlags := 66, slot := 7, constantValue := 0 }, { name := "storedLastAccessedTime", type := (.object "java/time/Instant"), accessFlags := 2, slot := 8, constantValue := 0 }, { name := "maxInactiveInterval", type := (.object "java/time/Duration"), accessFlags := 66, slot := 9, constantValue := 0 }, { name := "storedMaxInactiveInterval", type := (.object "java/time/Duration"), accessFlags := 2, slot := 10, constantValue := 0 }, { name := "storedForms", type := (.object "java/util/Map"), accessFlags := 2, slot := 11, constantValue := 0 }]
  methods := #[k10m0]
  instanceTypes := #[(.object "java/time/Clock"), (.object "java/time/Instant"), (.object "java/util/Map"), (.object "java/util/Map"), .long, (.object "java/lang/String"), (.object "java/lang/String"), (.object "java/time/Instant"), (.object "java/time/Instant"), (.object "java/time/Duration"), (.object "java/time/Duration"), (.object "java/util/Map")]
  staticTypes := #[(.object "java/time/Duration")]
  resolved := Array.replicate 377 none
  statics := none }

def pool11 : Array CpInfo := pool [(2, .class_ 4), (1, u "java/lang/Object"), (0, u "<init>"), (0, u "()V"), (35, .class_ 44), (1, u "java/util/Objects"), (0, u "requireNonNull"), (48, u "(Ljava/lang/Object;Ljava/lang/String;)Ljava/lang/Object;")] 89

def k11m0 : Method := { name := "<init>", desc := "()V", sig := { parameters := [], returnType := none }, accessFlags := 2, code := none }
def k11c1 : Code := { maxStack := 3, maxLocals := 2, code := jdk_31_method_11_code, exceptionTable := #[], attributes := #[] }
def k11m1 : Method := { name := "requireNonNull", desc := "(Ljava/lang/Object;Ljava/lang/String;)Ljava/lang/Object;", sig := { parameters := [(.object "java/lang/Object"), (.object "java/lang/String")], returnType := some (.object "java/lang/Object") }, accessFlags := 9, code := some k11c1 }
/-- java/util/Objects -/
def k11 : Class := { plain "java/util/Objects" (some 0) with
  accessFlags := 49
  interfaces := #[]
  cf := some (fileOf pool11 42 #[] #[{ accessFlags := 2, nameIndex := 5, descriptorIndex := 6, attributes := #[] }, { accessFlags := 9, nameIndex := 45, descriptorIndex := 94, attributes := #[] }] 49 2 #[] #[])
  fields := #[]
  methods := #[k11m0, k11m1]
  instanceTypes := #[]
  staticTypes := #[]
  resolved := Array.replicate 184 none
  statics := none }

def pool12 : Array CpInfo := pool [(4, .class_ 6), (1, u "java/lang/Object"), (0, u "<init>"), (0, u "()V"), (5, .class_ 16), (1, u "java/lang/StringLatin1"), (104, u "$assertionsDisabled"), (0, u "Z"), (98, .class_ 223), (1, u "java/lang/StringLatin1$LinesSpliterator"), (166, .class_ 391), (0, u "java/lang/StringLatin1$CharsSpliterator")] 3

def k12m0 : Method := { name := "<init>", desc := "()V", sig := { parameters := [], returnType := none }, accessFlags := 0, code := none }
/-- java/lang/StringLatin1 -/
def k12 : Class := { plain "java/lang/StringLatin1" (some 0) with
  accessFlags := 48
  interfaces := #[]
  cf := some (fileOf pool12 14 #[.nestMembers #[390, 221]] #[{ accessFlags := 0, nameIndex := 7, descriptorIndex := 8, attributes := #[] }] 48 4 #[] #[{ accessFlags := 4120, nameIndex := 121, descriptorIndex := 122, attributes := #[] }])
  fields := #[{ name := "$assertionsDisabled", type := .boolean, accessFlags := 4120, slot := 0, constantValue := 0 }]
  methods := #[k12m0]
  instanceTypes := #[]
  staticTypes := #[.boolean]
  resolved := Array.replicate 395 none
  statics := none }

def pool13 : Array CpInfo := pool [(2, .class_ 4), (1, u "java/lang/Object"), (0, u "<init>"), (0, u "()V"), (17, .class_ 26), (1, u "jdk/internal/util/Preconditions"), (28, .class_ 56), (0, u "jdk/internal/util/Preconditions$4"), (57, .class_ 115), (0, u "jdk/internal/util/Preconditions$1"), (7, u "SIOOBE_FORMATTER"), (0, u "Ljava/util/function/BiFunction;"), (0, .class_ 126), (0, u "jdk/internal/util/Preconditions$2"), (3, u "AIOOBE_FORMATTER"), (0, .class_ 132), (0, u "jdk/internal/util/Preconditions$3"), (3, u "IOOBE_FORMATTER")] 57

def k13m0 : Method := { name := "<init>", desc := "()V", sig := { parameters := [], returnType := none }, accessFlags := 1, code := none }
/-- jdk/internal/util/Preconditions -/
def k13 : Class := { plain "jdk/internal/util/Preconditions" (some 0) with
  accessFlags := 33
  interfaces := #[]
  cf := some (fileOf pool13 24 #[.nestMembers #[55, 131, 125, 114]] #[{ accessFlags := 1, nameIndex := 5, descriptorIndex := 6, attributes := #[] }] 33 2 #[] #[{ accessFlags := 25, nameIndex := 123, descriptorIndex := 124, attributes := #[] }, { accessFlags := 25, nameIndex := 130, descriptorIndex := 124, attributes := #[] }, { accessFlags := 25, nameIndex := 136, descriptorIndex := 124, attributes := #[] }])
  fields := #[{ name := "SIOOBE_FORMATTER", type := (.object "java/util/function/BiFunction"), accessFlags := 25, slot := 0, constantValue := 0 }, { name := "AIOOBE_FORMATTER", type := (.object "java/util/function/BiFunction"), accessFlags := 25, slot := 1, constantValue := 0 }, { name := "IOOBE_FORMATTER", type := (.object "java/util/function/BiFunction"), accessFlags := 25, slot := 2, constantValue := 0 }]
  methods := #[k13m0]
  instanceTypes := #[]
  staticTypes := #[(.object "java/util/function/BiFunction"), (.object "java/util/function/BiFunction"), (.object "java/util/function/BiFunction")]
  resolved := Array.replicate 194 none
  statics := some 2 }

def pool14 : Array CpInfo := pool [(9, u "<init>"), (6, .class_ 18), (1, u "java/lang/Object"), (0, u "()V"), (1, .class_ 23), (1, u "jdk/internal/util/ArraysSupport"), (0, u "LOG2_ARRAY_LONG_INDEX_SCALE"), (0, u "I"), (2, u "U"), (0, u "Ljdk/internal/misc/Unsafe;"), (8, u "BIG_ENDIAN"), (0, u "Z"), (8, u "LOG2_BYTE_BIT_SIZE"), (4, u "LOG2_ARRAY_INT_INDEX_SCALE"), (54, u "JLA"), (0, u "Ljdk/internal/access/JavaLangAccess;"), (11, u "LOG2_ARRAY_BOOLEAN_INDEX_SCALE"), (9, u "LOG2_ARRAY_BYTE_INDEX_SCALE"), (5, u "LOG2_ARRAY_CHAR_INDEX_SCALE"), (5, u "LOG2_ARRAY_SHORT_INDEX_SCALE"), (18, u "LOG2_ARRAY_FLOAT_INDEX_SCALE"), (24, u "LOG2_ARRAY_DOUBLE_INDEX_SCALE"), (89, u "T_BOOLEAN"), (2, u "T_CHAR"), (1, u "T_FLOAT"), (1, u "T_DOUBLE"), (1, u "T_BYTE"), (1, u "T_SHORT"), (1, u "T_INT"), (1, u "T_LONG"), (1, u "SOFT_MAX_ARRAY_LENGTH")] 83

def k14m0 : Method := { name := "<init>", desc := "()V", sig := { parameters := [], returnType := none }, accessFlags := 2, code := none }
/-- jdk/internal/util/ArraysSupport -/
def k14 : Class := { plain "jdk/internal/util/ArraysSupport" (some 0) with
  accessFlags := 33
  interfaces := #[]
  cf := some (fileOf pool14 21 #[] #[{ accessFlags := 2, nameIndex := 9, descriptorIndex := 19, attributes := #[] }] 33 16 #[] #[{ accessFlags := 24, nameIndex := 28, descriptorIndex := 29, attributes := #[] }, { accessFlags := 26, nameIndex := 38, descriptorIndex := 39, attributes := #[] }, { accessFlags := 25, nameIndex := 121, descriptorIndex := 25, attributes := #[] }, { accessFlags := 25, nameIndex := 131, descriptorIndex := 25, attributes := #[] }, { accessFlags := 25, nameIndex := 137, descriptorIndex := 25, attributes := #[] }, { accessFlags := 25, nameIndex := 143, descriptorIndex := 25, attributes := #[] }, { accessFlags := 25, nameIndex := 53, descriptorIndex := 25, attributes := #[] }, { accessFlags := 25, nameIndex := 24, descriptorIndex := 25, attributes := #[] }, { accessFlags := 25, nameIndex := 162, descriptorIndex := 25, attributes := #[] }, { accessFlags := 25, nameIndex := 187, descriptorIndex := 25, attributes := #[] }, { accessFlags := 26, nameIndex := 48, descriptorIndex := 25, attributes := #[] }, { accessFlags := 25, nameIndex := 277, descriptorIndex := 25, attributes := #[] }, { accessFlags := 25, nameIndex := 280, descriptorIndex := 25, attributes := #[] }, { accessFlags := 25, nameIndex := 282, descriptorIndex := 25, attributes := #[] }, { accessFlags := 25, nameIndex := 284, descriptorIndex := 25, attributes := #[] }, { accessFlags := 25, nameIndex := 286, descriptorIndex := 25, attributes := #[] }, { accessFlags := 25, nameIndex := 288, descriptorIndex := 25, attributes := #[] }, { accessFlags := 25, nameIndex := 290, descriptorIndex := 25, attributes := #[] }, { accessFlags := 25, nameIndex := 292, descriptorIndex := 25, attributes := #[] }, { accessFlags := 26, nameIndex := 108, descriptorIndex := 109, attributes := #[] }, { accessFlags := 25, nameIndex := 294, descriptorIndex := 25, attributes := #[] }])
  fields := #[{ name := "U", type := (.object "jdk/internal/misc/Unsafe"), accessFlags := 24, slot := 0, constantValue := 0 }, { name := "BIG_ENDIAN", type := .boolean, accessFlags := 26, slot := 1, constantValue := 0 }, { name := "LOG2_ARRAY_BOOLEAN_INDEX_SCALE", type := .int, accessFlags := 25, slot := 2, constantValue := 0 }, { name := "LOG2_ARRAY_BYTE_INDEX_SCALE", type := .int, accessFlags := 25, slot := 3, constantValue := 0 }, { name := "LOG2_ARRAY_CHAR_INDEX_SCALE", type := .int, accessFlags := 25, slot := 4, constantValue := 0 }, { name := "LOG2_ARRAY_SHORT_INDEX_SCALE", type := .int, accessFlags := 25, slot := 5, constantValue := 0 }, { name := "LOG2_ARRAY_INT_INDEX_SCALE", type := .int, accessFlags := 25, slot := 6, constantValue := 0 }, { name := "LOG2_ARRAY_LONG_INDEX_SCALE", type := .int, accessFlags := 25, slot := 7, constantValue := 0 }, { name := "LOG2_ARRAY_FLOAT_INDEX_SCALE", type := .int, accessFlags := 25, slot := 8, constantValue := 0 }, { name := "LOG2_ARRAY_DOUBLE_INDEX_SCALE", type := .int, accessFlags := 25, slot := 9, constantValue := 0 }, { name := "LOG2_BYTE_BIT_SIZE", type := .int, accessFlags := 26, slot := 10, constantValue := 0 }, { name := "T_BOOLEAN", type := .int, accessFlags := 25, slot := 11, constantValue := 0 }, { name := "T_CHAR", type := .int, accessFlags := 25, slot := 12, constantValue := 0 }, { name := "T_FLOAT", type := .int, accessFlags := 25, slot := 13, constantValue := 0 }, { name := "T_DOUBLE", type := .int, accessFlags := 25, slot := 14, constantValue := 0 }, { name := "T_BYTE", type := .int, accessFlags := 25, slot := 15, constantValue := 0 }, { name := "T_SHORT", type := .int, accessFlags := 25, slot := 16, constantValue := 0 }, { name := "T_INT", type := .int, accessFlags := 25, slot := 17, constantValue := 0 }, { name := "T_LONG", type := .int, accessFlags := 25, slot := 18, constantValue := 0 }, { name := "JLA", type := (.object "jdk/internal/access/JavaLangAccess"), accessFlags := 26, slot := 19, constantValue := 0 }, { name := "SOFT_MAX_ARRAY_LENGTH", type := .int, accessFlags := 25, slot := 20, constantValue := 0 }]
  methods := #[k14m0]
  instanceTypes := #[]
  staticTypes := #[(.object "jdk/internal/misc/Unsafe"), .boolean, .int, .int, .int, .int, .int, .int, .int, .int, .int, .int, .int, .int, .int, .int, .int, .int, .int, (.object "jdk/internal/access/JavaLangAccess"), .int]
  resolved := Array.replicate 378 none
  statics := none }

def pool15 : Array CpInfo := pool [(1, u "java/lang/Cloneable"), (0, .class_ 1), (0, u "java/lang/Object"), (0, .class_ 3)] 3

/-- java/lang/Cloneable -/
def k15 : Class := { plain "java/lang/Cloneable" (some 0) with
  accessFlags := 1537
  interfaces := #[]
  cf := some (fileOf pool15 2 #[] #[] 1537 4 #[] #[])
  fields := #[]
  methods := #[]
  instanceTypes := #[]
  staticTypes := #[]
  resolved := Array.replicate 8 none
  statics := none }

/-- the primitive byte -/
def k16 : Class := { plain "byte" none with kind := .primitive 'B', accessFlags := 0x411 }
/-- [B -/
def k17 : Class := { plain "[B" (some 0) with kind := .array 16 .byte, interfaces := #[15, 2], accessFlags := 1041 }

/-- the primitive char -/
def k18 : Class := { plain "char" none with kind := .primitive 'C', accessFlags := 0x411 }
/-- [C -/
def k19 : Class := { plain "[C" (some 0) with kind := .array 18 .char, interfaces := #[15, 2], accessFlags := 1041 }

/-- the primitive int -/
def k20 : Class := { plain "int" none with kind := .primitive 'I', accessFlags := 0x411 }
/-- [I -/
def k21 : Class := { plain "[I" (some 0) with kind := .array 20 .int, interfaces := #[15, 2], accessFlags := 1041 }

def heap : Heap := #[{ cls := 7, slots := #[.long 0, .int 1, .null, .int 0, .null, .int 0, .int 0], vm := .statics 7 },
  { cls := 8, slots := #[.int 0, .int 8, .int 0, .int 1], vm := .statics 8 },
  { cls := 13, slots := #[.null, .null, .null], vm := .statics 13 }]
def classes : Array Class := #[k0, k1, k2, k3, k4, k5, k6, k7, k8, k9, k10, k11, k12, k13, k14, k15, k16, k17, k18, k19, k20, k21]
def interned : List (Array UInt16 × Addr) := []
def slotsUsed : Nat := 14
def theMethod : MethodId := ⟨1, 1⟩
def args0 : Array Value := #[.int 37, .int 7, .int 1, .int 2]
def aboutOver (below : List Frame) : State where
  vm := { classes := classes, interned := interned.toArray }
  heap := heap
  slotsUsed := slotsUsed
  threads := #[{ frames := .invoking theMethod args0 :: below }]
def below0 : List Frame := [.native { method := ⟨0, 0⟩, args := #[] }]
def about1 : State := aboutOver below0
def p0 : Program := .bare "" "" ""
def e0 : Env := launch0.env 0 0 0
theorem w_frames : about1.frames = Frame.invoking theMethod args0 :: below0 := rfl
set_option maxRecDepth 65536 in
theorem w_args : argsFit about1.vm theMethod args0 = true := by decide +kernel
set_option maxRecDepth 65536 in
theorem w_heap : heapFits about1 = true := by decide +kernel
set_option maxRecDepth 65536 in
theorem w_runnable : about1.curStatus? = some .runnable := by decide +kernel
set_option maxRecDepth 65536 in
theorem w_alone : about1.alone = true := by decide +kernel
set_option maxRecDepth 65536 in
theorem w_named : about1.methodNamed? x = some theMethod := by decide +kernel
set_option maxRecDepth 65536 in
theorem w_hears : about1.hears theMethod below0 = true := by decide +kernel
set_option maxRecDepth 65536 in
theorem w_ripe : about1.ripe theMethod args0 below0 = true := by decide +kernel
theorem w_running : about1.status = .running := rfl
set_option maxRecDepth 65536 in
theorem w_room : about1.hasRoom e0.platform room_1 = true :=
  launch0.hasRoom_least _ room_1 (by decide +kernel) (by decide +kernel) (by decide +kernel) (by decide +kernel) (by decide +kernel) (by decide +kernel)
theorem allAtoms_all (ts : List Jvm.Cond) (a : Array Jvm.Value) (st : Jvm.State) : (allAtoms ts).before a st = ts.all (fun c => c.before a st) := by
  induction ts with
  | nil => rfl
  | cons c t ih =>
    show (Jvm.Cond.and c (allAtoms t)).before a st = _
    rw [Jvm.Cond.before_and, ih, List.all_cons]
def words1 : List Jvm.Cond := Jvm.Cond.code x code maxLocals ret :: tables_1
/-- a 'code' word, met by the world's own term for the bytes: nothing is compared byte by byte -/
theorem code_word {y : MethodName} {bytes : ByteArray} {mx : Nat} {rt : Option FieldType} {a : Array Value} {s : State} {m : MethodId} {meth : Method} {c : Code} (h1 : s.methodNamed? y = some m) (h2 : s.vm.method? m = some meth) (h3 : meth.code = some c) (h4 : c.code = bytes)
    (h5 : (c.maxLocals == mx && c.exceptionTable.isEmpty && decide (c.maxStack ≤ mostOperands) && decide (meth.sig.returnType = rt) && !meth.locks && decide (parseMethodDescriptor y.desc = some meth.sig)) = true) : (Jvm.Cond.code y bytes mx rt).before a s = true := by
  simp only [Bool.and_eq_true, beq_iff_eq, Bool.not_eq_true', decide_eq_true_eq] at h5
  obtain ⟨⟨⟨⟨⟨g1, g2⟩, g3⟩, g4⟩, g5⟩, g6⟩ := h5
  simp [Cond.before, Cond.holds, Cond.value, h1, h2, h3, h4, g1, g2, g3, g4, g5, g6]
def isCode : Jvm.Cond → Bool
  | .code _ _ _ _ => true
  | _ => false
theorem all_split {L : List Jvm.Cond} {P : Jvm.Cond → Bool} (h1 : L.all (fun c => isCode c || P c) = true) (h2 : ∀ c ∈ L.filter isCode, P c = true) : L.all P = true := by
  refine List.all_eq_true.mpr fun c hc => ?_
  have h := List.all_eq_true.mp h1 c hc
  rcases Bool.eq_false_or_eq_true (isCode c) with hi | hi
  · exact h2 c (List.mem_filter.mpr ⟨hc, hi⟩)
  · simpa [hi] using h
set_option maxRecDepth 65536 in
theorem w_c0 : (Jvm.Cond.code x code maxLocals ret).before args0 about1 = true := code_word (m := ⟨1, 1⟩) (meth := k1m1) (c := k1c1) (by decide +kernel) rfl rfl rfl (by decide +kernel)
set_option maxRecDepth 65536 in
theorem w_c1 : (Jvm.Cond.code ({ cls := "java/lang/String", name := "<init>", desc := "([C)V" } : Jvm.MethodName) jdk_42_method_3_code (2 : Nat) (Option.none : Option Jvm.ClassFile.FieldType)).before args0 about1 = true := code_word (m := ⟨7, 1⟩) (meth := k7m1) (c := k7c1) (by decide +kernel) rfl rfl rfl (by decide +kernel)
set_option maxRecDepth 65536 in
theorem w_c2 : (Jvm.Cond.code ({ cls := "java/lang/String", name := "<init>", desc := "([CIILjava/lang/Void;)V" } : Jvm.MethodName) jdk_42_method_149_code (6 : Nat) (Option.none : Option Jvm.ClassFile.FieldType)).before args0 about1 = true := code_word (m := ⟨7, 4⟩) (meth := k7m4) (c := k7c4) (by decide +kernel) rfl rfl rfl (by decide +kernel)
set_option maxRecDepth 65536 in
theorem w_c3 : (Jvm.Cond.code ({ cls := "java/lang/Object", name := "<init>", desc := "()V" } : Jvm.MethodName) object_method_1_code (1 : Nat) (Option.none : Option Jvm.ClassFile.FieldType)).before args0 about1 = true := code_word (m := ⟨0, 0⟩) (meth := k0m0) (c := k0c0) (by decide +kernel) rfl rfl rfl (by decide +kernel)
set_option maxRecDepth 65536 in
theorem w_c4 : (Jvm.Cond.code ({ cls := "java/lang/StringUTF16", name := "compress", desc := "([CII)[B" } : Jvm.MethodName) jdk_52_method_16_code (6 : Nat) (Option.some (Jvm.ClassFile.FieldType.array Jvm.ClassFile.FieldType.byte))).before args0 about1 = true := code_word (m := ⟨8, 7⟩) (meth := k8m7) (c := k8c7) (by decide +kernel) rfl rfl rfl (by decide +kernel)
set_option maxRecDepth 65536 in
theorem w_c5 : (Jvm.Cond.code ({ cls := "java/lang/StringUTF16", name := "compress", desc := "([CI[BII)I" } : Jvm.MethodName) jdk_52_method_21_code (7 : Nat) (Option.some Jvm.ClassFile.FieldType.int)).before args0 about1 = true := code_word (m := ⟨8, 8⟩) (meth := k8m8) (c := k8c8) (by decide +kernel) rfl rfl rfl (by decide +kernel)
set_option maxRecDepth 65536 in
theorem w_c6 : (Jvm.Cond.code ({ cls := "java/lang/StringUTF16", name := "coderFromArrayLen", desc := "([BI)B" } : Jvm.MethodName) jdk_52_method_15_code (2 : Nat) (Option.some Jvm.ClassFile.FieldType.byte)).before args0 about1 = true := code_word (m := ⟨8, 6⟩) (meth := k8m6) (c := k8c6) (by decide +kernel) rfl rfl rfl (by decide +kernel)
set_option maxRecDepth 65536 in
theorem w_c7 : (Jvm.Cond.code ({ cls := "com/example/sessionkeep/sessionkeep/store/StoredSession", name := "checkPrincipalNameAttribute", desc := "(Ljava/lang/String;)V" } : Jvm.MethodName) prog_24_method_26_code (1 : Nat) (Option.none : Option Jvm.ClassFile.FieldType)).before args0 about1 = true := code_word (m := ⟨10, 0⟩) (meth := k10m0) (c := k10c0) (by decide +kernel) rfl rfl rfl (by decide +kernel)
set_option maxRecDepth 65536 in
theorem w_c8 : (Jvm.Cond.code ({ cls := "java/util/Objects", name := "requireNonNull", desc := "(Ljava/lang/Object;Ljava/lang/String;)Ljava/lang/Object;" } : Jvm.MethodName) jdk_31_method_11_code (2 : Nat) (Option.some (Jvm.ClassFile.FieldType.object "java/lang/Object"))).before args0 about1 = true := code_word (m := ⟨11, 1⟩) (meth := k11m1) (c := k11c1) (by decide +kernel) rfl rfl rfl (by decide +kernel)
set_option maxRecDepth 65536 in
theorem w_c9 : (Jvm.Cond.code ({ cls := "java/lang/String", name := "isEmpty", desc := "()Z" } : Jvm.MethodName) jdk_42_method_55_code (1 : Nat) (Option.some Jvm.ClassFile.FieldType.boolean)).before args0 about1 = true := code_word (m := ⟨7, 3⟩) (meth := k7m3) (c := k7c3) (by decide +kernel) rfl rfl rfl (by decide +kernel)
set_option maxRecDepth 65536 in
theorem w_c10 : (Jvm.Cond.code ({ cls := "java/lang/String", name := "length", desc := "()I" } : Jvm.MethodName) jdk_42_method_54_code (1 : Nat) (Option.some Jvm.ClassFile.FieldType.int)).before args0 about1 = true := code_word (m := ⟨7, 2⟩) (meth := k7m2) (c := k7c2) (by decide +kernel) rfl rfl rfl (by decide +kernel)
set_option maxRecDepth 65536 in
theorem w_c11 : (Jvm.Cond.code ({ cls := "java/lang/String", name := "coder", desc := "()B" } : Jvm.MethodName) jdk_42_method_152_code (1 : Nat) (Option.some Jvm.ClassFile.FieldType.byte)).before args0 about1 = true := code_word (m := ⟨7, 5⟩) (meth := k7m5) (c := k7c5) (by decide +kernel) rfl rfl rfl (by decide +kernel)
set_option maxRecDepth 65536 in
theorem w_c12 : (Jvm.Cond.code ({ cls := "java/lang/StringUTF16", name := "toBytes", desc := "([CII)[B" } : Jvm.MethodName) jdk_52_method_14_code (5 : Nat) (Option.some (Jvm.ClassFile.FieldType.array Jvm.ClassFile.FieldType.byte))).before args0 about1 = true := code_word (m := ⟨8, 5⟩) (meth := k8m5) (c := k8c5) (by decide +kernel) rfl rfl rfl (by decide +kernel)
set_option maxRecDepth 65536 in
theorem w_c13 : (Jvm.Cond.code ({ cls := "java/lang/StringUTF16", name := "newBytesFor", desc := "(I)[B" } : Jvm.MethodName) jdk_52_method_2_code (1 : Nat) (Option.some (Jvm.ClassFile.FieldType.array Jvm.ClassFile.FieldType.byte))).before args0 about1 = true := code_word (m := ⟨8, 1⟩) (meth := k8m1) (c := k8c1) (by decide +kernel) rfl rfl rfl (by decide +kernel)
set_option maxRecDepth 65536 in
theorem w_c14 : (Jvm.Cond.code ({ cls := "java/lang/StringUTF16", name := "newBytesLength", desc := "(I)I" } : Jvm.MethodName) jdk_52_method_3_code (1 : Nat) (Option.some Jvm.ClassFile.FieldType.int)).before args0 about1 = true := code_word (m := ⟨8, 2⟩) (meth := k8m2) (c := k8c2) (by decide +kernel) rfl rfl rfl (by decide +kernel)
set_option maxRecDepth 65536 in
theorem w_c15 : (Jvm.Cond.code ({ cls := "java/lang/StringUTF16", name := "putChar", desc := "([BII)V" } : Jvm.MethodName) jdk_52_method_4_code (3 : Nat) (Option.none : Option Jvm.ClassFile.FieldType)).before args0 about1 = true := code_word (m := ⟨8, 3⟩) (meth := k8m3) (c := k8c3) (by decide +kernel) rfl rfl rfl (by decide +kernel)
set_option maxRecDepth 65536 in
theorem w_c16 : (Jvm.Cond.code ({ cls := "java/lang/StringUTF16", name := "getChar", desc := "([BI)C" } : Jvm.MethodName) jdk_52_method_5_code (2 : Nat) (Option.some Jvm.ClassFile.FieldType.char)).before args0 about1 = true := code_word (m := ⟨8, 4⟩) (meth := k8m4) (c := k8c4) (by decide +kernel) rfl rfl rfl (by decide +kernel)
def codes1 : List Jvm.Cond := [Jvm.Cond.code x code maxLocals ret, Jvm.Cond.code ({ cls := "java/lang/String", name := "<init>", desc := "([C)V" } : Jvm.MethodName) jdk_42_method_3_code (2 : Nat) (Option.none : Option Jvm.ClassFile.FieldType), Jvm.Cond.code ({ cls := "java/lang/String", name := "<init>", desc := "([CIILjava/lang/Void;)V" } : Jvm.MethodName) jdk_42_method_149_code (6 : Nat) (Option.none : Option Jvm.ClassFile.FieldType), Jvm.Cond.code ({ cls := "java/lang/Object", name := "<init>", desc := "()V" } : Jvm.MethodName) object_method_1_code (1 : Nat) (Option.none : Option Jvm.ClassFile.FieldType), Jvm.Cond.code ({ cls := "java/lang/StringUTF16", name := "compress", desc := "([CII)[B" } : Jvm.MethodName) jdk_52_method_16_code (6 : Nat) (Option.some (Jvm.ClassFile.FieldType.array Jvm.ClassFile.FieldType.byte)), Jvm.Cond.code ({ cls := "java/lang/StringUTF16", name := "compress", desc := "([CI[BII)I" } : Jvm.MethodName) jdk_52_method_21_code (7 : Nat) (Option.some Jvm.ClassFile.FieldType.int), Jvm.Cond.code ({ cls := "java/lang/StringUTF16", name := "coderFromArrayLen", desc := "([BI)B" } : Jvm.MethodName) jdk_52_method_15_code (2 : Nat) (Option.some Jvm.ClassFile.FieldType.byte), Jvm.Cond.code ({ cls := "com/example/sessionkeep/sessionkeep/store/StoredSession", name := "checkPrincipalNameAttribute", desc := "(Ljava/lang/String;)V" } : Jvm.MethodName) prog_24_method_26_code (1 : Nat) (Option.none : Option Jvm.ClassFile.FieldType), Jvm.Cond.code ({ cls := "java/util/Objects", name := "requireNonNull", desc := "(Ljava/lang/Object;Ljava/lang/String;)Ljava/lang/Object;" } : Jvm.MethodName) jdk_31_method_11_code (2 : Nat) (Option.some (Jvm.ClassFile.FieldType.object "java/lang/Object")), Jvm.Cond.code ({ cls := "java/lang/String", name := "isEmpty", desc := "()Z" } : Jvm.MethodName) jdk_42_method_55_code (1 : Nat) (Option.some Jvm.ClassFile.FieldType.boolean), Jvm.Cond.code ({ cls := "java/lang/String", name := "length", desc := "()I" } : Jvm.MethodName) jdk_42_method_54_code (1 : Nat) (Option.some Jvm.ClassFile.FieldType.int), Jvm.Cond.code ({ cls := "java/lang/String", name := "coder", desc := "()B" } : Jvm.MethodName) jdk_42_method_152_code (1 : Nat) (Option.some Jvm.ClassFile.FieldType.byte), Jvm.Cond.code ({ cls := "java/lang/StringUTF16", name := "toBytes", desc := "([CII)[B" } : Jvm.MethodName) jdk_52_method_14_code (5 : Nat) (Option.some (Jvm.ClassFile.FieldType.array Jvm.ClassFile.FieldType.byte)), Jvm.Cond.code ({ cls := "java/lang/StringUTF16", name := "newBytesFor", desc := "(I)[B" } : Jvm.MethodName) jdk_52_method_2_code (1 : Nat) (Option.some (Jvm.ClassFile.FieldType.array Jvm.ClassFile.FieldType.byte)), Jvm.Cond.code ({ cls := "java/lang/StringUTF16", name := "newBytesLength", desc := "(I)I" } : Jvm.MethodName) jdk_52_method_3_code (1 : Nat) (Option.some Jvm.ClassFile.FieldType.int), Jvm.Cond.code ({ cls := "java/lang/StringUTF16", name := "putChar", desc := "([BII)V" } : Jvm.MethodName) jdk_52_method_4_code (3 : Nat) (Option.none : Option Jvm.ClassFile.FieldType), Jvm.Cond.code ({ cls := "java/lang/StringUTF16", name := "getChar", desc := "([BI)C" } : Jvm.MethodName) jdk_52_method_5_code (2 : Nat) (Option.some Jvm.ClassFile.FieldType.char)]
set_option maxRecDepth 65536 in
theorem codes_eq : words1.filter isCode = codes1 := rfl
theorem w_codes : ∀ c ∈ words1.filter isCode, c.before args0 about1 = true := by
  rw [codes_eq]
  intro c hc
  simp only [codes1, List.mem_cons, List.not_mem_nil, or_false] at hc
  rcases hc with rfl | rfl | rfl | rfl | rfl | rfl | rfl | rfl | rfl | rfl | rfl | rfl | rfl | rfl | rfl | rfl | rfl
  · exact w_c0
  · exact w_c1
  · exact w_c2
  · exact w_c3
  · exact w_c4
  · exact w_c5
  · exact w_c6
  · exact w_c7
  · exact w_c8
  · exact w_c9
  · exact w_c10
  · exact w_c11
  · exact w_c12
  · exact w_c13
  · exact w_c14
  · exact w_c15
  · exact w_c16
set_option maxRecDepth 65536 in
theorem w_t1 : (words1.take 24).all (fun c => isCode c || c.before args0 about1) = true := by decide +kernel
set_option maxRecDepth 65536 in
theorem w_t2 : ((words1.drop 24).take 24).all (fun c => isCode c || c.before args0 about1) = true := by decide +kernel
set_option maxRecDepth 65536 in
theorem w_t3 : (((words1.drop 24).drop 24).take 24).all (fun c => isCode c || c.before args0 about1) = true := by decide +kernel
set_option maxRecDepth 65536 in
theorem w_t4 : (((words1.drop 24).drop 24).drop 24).all (fun c => isCode c || c.before args0 about1) = true := by decide +kernel
theorem w_tables : (allAtoms (Jvm.Cond.code x code maxLocals ret :: tables_1)).before args0 about1 = true := by
  rw [allAtoms_all]
  show words1.all (fun c => c.before args0 about1) = true
  refine all_split ?_ w_codes
  rw [← List.take_append_drop 24 words1, List.all_append, w_t1, ← List.take_append_drop 24 (words1.drop 24), List.all_append, w_t2, ← List.take_append_drop 24 ((words1.drop 24).drop 24), List.all_append, w_t3, w_t4]
  rfl
set_option maxRecDepth 65536 in
theorem w_rest : rest_1_c.before args0 about1 = true := by decide +kernel
set_option maxRecDepth 65536 in
theorem w_case : (Jvm.Cond.and given_1 narrow_1).before args0 about1 = true := by decide +kernel
theorem w_applies : (headSpec (Jvm.Cond.code x code maxLocals ret :: tables_1) room_1).applies x e0.platform about1 = true :=
  (Spec.applies_iff w_frames).mpr ⟨w_running, w_runnable, w_alone, w_named, w_hears, w_ripe, w_room, w_tables⟩
theorem atStart : AtStart classFile x code maxLocals ret World_1 tables_1 room_1 Calls_1 rest_1 Pre_1 launch0 p0 e0 about1 theMethod args0 below0 :=
  ⟨lists_1, trivial, launch0.admits_env _ _ _, launch0.least_env, fairChoices_fair.cas, fairChoices_fair.clock, w_frames, w_args, w_heap, w_applies, trivial, w_rest, w_case⟩
end start1
theorem witness_1 : WitnessClaimed_1 := ⟨start1.p0, start1.e0, start1.about1, start1.theMethod, start1.args0, start1.below0, start1.atStart⟩
end Jvm.Pilot.@@N@@
