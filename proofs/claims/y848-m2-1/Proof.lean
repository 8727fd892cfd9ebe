import JvmDerived
import JvmDerived.Pilot.@@N@@Statement
import JvmDerived.Pilot.@@N@@Code
set_option linter.unusedVariables false
set_option linter.unusedSimpArgs false
namespace Jvm.Pilot.@@N@@
open Jvm Jvm.ClassFile Sem Op Lib Jvm.Free Jvm.Stand Jvm.LawKit Jvm.RoadKit Bundle Jvm.Pilot.@@N@@.Jvm.D
section OwnGo
variable {p : Program} {l : Launch} {e : Env} {R : Room} {s : State} {m : MethodId} {args : Array Value} {below : List Frame} {meth : Method} {c : Code} {T T' : State} {locs : List Loc} {cells slots : Nat} {Q : Option Value → Heap → List Loc → Prop} {C S : Nat} {g g' : JFrame} {F : Outcome → State → Prop}
/-- from this state and frame the body comes to an end of which F holds -/
def Go (p : Program) (e : Env) (below : List Frame) (F : Outcome → State → Prop) (T : State) (g : JFrame) : Prop :=
  ∃ s₂ o, Steps p.tables e below (T.setTop g) s₂ ∧ s₂.status = .running ∧ Ended s₂ below o ∧ F o s₂
/-- it returned, Q holds, and nothing else has moved than L and so many new cells and slots -/
abbrev EndN (s : State) (Q : Option Value → Heap → List Loc → Prop) (C S : Nat) (o : Outcome) (t : State) : Prop := ∃ v L, o = .returned v ∧ Q v t.heap L ∧ FrameEnd s o t L C S
theorem Go.enter (q : g = g') (k : Go p e below F T g') : ∃ s₂ o, Steps p.tables e below (T.setTop g) s₂ ∧ s₂.status = .running ∧ Ended s₂ below o ∧ F o s₂ := by
  subst q
  exact k
theorem Go.by (h : ∀ t, Steps p.tables e below (T'.setTop g') t → Steps p.tables e below (T.setTop g) t) (k : Go p e below F T' g') : Go p e below F T g := by
  obtain ⟨s₂, o, h1, h2⟩ := k
  exact ⟨s₂, o, h _ h1, h2⟩
theorem Go.to (h : Steps p.tables e below (T.setTop g) (T'.setTop g')) (k : Go p e below F T' g') : Go p e below F T g := by
  obtain ⟨s₂, o, h1, h2⟩ := k
  exact ⟨s₂, o, h.trans h1, h2⟩
abbrev own_retKind (i : Instr) (t : FieldType) (w : Value) : Prop := (i = .ireturn ∧ (t = .int ∨ t = .boolean ∨ t = .byte ∨ t = .char ∨ t = .short) ∧ ∃ z, w = .int z) ∨ (i = .lreturn ∧ t = .long ∧ ∃ z, w = .long z) ∨ (i = .dreturn ∧ t = .double ∧ ∃ z, w = .double z) ∨ (i = .freturn ∧ t = .float ∧ ∃ z, w = .float z) ∨ (i = .areturn ∧ t.isReference = true ∧ w.isRef = true)
theorem Go.ret (X : Stand p l e R s m args below meth c T locs cells slots) (hx : p.tables.exec = Jvm.exec) (hlocks : meth.locks = false) {pc : Nat} {Ls : Array Slot} {w : Value} {t : FieldType} {i : Instr} {rest : List Value} (hret : meth.sig.returnType = some t) (hn : narrow t w = w)
    (hi : own_retKind i t w) (hd : decode c.code pc = .ok (i, 1)) (hq : Q (some w) T.heap locs) (hc : cells ≤ C) (hs : slots ≤ S) : Go p e below (EndN s Q C S) T (mkF m pc Ls (w :: rest)) := by
  obtain ⟨fs, hr, hrun, hended, hW, hsame⟩ := X.leave (v := some w) (fun h => by rw [hret] at h; cases h) hlocks
  exact ⟨_, _, retOut X hx hret hn hi hd hr, hrun, hended, _, _, rfl, hq, ⟨_, rfl⟩, hW, hsame.mono hc hs⟩
theorem Go.retI (X : Stand p l e R s m args below meth c T locs cells slots) (hx : p.tables.exec = Jvm.exec) (hlocks : meth.locks = false) {pc : Nat} {Ls : Array Slot} {w : Int32} {t : FieldType} {rest : List Value} (hret : meth.sig.returnType = some t) (hn : narrow t (.int w) = .int w)
    (ht : t = .int ∨ t = .boolean ∨ t = .byte ∨ t = .char ∨ t = .short) (hd : decode c.code pc = .ok (.ireturn, 1)) (hq : Q (some (.int w)) T.heap locs) (hc : cells ≤ C) (hs : slots ≤ S) : Go p e below (EndN s Q C S) T (mkF m pc Ls (.int w :: rest)) :=
  Go.ret X hx hlocks hret hn (Or.inl ⟨rfl, ht, _, rfl⟩) hd hq hc hs
theorem Go.retJ (X : Stand p l e R s m args below meth c T locs cells slots) (hx : p.tables.exec = Jvm.exec) (hlocks : meth.locks = false) {pc : Nat} {Ls : Array Slot} {w : Int64} {rest : List Value} (hret : meth.sig.returnType = some .long)
    (hd : decode c.code pc = .ok (.lreturn, 1)) (hq : Q (some (.long w)) T.heap locs) (hc : cells ≤ C) (hs : slots ≤ S) : Go p e below (EndN s Q C S) T (mkF m pc Ls (.long w :: rest)) :=
  Go.ret X hx hlocks hret rfl (Or.inr (Or.inl ⟨rfl, rfl, _, rfl⟩)) hd hq hc hs
theorem own_narR (t : FieldType) {w : Value} (ht : t.isReference = true) (hw : w.isRef = true) : narrow t w = w := by
  cases t <;> first | (simp [FieldType.isReference] at ht; done) | (rcases ref_cases hw with rfl | ⟨_, rfl⟩ <;> rfl)
theorem own_fitR (t : FieldType) {w : Value} (ht : t.isReference = true) (hw : w.isRef = true) : fits t w = true := by
  cases t <;> first | (simp [FieldType.isReference] at ht; done) | (rcases ref_cases hw with rfl | ⟨_, rfl⟩ <;> rfl)
theorem Go.retA (X : Stand p l e R s m args below meth c T locs cells slots) (hx : p.tables.exec = Jvm.exec) (hlocks : meth.locks = false) {pc : Nat} {Ls : Array Slot} {w : Value} {t : FieldType} {rest : List Value} (hret : meth.sig.returnType = some t) (ht : t.isReference = true) (hw : w.isRef = true)
    (hd : decode c.code pc = .ok (.areturn, 1)) (hq : Q (some w) T.heap locs) (hc : cells ≤ C) (hs : slots ≤ S) : Go p e below (EndN s Q C S) T (mkF m pc Ls (w :: rest)) :=
  Go.ret X hx hlocks hret (own_narR t ht hw) (Or.inr (Or.inr (Or.inr (Or.inr ⟨rfl, ht, hw⟩)))) hd hq hc hs
theorem Go.retV (X : Stand p l e R s m args below meth c T locs cells slots) (hx : p.tables.exec = Jvm.exec) (hlocks : meth.locks = false) {pc : Nat} {Ls : Array Slot} (hret : meth.sig.returnType = none)
    (hd : decode c.code pc = .ok (.return_, 1)) (hq : Q none T.heap locs) (hc : cells ≤ C) (hs : slots ≤ S) : Go p e below (EndN s Q C S) T (mkF m pc Ls []) := by
  obtain ⟨fs, hr, hrun, hended, hW, hsame⟩ := X.leave (v := none) (fun _ => rfl) hlocks
  exact ⟨_, _, X.returnOut hx hret hd hr, hrun, hended, _, _, rfl, hq, ⟨_, rfl⟩, hW, hsame.mono hc hs⟩
/-- two or more roads that meet: what comes behind is shown once, for every x that P allows -/
theorem Go.join {α : Type} {P : α → Prop} {fr : α → JFrame} (h : ∀ x, P x → Go p e below F T (fr x)) (k : (∀ x, P x → Go p e below F T (fr x)) → Go p e below F T g) : Go p e below F T g := k h
def own_at (X : Stand p l e R s m args below meth c T locs cells slots) (h : Heap) (T' : State) : Prop := Stand p l e R s m args below meth c T' locs cells slots ∧ T'.heap = h
theorem Go.joinT {α : Type} {St : State → Prop} {P : α → Prop} {fr : α → JFrame} (h : ∀ T', St T' → ∀ x, P x → Go p e below F T' (fr x)) (k : (∀ T', St T' → ∀ x, P x → Go p e below F T' (fr x)) → Go p e below F T g) : Go p e below F T g := k h
end OwnGo
section OwnWide
variable {p : Program} {l : Launch} {e : Env} {R : Room} {s : State} {m : MethodId} {args : Array Value} {below : List Frame} {meth : Method} {c : Code} {T T' : State} {locs : List Loc} {cells slots : Nat} {Q : Option Value → Heap → List Loc → Prop} {C S n : Nat} {Z : State} {a0 : Array Value} {EL : List (String × Nat)} {vm : Vm} {h : Heap}
/-- it returned, Q holds, the held literals go on, and nothing else has moved than L, so many new cells and slots, and literals interned -/
abbrev EndW (Z : State) (EL : List (String × Nat)) (s : State) (Q : Option Value → Heap → List Loc → Prop) (C S : Nat) (o : Outcome) (t : State) : Prop := ∃ v L, o = .returned v ∧ Q v t.heap L ∧ CHr Z EL s.vm s.heap t.vm t.heap ∧ ReturnedEndW s o t L C S
theorem Go.retW (X : Stand p l e R (s.setVm vm) m args below meth c T locs cells slots) (hx : p.tables.exec = Jvm.exec) (hlocks : meth.locks = false) (hS : s.Since vm n) (hk : n ≤ T.heap.size) (hZ : Z.Warmed39 vm) (hEL : EW Z a0 EL) (hCH : CHr Z EL s.vm s.heap vm T.heap) {pc : Nat} {Ls : Array Slot} {w : Value} {t : FieldType} {i : Instr} {rest : List Value}
    (hret : meth.sig.returnType = some t) (hn : narrow t w = w) (hi : own_retKind i t w) (hd : decode c.code pc = .ok (i, 1)) (hq : Q (some w) T.heap locs) (hc : cells ≤ C) (hs : slots ≤ S) : Go p e below (EndW Z EL s Q C S) T (mkF m pc Ls (w :: rest)) := by
  obtain ⟨fs, hr, hrun, hended, h1, h2, h3, h4⟩ := X.leaveW hS hk (v := some w) (fun h => by rw [hret] at h; cases h) hlocks
  have hA : CHr Z EL s.vm s.heap T.vm T.heap := hCH.trans (CHv.at X hZ hEL hCH.1)
  exact ⟨_, _, retOut X hx hret hn hi hd hr, hrun, hended, _, _, rfl, hq, hA, h1, h2, h3, h4.mono hc hs⟩
theorem Go.retIW (X : Stand p l e R (s.setVm vm) m args below meth c T locs cells slots) (hx : p.tables.exec = Jvm.exec) (hlocks : meth.locks = false) (hS : s.Since vm n) (hk : n ≤ T.heap.size) (hZ : Z.Warmed39 vm) (hEL : EW Z a0 EL) (hCH : CHr Z EL s.vm s.heap vm T.heap) {pc : Nat} {Ls : Array Slot} {w : Int32} {t : FieldType} {rest : List Value}
    (hret : meth.sig.returnType = some t) (hn : narrow t (.int w) = .int w) (ht : t = .int ∨ t = .boolean ∨ t = .byte ∨ t = .char ∨ t = .short) (hd : decode c.code pc = .ok (.ireturn, 1)) (hq : Q (some (.int w)) T.heap locs) (hc : cells ≤ C) (hs : slots ≤ S) : Go p e below (EndW Z EL s Q C S) T (mkF m pc Ls (.int w :: rest)) :=
  Go.retW X hx hlocks hS hk hZ hEL hCH hret hn (Or.inl ⟨rfl, ht, _, rfl⟩) hd hq hc hs
theorem Go.retAW (X : Stand p l e R (s.setVm vm) m args below meth c T locs cells slots) (hx : p.tables.exec = Jvm.exec) (hlocks : meth.locks = false) (hS : s.Since vm n) (hk : n ≤ T.heap.size) (hZ : Z.Warmed39 vm) (hEL : EW Z a0 EL) (hCH : CHr Z EL s.vm s.heap vm T.heap) {pc : Nat} {Ls : Array Slot} {w : Value} {t : FieldType} {rest : List Value}
    (hret : meth.sig.returnType = some t) (ht : t.isReference = true) (hw : w.isRef = true) (hd : decode c.code pc = .ok (.areturn, 1)) (hq : Q (some w) T.heap locs) (hc : cells ≤ C) (hs : slots ≤ S) : Go p e below (EndW Z EL s Q C S) T (mkF m pc Ls (w :: rest)) :=
  Go.retW X hx hlocks hS hk hZ hEL hCH hret (own_narR t ht hw) (Or.inr (Or.inr (Or.inr (Or.inr ⟨rfl, ht, hw⟩)))) hd hq hc hs
theorem Go.retVW (X : Stand p l e R (s.setVm vm) m args below meth c T locs cells slots) (hx : p.tables.exec = Jvm.exec) (hlocks : meth.locks = false) (hS : s.Since vm n) (hk : n ≤ T.heap.size) (hZ : Z.Warmed39 vm) (hEL : EW Z a0 EL) (hCH : CHr Z EL s.vm s.heap vm T.heap) {pc : Nat} {Ls : Array Slot}
    (hret : meth.sig.returnType = none) (hd : decode c.code pc = .ok (.return_, 1)) (hq : Q none T.heap locs) (hc : cells ≤ C) (hs : slots ≤ S) : Go p e below (EndW Z EL s Q C S) T (mkF m pc Ls []) := by
  obtain ⟨fs, hr, hrun, hended, h1, h2, h3, h4⟩ := X.leaveW hS hk (v := none) (fun _ => rfl) hlocks
  have hA : CHr Z EL s.vm s.heap T.vm T.heap := hCH.trans (CHv.at X hZ hEL hCH.1)
  exact ⟨_, _, X.returnOut hx hret hd hr, hrun, hended, _, _, rfl, hq, hA, h1, h2, h3, h4.mono hc hs⟩
end OwnWide
open Jvm.Free.SB Jvm.Free.SBG in
/-- a String whose value is still null is no held literal -/
theorem own_safe {Z : State} {vm : Vm} {EL : List (String × Nat)} {h : Heap} {x : Addr} (hal : Z.vm.Alike vm) (E : Exa Z h x "java/lang/String") (F : Fld Z h x "java/lang/String" "value" "[B" .null) : Safe Z EL vm h x := fun B => by
  obtain ⟨p, -, u, a, -, q, -, G, rfl | rfl⟩ := B
  · obtain ⟨cell, cf, k, i, f, h1, h2, h3, h4, h5, h6, h7⟩ := F
    cases (show h[q.sa]? = some q.sC from G.ha).symm.trans h1
    obtain ⟨cS, ⟨⟨s1, s2, s3, ⟨cv, kv, iv, s4, s4'⟩, -, s6, s7, s8, -⟩, -, -⟩, -⟩ := G
    obtain ⟨kv', z4⟩ := ff_back (Z := Z) (U := Wst Z vm h) hal s4
    cases h2.symm.trans z4
    cases h7.symm.trans s8
  · obtain ⟨cell, k, e1, e2, e3, -, -⟩ := E
    cases (show h[q.sd]? = some q.SA from G.hd).symm.trans e1
    obtain ⟨cS, -, -, f, -⟩ := G
    have f' : Z.vm.findClass "[B" = some q.SA.cls := by rw [← hal.findClass]; exact f
    exact ids_ne e2 f' (by decide) rfl

abbrev own_EL : List (String × Nat) := [("java/lang/String", 7)]
theorem own_EW {Z : State} {a0 : Array Value} (hw : ∀ d ∈ tables_1, d.before a0 Z = true) : EW Z a0 own_EL := (EW.cons (hw _ (List.mem_of_getElem? (i := 24) rfl)) (by decide) EW.nil)
theorem own_SA {Z : State} {a0 : Array Value} (hw : ∀ d ∈ tables_1, d.before a0 Z = true) : ∀ a ∈ Bundle.stringAtoms, a.before a0 Z = true := fun d hd => hw d ((by decide +kernel : ∀ d ∈ Bundle.stringAtoms, d ∈ tables_1) d hd)
theorem own_masked (x : Int32) : ¬ (x &&& 2147483647) < 0 := by
  have h := (c_and x (2147483647 : Int32) (by decide)).1
  rw [XT.negI32]
  omega
theorem own_irem (x y : Int32) : x - x / y * y = x % y := irem_eq_mod x y
theorem own_rem {x d k : Int32} (n : Nat) (hx : ¬ x < 0) (hd : d.toInt = n) (hn : 0 < n) (hk : k = x - x / d * d) : ∃ j : Nat, j < n ∧ k = Int32.ofNat j := by
  rw [own_irem] at hk
  rw [XT.negI32] at hx
  have h1 := (c_irem x d n hd).1 (by omega)
  have h2 := Int.emod_nonneg x.toInt (b := (n : Int)) (by omega)
  have h3 := Int.emod_lt_of_pos x.toInt (b := (n : Int)) (by omega)
  refine ⟨k.toInt.toNat, by rw [hk, h1]; omega, ?_⟩
  apply Int32.toInt_inj.mp
  have h4 := rng32 k
  rw [← hk] at h1
  rw [Int32.toInt_ofNat_of_lt (by omega)]
  omega

theorem own_ns_root {Z : State} {a0 : Array Value} {O K : String} {n : Nat} (w : (Cond.noSuperclass O).before a0 Z = true) (wi : (Cond.instantiable K n).before a0 Z = true) (hn : O ≠ K) : NS Z O K := by
  obtain ⟨c, k, h1, h2, h3, -, -⟩ := Cond.noSuperclass_spec w
  obtain ⟨t, k', g1, -⟩ := Cond.instantiable_spec wi
  refine ⟨c, t, h1, g1, fun fuel => ?_⟩
  have ne := ids_ne h1 g1 hn
  cases fuel with
  | zero => rfl
  | succ f => simp [Vm.isSubclassAux, ne, h2, h3]
theorem own_ns_no {Z : State} {a0 : Array Value} {C S K : String} {n : Nat} (w : (Cond.superclass C S).before a0 Z = true) (wi : (Cond.instantiable K n).before a0 Z = true) (ns : NS Z C K) (hn : C ≠ K) : ∃ c t, Z.vm.findClass C = some c ∧ Z.vm.findClass K = some t ∧ Z.vm.assignable c t = false := by
  obtain ⟨c, t, h0, g0, n3⟩ := ns
  obtain ⟨q, k, kp, -, h2, -, -, h5, -⟩ := Cond.superclass_spec h0 w
  obtain ⟨t', k', g1, g2, g3, g4, -⟩ := Cond.instantiable_spec wi
  cases g0.symm.trans g1
  have ne := ids_ne h0 g0 hn
  have g5 : k'.isInterface = false := by
    cases hq : k'.isInterface
    · rfl
    · simp [hq] at g4
  refine ⟨c, t, h0, g0, ?_⟩
  show Z.vm.assignableAux (255 + 1) c t = false
  simp [Vm.assignableAux, ne, h2, g2, h5, g3, g5, Vm.isSubclass, n3]

/-- a char's low byte, signed -/
def own_b (c : Int32) : Int32 := c.toInt8.toInt32
theorem own_bn (c : Int32) : nar .byte c.toInt8.toInt32 = own_b c := by
  show c.toInt8.toInt32.toInt8.toInt32 = c.toInt8.toInt32
  simp
theorem own_b_inj {c d : Int32} (h1 : ¬ c < 0) (h2 : ¬ (255 : Int32) < c) (h3 : ¬ d < 0) (h4 : ¬ (255 : Int32) < d) (h : own_b c = own_b d) : c = d := by
  have e1 := c_i2b c
  have e2 := c_i2b d
  have e3 : c.toInt8.toInt32.toInt = d.toInt8.toInt32.toInt := congrArg Int32.toInt h
  rw [Int32.lt_iff_toInt_lt] at h1 h2 h3 h4
  simp at h1 h2 h3 h4
  apply Int32.toInt_inj.mp
  omega
theorem own_nc (x : Int32) : nar .char (x &&& 255) = x &&& 255 := i2c_mask x
theorem own_255 (x : Int32) : ¬ (255 : Int32) < x &&& 255 := by
  have h := c_and x (255 : Int32) (by decide)
  rw [Int32.lt_iff_toInt_lt]
  have : (255 : Int32).toInt = 255 := by decide
  omega
theorem own_0 (x : Int32) : ¬ (x &&& 255) < 0 := by
  have h := c_and x (255 : Int32) (by decide)
  rw [XT.negI32]
  omega

def own_str (n a b : Int32) : List Value := if n = 0 then [] else if n = 1 then [(.int (own_b a))] else [(.int (own_b a)), (.int (own_b b))]
theorem own_str_0 (a b : Int32) : own_str 0 a b = [] := by simp [own_str]
theorem own_str_1 (a b : Int32) : own_str 1 a b = [(.int (own_b a))] := by simp [own_str]
theorem own_str_2 (a b : Int32) : own_str 2 a b = [(.int (own_b a)), (.int (own_b b))] := by simp [own_str]
/-- the two Strings of up to two signs say the same -/
def own_eq (n xa xb m ya yb : Int32) : Prop := n = m ∧ (n = 0 ∨ own_b xa = own_b ya) ∧ (¬ n = 2 ∨ own_b xb = own_b yb)
theorem own_and3 (x : Int32) : ¬ (x &&& 3) < 0 := by
  have h := (c_and x (3 : Int32) (by decide)).1
  rw [XT.negI32]
  omega
def own_ln (x : Int32) : Int32 := (x &&& 3) - (x &&& 3) / 3 * 3
def own_ca (x : Int32) : Int32 := (XT.ushr x 2) &&& 255
def own_cb (x : Int32) : Int32 := (XT.ushr x 10) &&& 255
theorem own_ln3 (x : Int32) : own_ln x = 0 ∨ own_ln x = 1 ∨ own_ln x = 2 := by
  obtain ⟨j, hj, h⟩ := own_rem 3 (own_and3 x) (d := 3) rfl (by decide) (rfl : own_ln x = _)
  rw [h]
  rcases (by omega : j = 0 ∨ j = 1 ∨ j = 2) with rfl | rfl | rfl <;> simp
theorem own_chr {c x : Int32} (h : c = x &&& 255) : ¬ c < 0 ∧ ¬ (255 : Int32) < c ∧ nar .char c = c := by
  subst h
  exact ⟨own_0 x, own_255 x, own_nc x⟩
theorem own_qa (x : Int32) : ¬ own_ca x < 0 ∧ ¬ (255 : Int32) < own_ca x ∧ nar .char (own_ca x) = own_ca x := own_chr rfl
theorem own_qb (x : Int32) : ¬ own_cb x < 0 ∧ ¬ (255 : Int32) < own_cb x ∧ nar .char (own_cb x) = own_cb x := own_chr rfl
theorem own_ncr {c : Int32} (h : nar .char c = c) : narrow .char (.int c) = .int c := congrArg Value.int h
/-- the law's own word on two Strings of up to two signs: they are the same -/
def own_same (n xa xb m ya yb : Int32) : Prop := n = m ∧ (n < 1 ∨ xa = ya) ∧ (n < 2 ∨ xb = yb)
theorem own_same_iff {n xa xb m ya yb : Int32} (hm : n = 0 ∨ n = 1 ∨ n = 2) (h1 : ¬ xa < 0 ∧ ¬ (255 : Int32) < xa ∧ nar .char xa = xa) (h2 : ¬ xb < 0 ∧ ¬ (255 : Int32) < xb ∧ nar .char xb = xb) (h3 : ¬ ya < 0 ∧ ¬ (255 : Int32) < ya ∧ nar .char ya = ya) (h4 : ¬ yb < 0 ∧ ¬ (255 : Int32) < yb ∧ nar .char yb = yb) : own_eq n xa xb m ya yb ↔ own_same n xa xb m ya yb := by
  have e1 : own_b xa = own_b ya ↔ xa = ya := ⟨own_b_inj h1.1 h1.2.1 h3.1 h3.2.1, fun q => q ▸ rfl⟩
  have e2 : own_b xb = own_b yb ↔ xb = yb := ⟨own_b_inj h2.1 h2.2.1 h4.1 h4.2.1, fun q => q ▸ rfl⟩
  unfold own_eq own_same
  rw [e1, e2]
  constructor
  · rintro ⟨rfl, q1, q2⟩
    rcases hm with rfl | rfl | rfl <;> simp_all
  · rintro ⟨rfl, q1, q2⟩
    rcases hm with rfl | rfl | rfl <;> simp_all
def own_sm (x y : Int32) : Prop := own_same (own_ln x) (own_ca x) (own_cb x) (own_ln y) (own_ca y) (own_cb y)
def own_se (x y : Int32) : Prop := own_eq (own_ln x) (own_ca x) (own_cb x) (own_ln y) (own_ca y) (own_cb y)
theorem own_se_iff (x y : Int32) : own_se x y ↔ own_sm x y := own_same_iff (own_ln3 x) (own_qa x) (own_qb x) (own_qa y) (own_qb y)
theorem pn_1 : plainName "com/example/muster/muster/model/MemberEqualsPinLaw" = true := by first | (simp [plainName, overriddenIn]; done) | decide +kernel
theorem ef_2 (m : MethodId) (x0 : Int32) : entryFrame m #[(.int x0)] 1 = mkF m 0 #[.val (.int x0)] [] := by (first | (simp [entryFrame, mkF, argsToLocals, Value.category]; done) | rfl)
theorem d2_0 : decode method_2_code 0 = .ok (.iload_n 0, 1) := by decide +kernel
theorem d2_1 : decode method_2_code 1 = .ok (.iconst 3, 1) := by decide +kernel
theorem d2_2 : decode method_2_code 2 = .ok (.iand, 1) := by decide +kernel
theorem d2_3 : decode method_2_code 3 = .ok (.iconst 3, 1) := by decide +kernel
theorem d2_4 : decode method_2_code 4 = .ok (.irem, 1) := by decide +kernel
theorem d2_5 : decode method_2_code 5 = .ok (.ireturn, 1) := by decide +kernel
def Q_rmLen (Z : State) (x : Int32) (h0 : Heap) (n0 : Nat) (v : Option Value) (h : Heap) (L : List Loc) : Prop := v = some (.int (own_ln x)) ∧ Fr n0 L ∧ h = h0
set_option maxRecDepth 65536 in
set_option maxHeartbeats 40000000 in
theorem rmLen (l : Launch) (Z : State) (a0 : Array Value) (hw : ∀ d ∈ tables_1, d.before a0 Z = true) (ws : List Jvm.Cond) (x : Int32) (h0 : Heap) (n0 : Nat) (Z0 : n0 ≤ h0.size)  :
    MetFree l (⟨"com/example/muster/muster/model/MemberEqualsPinLaw", "len", "(I)I"⟩ : MethodName) (head1 (Jvm.Cond.code (⟨"com/example/muster/muster/model/MemberEqualsPinLaw", "len", "(I)I"⟩ : MethodName) method_2_code 1 (some .int) :: ws) ({ frames := 0, cells := 0, slots := 0, locals := 0 } : Room)) (fun as' U => as' = #[(.int x)] ∧ Z.Warmed39 U.vm ∧ U.heap = h0) (fun _ _ _ _ _ => True) (fun _ U o U' => ∃ v L, o = .returned v ∧ Q_rmLen Z x h0 n0 v U'.heap L ∧ FrameEnd U o U' L ({ frames := 0, cells := 0, slots := 0, locals := 0 } : Room).cells ({ frames := 0, cells := 0, slots := 0, locals := 0 } : Room).slots) := by
  refine MetFree.of_bodySF (plainFor_of_name pn_1) hisR ?_
  intro p e s m args below meth c s₁ Bd hml0 hP hK
  obtain ⟨rfl, hZ, hh⟩ := hP
  have hx := Bd.exec
  have hby := Bd.bytes
  have hml : c.maxLocals = 1 := hml0
  have hown : s.vm.findClass "com/example/muster/muster/model/MemberEqualsPinLaw" = some m.cls := findClass_of_methodNamed Bd.named
  have hnm := (name_of_methodNamed Bd.named Bd.method).1
  have X0 : Stand p l e ({ frames := 0, cells := 0, slots := 0, locals := 0 } : Room) s m #[(.int x)] below meth c s₁ [] 0 0 := Stand.of_body Bd
  have e0 : s₁.heap = h0 := by rw [← hh, Bd.state]; rfl
  have N0 := Fr.nil n0
  refine Go.enter (F := EndN s (Q_rmLen Z x h0 n0) ({ frames := 0, cells := 0, slots := 0, locals := 0 } : Room).cells ({ frames := 0, cells := 0, slots := 0, locals := 0 } : Room).slots) (ef_2 m x) ?_
  show Go _ _ _ _ s₁ (mkF m 0 #[.val (.int x)] [])
  refine Go.by (fun _ gk => XS.iloadN X0.here hx rfl (hb hby d2_0) rfl gk) ?_
  show Go _ _ _ _ s₁ (mkF m 1 #[.val (.int x)] [(.int x)])
  refine Go.by (fun _ gk => XT.iconstV X0.here hx rfl (3 : Int32) (hb hby d2_1) (by decide) gk) ?_
  show Go _ _ _ _ s₁ (mkF m 2 #[.val (.int x)] [(.int (3 : Int32)), (.int x)])
  refine Go.by (fun _ gk => XS.iand X0.here hx rfl (hb hby d2_2) rfl gk) ?_
  show Go _ _ _ _ s₁ (mkF m 3 #[.val (.int x)] [(.int (x &&& (3 : Int32)))])
  refine Go.by (fun _ gk => XT.iconstV X0.here hx rfl (3 : Int32) (hb hby d2_3) (by decide) gk) ?_
  show Go _ _ _ _ s₁ (mkF m 4 #[.val (.int x)] [(.int (3 : Int32)), (.int (x &&& (3 : Int32)))])
  refine Go.by (fun _ gk => XS.irem X0.here hx rfl (hb hby d2_4) rfl (by decide) gk) ?_
  show Go _ _ _ _ s₁ (mkF m 5 #[.val (.int x)] [(.int ((x &&& (3 : Int32)) - (x &&& (3 : Int32)) / (3 : Int32) * (3 : Int32)))])
  exact Go.retI X0 hx Bd.notSynchronized Bd.returns rfl (by simp) (hb hby d2_5) (by rw [e0]; exact ⟨rfl, N0, rfl⟩) (by decide) (by decide)
theorem d7_0 : decode method_3_code 0 = .ok (.iload_n 0, 1) := by decide +kernel
theorem d7_1 : decode method_3_code 1 = .ok (.iconst 2, 1) := by decide +kernel
theorem d7_2 : decode method_3_code 2 = .ok (.iushr, 1) := by decide +kernel
theorem d7_3 : decode method_3_code 3 = .ok (.sipush 255, 3) := by decide +kernel
theorem d7_6 : decode method_3_code 6 = .ok (.iand, 1) := by decide +kernel
theorem d7_7 : decode method_3_code 7 = .ok (.i2c, 1) := by decide +kernel
theorem d7_8 : decode method_3_code 8 = .ok (.ireturn, 1) := by decide +kernel
def Q_rm_c0 (Z : State) (x : Int32) (h0 : Heap) (n0 : Nat) (v : Option Value) (h : Heap) (L : List Loc) : Prop := v = some (.int (own_ca x)) ∧ Fr n0 L ∧ h = h0
set_option maxRecDepth 65536 in
set_option maxHeartbeats 40000000 in
theorem rm_c0 (l : Launch) (Z : State) (a0 : Array Value) (hw : ∀ d ∈ tables_1, d.before a0 Z = true) (ws : List Jvm.Cond) (x : Int32) (h0 : Heap) (n0 : Nat) (Z0 : n0 ≤ h0.size)  :
    MetFree l (⟨"com/example/muster/muster/model/MemberEqualsPinLaw", "c0", "(I)C"⟩ : MethodName) (head1 (Jvm.Cond.code (⟨"com/example/muster/muster/model/MemberEqualsPinLaw", "c0", "(I)C"⟩ : MethodName) method_3_code 1 (some .char) :: ws) ({ frames := 0, cells := 0, slots := 0, locals := 0 } : Room)) (fun as' U => as' = #[(.int x)] ∧ Z.Warmed39 U.vm ∧ U.heap = h0) (fun _ _ _ _ _ => True) (fun _ U o U' => ∃ v L, o = .returned v ∧ Q_rm_c0 Z x h0 n0 v U'.heap L ∧ FrameEnd U o U' L ({ frames := 0, cells := 0, slots := 0, locals := 0 } : Room).cells ({ frames := 0, cells := 0, slots := 0, locals := 0 } : Room).slots) := by
  refine MetFree.of_bodySF (plainFor_of_name pn_1) hisR ?_
  intro p e s m args below meth c s₁ Bd hml0 hP hK
  obtain ⟨rfl, hZ, hh⟩ := hP
  have hx := Bd.exec
  have hby := Bd.bytes
  have hml : c.maxLocals = 1 := hml0
  have hown : s.vm.findClass "com/example/muster/muster/model/MemberEqualsPinLaw" = some m.cls := findClass_of_methodNamed Bd.named
  have hnm := (name_of_methodNamed Bd.named Bd.method).1
  have X0 : Stand p l e ({ frames := 0, cells := 0, slots := 0, locals := 0 } : Room) s m #[(.int x)] below meth c s₁ [] 0 0 := Stand.of_body Bd
  have e0 : s₁.heap = h0 := by rw [← hh, Bd.state]; rfl
  have N0 := Fr.nil n0
  refine Go.enter (F := EndN s (Q_rm_c0 Z x h0 n0) ({ frames := 0, cells := 0, slots := 0, locals := 0 } : Room).cells ({ frames := 0, cells := 0, slots := 0, locals := 0 } : Room).slots) (ef_2 m x) ?_
  show Go _ _ _ _ s₁ (mkF m 0 #[.val (.int x)] [])
  refine Go.by (fun _ gk => XS.iloadN X0.here hx rfl (hb hby d7_0) rfl gk) ?_
  show Go _ _ _ _ s₁ (mkF m 1 #[.val (.int x)] [(.int x)])
  refine Go.by (fun _ gk => XT.iconstV X0.here hx rfl (2 : Int32) (hb hby d7_1) (by decide) gk) ?_
  show Go _ _ _ _ s₁ (mkF m 2 #[.val (.int x)] [(.int (2 : Int32)), (.int x)])
  refine Go.by (fun _ gk => XT.iushr X0.here hx rfl (hb hby d7_2) rfl gk) ?_
  show Go _ _ _ _ s₁ (mkF m 3 #[.val (.int x)] [(.int (XT.ushr x (2 : Int32)))])
  refine Go.by (fun _ gk => XT.sipushV X0.here hx rfl (255 : Int32) (hb hby d7_3) (by decide) gk) ?_
  show Go _ _ _ _ s₁ (mkF m 6 #[.val (.int x)] [(.int (255 : Int32)), (.int (XT.ushr x (2 : Int32)))])
  refine Go.by (fun _ gk => XS.iand X0.here hx rfl (hb hby d7_6) rfl gk) ?_
  show Go _ _ _ _ s₁ (mkF m 7 #[.val (.int x)] [(.int ((XT.ushr x (2 : Int32)) &&& (255 : Int32)))])
  refine Go.by (fun _ gk => XT.i2c X0.here hx rfl (hb hby d7_7) rfl gk) ?_
  show Go _ _ _ _ s₁ (mkF m 8 #[.val (.int x)] [(.int (((XT.ushr x (2 : Int32)) &&& (255 : Int32)).toUInt32.toUInt16.toUInt32.toInt32))])
  rw [i2c_mask]
  show Go _ _ _ _ s₁ (mkF m 8 #[.val (.int x)] [(.int (own_ca x))])
  exact Go.retI X0 hx Bd.notSynchronized Bd.returns (own_ncr (own_qa x).2.2) (by simp) (hb hby d7_8) (by rw [e0]; exact ⟨rfl, N0, rfl⟩) (by decide) (by decide)
theorem d8_0 : decode method_4_code 0 = .ok (.iload_n 0, 1) := by decide +kernel
theorem d8_1 : decode method_4_code 1 = .ok (.bipush 10, 2) := by decide +kernel
theorem d8_3 : decode method_4_code 3 = .ok (.iushr, 1) := by decide +kernel
theorem d8_4 : decode method_4_code 4 = .ok (.sipush 255, 3) := by decide +kernel
theorem d8_7 : decode method_4_code 7 = .ok (.iand, 1) := by decide +kernel
theorem d8_8 : decode method_4_code 8 = .ok (.i2c, 1) := by decide +kernel
theorem d8_9 : decode method_4_code 9 = .ok (.ireturn, 1) := by decide +kernel
def Q_rm_c1 (Z : State) (x : Int32) (h0 : Heap) (n0 : Nat) (v : Option Value) (h : Heap) (L : List Loc) : Prop := v = some (.int (own_cb x)) ∧ Fr n0 L ∧ h = h0
set_option maxRecDepth 65536 in
set_option maxHeartbeats 40000000 in
theorem rm_c1 (l : Launch) (Z : State) (a0 : Array Value) (hw : ∀ d ∈ tables_1, d.before a0 Z = true) (ws : List Jvm.Cond) (x : Int32) (h0 : Heap) (n0 : Nat) (Z0 : n0 ≤ h0.size)  :
    MetFree l (⟨"com/example/muster/muster/model/MemberEqualsPinLaw", "c1", "(I)C"⟩ : MethodName) (head1 (Jvm.Cond.code (⟨"com/example/muster/muster/model/MemberEqualsPinLaw", "c1", "(I)C"⟩ : MethodName) method_4_code 1 (some .char) :: ws) ({ frames := 0, cells := 0, slots := 0, locals := 0 } : Room)) (fun as' U => as' = #[(.int x)] ∧ Z.Warmed39 U.vm ∧ U.heap = h0) (fun _ _ _ _ _ => True) (fun _ U o U' => ∃ v L, o = .returned v ∧ Q_rm_c1 Z x h0 n0 v U'.heap L ∧ FrameEnd U o U' L ({ frames := 0, cells := 0, slots := 0, locals := 0 } : Room).cells ({ frames := 0, cells := 0, slots := 0, locals := 0 } : Room).slots) := by
  refine MetFree.of_bodySF (plainFor_of_name pn_1) hisR ?_
  intro p e s m args below meth c s₁ Bd hml0 hP hK
  obtain ⟨rfl, hZ, hh⟩ := hP
  have hx := Bd.exec
  have hby := Bd.bytes
  have hml : c.maxLocals = 1 := hml0
  have hown : s.vm.findClass "com/example/muster/muster/model/MemberEqualsPinLaw" = some m.cls := findClass_of_methodNamed Bd.named
  have hnm := (name_of_methodNamed Bd.named Bd.method).1
  have X0 : Stand p l e ({ frames := 0, cells := 0, slots := 0, locals := 0 } : Room) s m #[(.int x)] below meth c s₁ [] 0 0 := Stand.of_body Bd
  have e0 : s₁.heap = h0 := by rw [← hh, Bd.state]; rfl
  have N0 := Fr.nil n0
  refine Go.enter (F := EndN s (Q_rm_c1 Z x h0 n0) ({ frames := 0, cells := 0, slots := 0, locals := 0 } : Room).cells ({ frames := 0, cells := 0, slots := 0, locals := 0 } : Room).slots) (ef_2 m x) ?_
  show Go _ _ _ _ s₁ (mkF m 0 #[.val (.int x)] [])
  refine Go.by (fun _ gk => XS.iloadN X0.here hx rfl (hb hby d8_0) rfl gk) ?_
  show Go _ _ _ _ s₁ (mkF m 1 #[.val (.int x)] [(.int x)])
  refine Go.by (fun _ gk => XT.bipushV X0.here hx rfl (10 : Int32) (hb hby d8_1) (by decide) gk) ?_
  show Go _ _ _ _ s₁ (mkF m 3 #[.val (.int x)] [(.int (10 : Int32)), (.int x)])
  refine Go.by (fun _ gk => XT.iushr X0.here hx rfl (hb hby d8_3) rfl gk) ?_
  show Go _ _ _ _ s₁ (mkF m 4 #[.val (.int x)] [(.int (XT.ushr x (10 : Int32)))])
  refine Go.by (fun _ gk => XT.sipushV X0.here hx rfl (255 : Int32) (hb hby d8_4) (by decide) gk) ?_
  show Go _ _ _ _ s₁ (mkF m 7 #[.val (.int x)] [(.int (255 : Int32)), (.int (XT.ushr x (10 : Int32)))])
  refine Go.by (fun _ gk => XS.iand X0.here hx rfl (hb hby d8_7) rfl gk) ?_
  show Go _ _ _ _ s₁ (mkF m 8 #[.val (.int x)] [(.int ((XT.ushr x (10 : Int32)) &&& (255 : Int32)))])
  refine Go.by (fun _ gk => XT.i2c X0.here hx rfl (hb hby d8_8) rfl gk) ?_
  show Go _ _ _ _ s₁ (mkF m 9 #[.val (.int x)] [(.int (((XT.ushr x (10 : Int32)) &&& (255 : Int32)).toUInt32.toUInt16.toUInt32.toInt32))])
  rw [i2c_mask]
  show Go _ _ _ _ s₁ (mkF m 9 #[.val (.int x)] [(.int (own_cb x))])
  exact Go.retI X0 hx Bd.notSynchronized Bd.returns (own_ncr (own_qb x).2.2) (by simp) (hb hby d8_9) (by rw [e0]; exact ⟨rfl, N0, rfl⟩) (by decide) (by decide)
theorem pn_23 : plainName "java/lang/StringLatin1" = true := by first | (simp [plainName, overriddenIn]; done) | decide +kernel
theorem d13_0 : decode jdk_43_method_3_code 0 = .ok (.iload_n 0, 1) := by decide +kernel
theorem d13_1 : decode jdk_43_method_3_code 1 = .ok (.sipush 255, 3) := by decide +kernel
theorem d13_4 : decode jdk_43_method_3_code 4 = .ok (.if_icmp .gt 7, 3) := by decide +kernel
theorem d13_7 : decode jdk_43_method_3_code 7 = .ok (.iconst 1, 1) := by decide +kernel
theorem d13_8 : decode jdk_43_method_3_code 8 = .ok (.goto 4, 3) := by decide +kernel
theorem d13_12 : decode jdk_43_method_3_code 12 = .ok (.ireturn, 1) := by decide +kernel
def Q_rmCan (Z : State) (c0 : Int32) (h0 : Heap) (n0 : Nat) (v : Option Value) (h : Heap) (L : List Loc) : Prop := v = some (.int (1 : Int32)) ∧ Fr n0 L ∧ h = h0
set_option maxRecDepth 65536 in
set_option maxHeartbeats 40000000 in
theorem rmCan (l : Launch) (Z : State) (a0 : Array Value) (hw : ∀ d ∈ tables_1, d.before a0 Z = true) (ws : List Jvm.Cond) (c0 : Int32) (h0 : Heap) (n0 : Nat) (Z0 : n0 ≤ h0.size) (hc0 : (¬ (255 : Int32) < c0)) :
    MetFree l (⟨"java/lang/StringLatin1", "canEncode", "(C)Z"⟩ : MethodName) (head1 (Jvm.Cond.code (⟨"java/lang/StringLatin1", "canEncode", "(C)Z"⟩ : MethodName) jdk_43_method_3_code 1 (some .boolean) :: ws) ({ frames := 0, cells := 0, slots := 0, locals := 0 } : Room)) (fun as' U => as' = #[(.int c0)] ∧ Z.Warmed39 U.vm ∧ U.heap = h0) (fun _ _ _ _ _ => True) (fun _ U o U' => ∃ v L, o = .returned v ∧ Q_rmCan Z c0 h0 n0 v U'.heap L ∧ FrameEnd U o U' L ({ frames := 0, cells := 0, slots := 0, locals := 0 } : Room).cells ({ frames := 0, cells := 0, slots := 0, locals := 0 } : Room).slots) := by
  refine MetFree.of_bodySF (plainFor_of_name pn_23) hisR ?_
  intro p e s m args below meth c s₁ Bd hml0 hP hK
  obtain ⟨rfl, hZ, hh⟩ := hP
  have hx := Bd.exec
  have hby := Bd.bytes
  have hml : c.maxLocals = 1 := hml0
  have hown : s.vm.findClass "java/lang/StringLatin1" = some m.cls := findClass_of_methodNamed Bd.named
  have hnm := (name_of_methodNamed Bd.named Bd.method).1
  have X0 : Stand p l e ({ frames := 0, cells := 0, slots := 0, locals := 0 } : Room) s m #[(.int c0)] below meth c s₁ [] 0 0 := Stand.of_body Bd
  have e0 : s₁.heap = h0 := by rw [← hh, Bd.state]; rfl
  have N0 := Fr.nil n0
  refine Go.enter (F := EndN s (Q_rmCan Z c0 h0 n0) ({ frames := 0, cells := 0, slots := 0, locals := 0 } : Room).cells ({ frames := 0, cells := 0, slots := 0, locals := 0 } : Room).slots) (ef_2 m c0) ?_
  show Go _ _ _ _ s₁ (mkF m 0 #[.val (.int c0)] [])
  refine Go.by (fun _ gk => XS.iloadN X0.here hx rfl (hb hby d13_0) rfl gk) ?_
  show Go _ _ _ _ s₁ (mkF m 1 #[.val (.int c0)] [(.int c0)])
  refine Go.by (fun _ gk => XT.sipushV X0.here hx rfl (255 : Int32) (hb hby d13_1) (by decide) gk) ?_
  show Go _ _ _ _ s₁ (mkF m 4 #[.val (.int c0)] [(.int (255 : Int32)), (.int c0)])
  refine Go.by (fun _ gk => XS.icmpNo X0.here hx rfl (hb hby d13_4) rfl (XT.ii_gt_f hc0) gk) ?_
  show Go _ _ _ _ s₁ (mkF m 7 #[.val (.int c0)] [])
  refine Go.by (fun _ gk => XT.iconstV X0.here hx rfl (1 : Int32) (hb hby d13_7) (by decide) gk) ?_
  show Go _ _ _ _ s₁ (mkF m 8 #[.val (.int c0)] [(.int (1 : Int32))])
  refine Go.by (fun _ gk => XS.goto X0.here hx rfl (pc0 := 8) (pc' := 12) rfl (hb hby d13_8) (by decide) (by decide) gk) ?_
  show Go _ _ _ _ s₁ (mkF m 12 #[.val (.int c0)] [(.int (1 : Int32))])
  exact Go.retI X0 hx Bd.notSynchronized Bd.returns rfl (by simp) (hb hby d13_12) (by rw [e0]; exact ⟨rfl, N0, rfl⟩) (by decide) (by decide)
theorem d14_0 : decode jdk_43_method_46_code 0 = .ok (.iconst 1, 1) := by decide +kernel
theorem d14_1 : decode jdk_43_method_46_code 1 = .ok (.newarray .byte, 2) := by decide +kernel
theorem d14_3 : decode jdk_43_method_46_code 3 = .ok (.dup, 1) := by decide +kernel
theorem d14_4 : decode jdk_43_method_46_code 4 = .ok (.iconst 0, 1) := by decide +kernel
theorem d14_5 : decode jdk_43_method_46_code 5 = .ok (.iload_n 0, 1) := by decide +kernel
theorem d14_6 : decode jdk_43_method_46_code 6 = .ok (.i2b, 1) := by decide +kernel
theorem d14_7 : decode jdk_43_method_46_code 7 = .ok (.bastore, 1) := by decide +kernel
theorem d14_8 : decode jdk_43_method_46_code 8 = .ok (.areturn, 1) := by decide +kernel
def Q_rmToBytes (Z : State) (c0 : Int32) (h0 : Heap) (n0 : Nat) (v : Option Value) (h : Heap) (L : List Loc) : Prop := ∃ da : Addr, ∃ kd : ClassId, v = some (.ref da) ∧ Fr n0 L ∧ Keep h0 h [] ∧ Arv Z h da kd .byte (1 : Int32) ([(.int (own_b c0))]) (.int (0 : Int32)) ∧ h0.size ≤ da
set_option maxRecDepth 65536 in
set_option maxHeartbeats 40000000 in
theorem rmToBytes (l : Launch) (Z : State) (a0 : Array Value) (hw : ∀ d ∈ tables_1, d.before a0 Z = true) (ws : List Jvm.Cond) (c0 : Int32) (h0 : Heap) (n0 : Nat) (Z0 : n0 ≤ h0.size)  :
    MetFree l (⟨"java/lang/StringLatin1", "toBytes", "(C)[B"⟩ : MethodName) (head1 (Jvm.Cond.code (⟨"java/lang/StringLatin1", "toBytes", "(C)[B"⟩ : MethodName) jdk_43_method_46_code 1 (some (.array .byte)) :: ws) ({ frames := 0, cells := 1, slots := 1, locals := 0 } : Room)) (fun as' U => as' = #[(.int c0)] ∧ Z.Warmed39 U.vm ∧ U.heap = h0) (fun _ _ _ _ _ => True) (fun _ U o U' => ∃ v L, o = .returned v ∧ Q_rmToBytes Z c0 h0 n0 v U'.heap L ∧ FrameEnd U o U' L ({ frames := 0, cells := 1, slots := 1, locals := 0 } : Room).cells ({ frames := 0, cells := 1, slots := 1, locals := 0 } : Room).slots) := by
  refine MetFree.of_bodySF (plainFor_of_name pn_23) hisR ?_
  intro p e s m args below meth c s₁ Bd hml0 hP hK
  obtain ⟨rfl, hZ, hh⟩ := hP
  have hx := Bd.exec
  have hby := Bd.bytes
  have hml : c.maxLocals = 1 := hml0
  have hown : s.vm.findClass "java/lang/StringLatin1" = some m.cls := findClass_of_methodNamed Bd.named
  have hnm := (name_of_methodNamed Bd.named Bd.method).1
  have X0 : Stand p l e ({ frames := 0, cells := 1, slots := 1, locals := 0 } : Room) s m #[(.int c0)] below meth c s₁ [] 0 0 := Stand.of_body Bd
  have e0 : s₁.heap = h0 := by rw [← hh, Bd.state]; rfl
  have N0 := Fr.nil n0
  refine Go.enter (F := EndN s (Q_rmToBytes Z c0 h0 n0) ({ frames := 0, cells := 1, slots := 1, locals := 0 } : Room).cells ({ frames := 0, cells := 1, slots := 1, locals := 0 } : Room).slots) (ef_2 m c0) ?_
  show Go _ _ _ _ s₁ (mkF m 0 #[.val (.int c0)] [])
  refine Go.by (fun _ gk => XT.iconstV X0.here hx rfl (1 : Int32) (hb hby d14_0) (by decide) gk) ?_
  show Go _ _ _ _ s₁ (mkF m 1 #[.val (.int c0)] [(.int (1 : Int32))])
  obtain ⟨da, g1⟩ : ∃ z, z = h0.size := ⟨_, rfl⟩
  have ge_da : n0 ≤ da := Nat.le_trans Z0 (Nat.le_of_eq g1.symm)
  have sz_da : h0.size ≤ da := Nat.le_trans (Keep.refl h0 []).1 (Nat.le_of_eq g1.symm)
  obtain ⟨T1, h1, k1, X1, e1, E1, A1, Ea1, st1⟩ := newPE X0 hx hZ (hw _ (List.mem_of_getElem? (i := 25) rfl)) e0 (g := (mkF m 1 #[.val (.int c0)] [(.int (1 : Int32))])) rfl (hb hby d14_1) rfl (by decide) (cap := 1) (by decide) (by decide) (by decide) (by decide) (ad := "[B") rfl
  rw [← g1] at A1 Ea1 st1
  have V_da : Arv Z h1 da k1 .byte (1 : Int32) [(.int (0 : Int32))] (.int (0 : Int32)) := (Arv.new A1 (by decide)).pad (pad_rep [] (.int (0 : Int32)) 1)
  refine Go.by st1 ?_
  show Go _ _ _ _ T1 (mkF m 3 #[.val (.int c0)] [(.ref da)])
  refine Go.by (fun _ gk => XS.dup X1.here hx rfl (hb hby d14_3) rfl rfl gk) ?_
  show Go _ _ _ _ T1 (mkF m 4 #[.val (.int c0)] [(.ref da), (.ref da)])
  refine Go.by (fun _ gk => XT.iconstV X1.here hx rfl (0 : Int32) (hb hby d14_4) (by decide) gk) ?_
  show Go _ _ _ _ T1 (mkF m 5 #[.val (.int c0)] [(.int (0 : Int32)), (.ref da), (.ref da)])
  refine Go.by (fun _ gk => XS.iloadN X1.here hx rfl (hb hby d14_5) rfl gk) ?_
  show Go _ _ _ _ T1 (mkF m 6 #[.val (.int c0)] [(.int c0), (.int (0 : Int32)), (.ref da), (.ref da)])
  refine Go.by (fun _ gk => XT.i2b X1.here hx rfl (hb hby d14_6) rfl gk) ?_
  show Go _ _ _ _ T1 (mkF m 7 #[.val (.int c0)] [(.int (c0.toInt8.toInt32)), (.int (0 : Int32)), (.ref da), (.ref da)])
  obtain ⟨cl2, Ar2, q2, S2, M2, H2, G2⟩ := id V_da
  have hin2 : ¬ ((0 : Int32) < 0 ∨ cl2.slots.size ≤ (0 : Int32).toNatClampNeg) := inb_of S2 ⟨by decide, by decide⟩
  obtain ⟨T2, h2, X2, e2, W2, st2⟩ := stB X1 hx hZ e1 Ar2 (j := (0 : Int32)) hin2 (g := (mkF m 7 #[.val (.int c0)] [(.int (c0.toInt8.toInt32)), (.int (0 : Int32)), (.ref da), (.ref da)])) rfl rfl (hb hby d14_7)
  have N2 := Fr.snoc X2 N0 ge_da
  have V2 : Arv Z h2 da k1 .byte (1 : Int32) [(.int (nar .byte (c0.toInt8.toInt32)))] (.int (0 : Int32)) := Arv.set Ar2 q2 S2 M2 H2 G2 (fits_nar_byte _) W2 0 rfl (Nat.le_of_ble_eq_true rfl)
  refine Go.by st2 ?_
  show Go _ _ _ _ T2 (mkF m 8 #[.val (.int c0)] [(.ref da)])
  rw [own_bn] at V2
  have F3 : Keep h0 h1 [] := (Keep.refl h0 []).ext E1
  have F4 : Keep h0 h2 [] := F3.wr W2 (Or.inr sz_da)
  exact Go.retA X2 hx Bd.notSynchronized Bd.returns rfl rfl (hb hby d14_8) (by rw [e2]; exact ⟨da, k1, rfl, N2, F4, V2, sz_da⟩) (by decide) (by decide)
theorem pn_38 : plainName "java/lang/String" = true := by first | (simp [plainName, overriddenIn]; done) | decide +kernel
theorem ef_39 (m : MethodId) (x0 : Addr) (x1 : Addr) (x2 : Int32) : entryFrame m #[(.ref x0), (.ref x1), (.int x2)] 3 = mkF m 0 #[.val (.ref x0), .val (.ref x1), .val (.int x2)] [] := by (first | (simp [entryFrame, mkF, argsToLocals, Value.category]; done) | rfl)
theorem d15_0 : decode jdk_42_method_151_code 0 = .ok (.aload_n 0, 1) := by decide +kernel
theorem d15_1 : decode jdk_42_method_151_code 1 = .ok (.invokespecial 1, 3) := by decide +kernel
theorem d15_4 : decode jdk_42_method_151_code 4 = .ok (.aload_n 0, 1) := by decide +kernel
theorem d15_5 : decode jdk_42_method_151_code 5 = .ok (.aload_n 1, 1) := by decide +kernel
theorem d15_6 : decode jdk_42_method_151_code 6 = .ok (.putfield 9, 3) := by decide +kernel
theorem d15_9 : decode jdk_42_method_151_code 9 = .ok (.aload_n 0, 1) := by decide +kernel
theorem d15_10 : decode jdk_42_method_151_code 10 = .ok (.iload_n 2, 1) := by decide +kernel
theorem d15_11 : decode jdk_42_method_151_code 11 = .ok (.putfield 15, 3) := by decide +kernel
theorem d15_14 : decode jdk_42_method_151_code 14 = .ok (.return_, 1) := by decide +kernel
def Q_rmSBB (Z : State) (a : Addr) (b : Addr) (h0 : Heap) (n0 : Nat) (v : Option Value) (h : Heap) (L : List Loc) : Prop := v = none ∧ Fr n0 L ∧ Keep h0 h [a] ∧ Exa Z h a "java/lang/String" ∧ Fld Z h a "java/lang/String" "coder" "B" (.int (0 : Int32)) ∧ Fld Z h a "java/lang/String" "value" "[B" (.ref b)
set_option maxRecDepth 65536 in
set_option maxHeartbeats 40000000 in
theorem rmSBB (l : Launch) (Z : State) (a0 : Array Value) (hw : ∀ d ∈ tables_1, d.before a0 Z = true) (ws : List Jvm.Cond) (a : Addr) (b : Addr) (h0 : Heap) (n0 : Nat) (Z0 : n0 ≤ h0.size) (E_a : Exa Z h0 a "java/lang/String") (F_a_value : Fld Z h0 a "java/lang/String" "value" "[B" .null) (F_a_coder : Fld Z h0 a "java/lang/String" "coder" "B" (.int (0 : Int32))) (g_a : n0 ≤ a) :
    MetFree l (⟨"java/lang/String", "<init>", "([BB)V"⟩ : MethodName) (head1 (Jvm.Cond.code (⟨"java/lang/String", "<init>", "([BB)V"⟩ : MethodName) jdk_42_method_151_code 3 none :: ws) ({ frames := 1, cells := 0, slots := 0, locals := 12 } : Room)) (fun as' U => as' = #[(.ref a), (.ref b), (.int (0 : Int32))] ∧ Z.Warmed39 U.vm ∧ U.heap = h0) (fun _ _ _ _ _ => True) (fun _ U o U' => ∃ v L, o = .returned v ∧ Q_rmSBB Z a b h0 n0 v U'.heap L ∧ FrameEnd U o U' L ({ frames := 1, cells := 0, slots := 0, locals := 12 } : Room).cells ({ frames := 1, cells := 0, slots := 0, locals := 12 } : Room).slots) := by
  refine MetFree.of_bodySF (plainFor_of_name pn_38) hisR ?_
  intro p e s m args below meth c s₁ Bd hml0 hP hK
  obtain ⟨rfl, hZ, hh⟩ := hP
  have hx := Bd.exec
  have hby := Bd.bytes
  have hml : c.maxLocals = 3 := hml0
  have hown : s.vm.findClass "java/lang/String" = some m.cls := findClass_of_methodNamed Bd.named
  have hnm := (name_of_methodNamed Bd.named Bd.method).1
  have X0 : Stand p l e ({ frames := 1, cells := 0, slots := 0, locals := 12 } : Room) s m #[(.ref a), (.ref b), (.int (0 : Int32))] below meth c s₁ [] 0 0 := Stand.of_body Bd
  have e0 : s₁.heap = h0 := by rw [← hh, Bd.state]; rfl
  have N0 := Fr.nil n0
  refine Go.enter (F := EndN s (Q_rmSBB Z a b h0 n0) ({ frames := 1, cells := 0, slots := 0, locals := 12 } : Room).cells ({ frames := 1, cells := 0, slots := 0, locals := 12 } : Room).slots) (ef_39 m a b (0 : Int32)) ?_
  show Go _ _ _ _ s₁ (mkF m 0 #[.val (.ref a), .val (.ref b), .val (.int (0 : Int32))] [])
  refine Go.by (fun _ gk => XS.aloadN X0.here hx rfl (hb hby d15_0) rfl rfl gk) ?_
  show Go _ _ _ _ s₁ (mkF m 1 #[.val (.ref a), .val (.ref b), .val (.int (0 : Int32))] [(.ref a)])
  obtain ⟨T1, X1, e1, st1⟩ := initO X0 hx hZ hown (hw _ (List.mem_of_getElem? (i := 21) rfl)) (hw _ (List.mem_of_getElem? (i := 22) rfl)) (hw _ (List.mem_of_getElem? (i := 23) rfl)) e0 (g := (mkF m 1 #[.val (.ref a), .val (.ref b), .val (.int (0 : Int32))] [(.ref a)])) rfl (by rw [hml]; rfl) rfl (hb hby d15_1) (by decide) (W := 0) (by show 2 * 0 + _ ≤ _; exact Nat.le_of_eq rfl) (by decide)
  refine Go.by st1 ?_
  show Go _ _ _ _ T1 (mkF m 4 #[.val (.ref a), .val (.ref b), .val (.int (0 : Int32))] [])
  refine Go.by (fun _ gk => XS.aloadN X1.here hx rfl (hb hby d15_4) rfl rfl gk) ?_
  show Go _ _ _ _ T1 (mkF m 5 #[.val (.ref a), .val (.ref b), .val (.int (0 : Int32))] [(.ref a)])
  refine Go.by (fun _ gk => XS.aloadN X1.here hx rfl (hb hby d15_5) rfl rfl gk) ?_
  show Go _ _ _ _ T1 (mkF m 6 #[.val (.ref a), .val (.ref b), .val (.int (0 : Int32))] [(.ref b), (.ref a)])
  obtain ⟨T2, h2, X2, e2, W2, st2⟩ := putF X1 hx hZ hown (host := "") (Or.inl (hw _ (List.mem_of_getElem? (i := 30) rfl))) Via.refl e1 F_a_value E_a (Or.inr ⟨(hw _ (List.mem_of_getElem? (i := 26) rfl)), rfl, hnm⟩) (hw _ (List.mem_of_getElem? (i := 11) rfl)) (ty := (.array .byte)) (by decide) rfl rfl (g := (mkF m 6 #[.val (.ref a), .val (.ref b), .val (.int (0 : Int32))] [(.ref b), (.ref a)])) rfl rfl (hb hby d15_6)
  have N2 := Fr.snoc X2 N0 g_a
  have Fw2 : Fld Z h2 a "java/lang/String" "value" "[B" (.ref b) := F_a_value.same W2
  refine Go.by st2 ?_
  show Go _ _ _ _ T2 (mkF m 9 #[.val (.ref a), .val (.ref b), .val (.int (0 : Int32))] [])
  refine Go.by (fun _ gk => XS.aloadN X2.here hx rfl (hb hby d15_9) rfl rfl gk) ?_
  show Go _ _ _ _ T2 (mkF m 10 #[.val (.ref a), .val (.ref b), .val (.int (0 : Int32))] [(.ref a)])
  refine Go.by (fun _ gk => XS.iloadN X2.here hx rfl (hb hby d15_10) rfl gk) ?_
  show Go _ _ _ _ T2 (mkF m 11 #[.val (.ref a), .val (.ref b), .val (.int (0 : Int32))] [(.int (0 : Int32)), (.ref a)])
  have F3 : Fld Z h2 a "java/lang/String" "coder" "B" (.int (0 : Int32)) := F_a_coder.other W2 (Or.inr (slot_ne (Or.inr (hw _ (List.mem_of_getElem? (i := 27) rfl))) (Or.inr (hw _ (List.mem_of_getElem? (i := 26) rfl))) (by decide) (t := .byte) (t' := (.array .byte)) (by decide) (by decide)))
  have F4 : Exa Z h2 a "java/lang/String" := E_a.wr W2
  obtain ⟨T5, h5, X5, e5, W5, st5⟩ := putFN X2 hx hZ hown (hw _ (List.mem_of_getElem? (i := 31) rfl)) Via.refl e2 F3 F4 (Or.inr ⟨(hw _ (List.mem_of_getElem? (i := 27) rfl)), rfl, hnm⟩) (hw _ (List.mem_of_getElem? (i := 11) rfl)) (ty := .byte) (v' := (.int (0 : Int32))) (by decide) rfl rfl (g := (mkF m 11 #[.val (.ref a), .val (.ref b), .val (.int (0 : Int32))] [(.int (0 : Int32)), (.ref a)])) rfl rfl (hb hby d15_11)
  have N5 := Fr.snoc X5 N2 g_a
  have Fw5 : Fld Z h5 a "java/lang/String" "coder" "B" (.int (0 : Int32)) := F3.same W5
  refine Go.by st5 ?_
  show Go _ _ _ _ T5 (mkF m 14 #[.val (.ref a), .val (.ref b), .val (.int (0 : Int32))] [])
  have F6 : Keep h0 h2 [a] := (Keep.refl h0 [a]).wr W2 (Or.inl (List.mem_of_getElem? (i := 0) rfl))
  have F7 : Keep h0 h5 [a] := F6.wr W5 (Or.inl (List.mem_of_getElem? (i := 0) rfl))
  have F8 : Exa Z h5 a "java/lang/String" := F4.wr W5
  have F9 : Fld Z h5 a "java/lang/String" "value" "[B" (.ref b) := Fw2.other W5 (Or.inr (slot_ne (Or.inr (hw _ (List.mem_of_getElem? (i := 26) rfl))) (Or.inr (hw _ (List.mem_of_getElem? (i := 27) rfl))) (by decide) (t := (.array .byte)) (t' := .byte) (by decide) (by decide)))
  exact Go.retV X5 hx Bd.notSynchronized Bd.returns (hb hby d15_14) (by rw [e5]; exact ⟨rfl, N5, F7, F8, Fw5, F9⟩) (by decide) (by decide)
theorem d12_0 : decode jdk_42_method_139_code 0 = .ok (.getstatic 38, 3) := by decide +kernel
theorem d12_3 : decode jdk_42_method_139_code 3 = .ok (.ifCond .eq 23, 3) := by decide +kernel
theorem d12_6 : decode jdk_42_method_139_code 6 = .ok (.iload_n 0, 1) := by decide +kernel
theorem pd_52 : parseMethodDescriptor "(C)Z" = some ⟨[.char], some .boolean⟩ := by decide +kernel
theorem d12_7 : decode jdk_42_method_139_code 7 = .ok (.invokestatic 1015, 3) := by decide +kernel
theorem d12_10 : decode jdk_42_method_139_code 10 = .ok (.ifCond .eq 16, 3) := by decide +kernel
theorem d12_13 : decode jdk_42_method_139_code 13 = .ok (.new 10, 3) := by decide +kernel
theorem d12_16 : decode jdk_42_method_139_code 16 = .ok (.dup, 1) := by decide +kernel
theorem d12_17 : decode jdk_42_method_139_code 17 = .ok (.iload_n 0, 1) := by decide +kernel
theorem pd_58 : parseMethodDescriptor "(C)[B" = some ⟨[.char], some (.array .byte)⟩ := by decide +kernel
theorem d12_18 : decode jdk_42_method_139_code 18 = .ok (.invokestatic 1018, 3) := by decide +kernel
theorem d12_21 : decode jdk_42_method_139_code 21 = .ok (.iconst 0, 1) := by decide +kernel
theorem pd_61 : parseMethodDescriptor "([BB)V" = some ⟨[(.array .byte), .byte], none⟩ := by decide +kernel
theorem d12_22 : decode jdk_42_method_139_code 22 = .ok (.invokespecial 209, 3) := by decide +kernel
theorem d12_25 : decode jdk_42_method_139_code 25 = .ok (.areturn, 1) := by decide +kernel
def Q_rmVof (Z : State) (c0 : Int32) (cs : Int32) (h0 : Heap) (n0 : Nat) (v : Option Value) (h : Heap) (L : List Loc) : Prop := ∃ st : Addr, ∃ sb : Addr, ∃ kb : ClassId, v = some (.ref st) ∧ Fr n0 L ∧ Keep h0 h [] ∧ Exa Z h st "java/lang/String" ∧ Fld Z h st "java/lang/String" "coder" "B" (.int (0 : Int32)) ∧ Fld Z h st "java/lang/String" "value" "[B" (.ref sb) ∧ Arv Z h sb kb .byte (1 : Int32) ([(.int (own_b c0))]) (.int (0 : Int32)) ∧ h0.size ≤ st
set_option maxRecDepth 65536 in
set_option maxHeartbeats 40000000 in
theorem rmVof (l : Launch) (Z : State) (a0 : Array Value) (hw : ∀ d ∈ tables_1, d.before a0 Z = true) (ws : List Jvm.Cond) (c0 : Int32) (cs : Int32) (h0 : Heap) (n0 : Nat) (Z0 : n0 ≤ h0.size) (O0 : Old Z n0 h0) (hc0 : (¬ (255 : Int32) < c0)) (S_cs : Sta Z Z.heap "java/lang/String" "COMPACT_STRINGS" "Z" (.int cs)) (n_cs : ¬ cs = 0) :
    MetFree l (⟨"java/lang/String", "valueOf", "(C)Ljava/lang/String;"⟩ : MethodName) (head1 (Jvm.Cond.code (⟨"java/lang/String", "valueOf", "(C)Ljava/lang/String;"⟩ : MethodName) jdk_42_method_139_code 1 (some (.object "java/lang/String")) :: ws) ({ frames := 2, cells := 2, slots := 5, locals := 27 } : Room)) (fun as' U => as' = #[(.int c0)] ∧ Z.Warmed39 U.vm ∧ U.heap = h0) (fun _ _ _ _ _ => True) (fun _ U o U' => ∃ v L, o = .returned v ∧ Q_rmVof Z c0 cs h0 n0 v U'.heap L ∧ FrameEnd U o U' L ({ frames := 2, cells := 2, slots := 5, locals := 27 } : Room).cells ({ frames := 2, cells := 2, slots := 5, locals := 27 } : Room).slots) := by
  refine MetFree.of_bodySF (plainFor_of_name pn_38) hisR ?_
  intro p e s m args below meth c s₁ Bd hml0 hP hK
  obtain ⟨rfl, hZ, hh⟩ := hP
  have hx := Bd.exec
  have hby := Bd.bytes
  have hml : c.maxLocals = 1 := hml0
  have hown : s.vm.findClass "java/lang/String" = some m.cls := findClass_of_methodNamed Bd.named
  have hnm := (name_of_methodNamed Bd.named Bd.method).1
  have X0 : Stand p l e ({ frames := 2, cells := 2, slots := 5, locals := 27 } : Room) s m #[(.int c0)] below meth c s₁ [] 0 0 := Stand.of_body Bd
  have e0 : s₁.heap = h0 := by rw [← hh, Bd.state]; rfl
  have N0 := Fr.nil n0
  refine Go.enter (F := EndN s (Q_rmVof Z c0 cs h0 n0) ({ frames := 2, cells := 2, slots := 5, locals := 27 } : Room).cells ({ frames := 2, cells := 2, slots := 5, locals := 27 } : Room).slots) (ef_2 m c0) ?_
  show Go _ _ _ _ s₁ (mkF m 0 #[.val (.int c0)] [])
  have F1 : Sta Z h0 "java/lang/String" "COMPACT_STRINGS" "Z" (.int cs) := S_cs.ext O0.2
  obtain ⟨T2, X2, e2, st2⟩ := getS2 X0 hx hZ hown (host := "") (Or.inl (hw _ (List.mem_of_getElem? (i := 46) rfl))) Via.refl e0 F1 (g := (mkF m 0 #[.val (.int c0)] [])) rfl (hb hby d12_0)
  refine Go.by st2 ?_
  show Go _ _ _ _ T2 (mkF m 3 #[.val (.int c0)] [(.int cs)])
  refine Go.by (fun _ gk => XS.ifNo X2.here hx rfl (hb hby d12_3) rfl (XT.i0_eq_f n_cs) gk) ?_
  show Go _ _ _ _ T2 (mkF m 6 #[.val (.int c0)] [])
  refine Go.by (fun _ gk => XS.iloadN X2.here hx rfl (hb hby d12_6) rfl gk) ?_
  show Go _ _ _ _ T2 (mkF m 7 #[.val (.int c0)] [(.int c0)])
  obtain ⟨_, _, ⟨T3, L3, k3, n3⟩, -, X3, ⟨Lc3, hQ3, l3, y3, z3⟩, st3⟩ := Jvm.LawKit.callS X2 hx (y := (⟨"java/lang/StringLatin1", "canEncode", "(C)Z"⟩ : MethodName)) hown (mvT hZ (hw _ (List.mem_of_getElem? (i := 60) rfl))) (mvT hZ (hw _ (List.mem_of_getElem? (i := 61) rfl))) (mvT hZ (hw _ (List.mem_of_getElem? (i := 62) rfl))) (mvT hZ (hw _ (List.mem_of_getElem? (i := 63) rfl))) (by decide) (backOf (W := 0) (rmCan l Z a0 hw [] c0 h0 n0 Z0 hc0) hZ (hw _ (List.mem_of_getElem? (i := 63) rfl)) (hw _ (List.mem_of_getElem? (i := 62) rfl)) (by decide) (by decide)) (g := (mkF m 7 #[.val (.int c0)] [(.int c0)])) rfl (by rw [hml]; rfl) (argsL := [(.int c0)]) (rest := []) (lenOf pd_52 rfl) rfl (by show 2 * 0 + _ ≤ _; exact Nat.le_of_eq rfl) (hb hby d12_7) (fun _ _ => ⟨rfl, e2, (by decide : 0 + 0 ≤ _), (by decide : 0 + 0 ≤ _)⟩)
  dsimp only [Pt.U, Pt.locs, Pt.cells, Pt.slots] at X3 l3 y3 z3 st3 hQ3
  subst l3 y3 z3
  obtain ⟨rfl, N3q, e3⟩ := hQ3
  have N3 := Fr.app N0 N3q
  refine Go.by st3 ?_
  show Go _ _ _ _ T3 (mkF m 10 #[.val (.int c0)] [(.int (1 : Int32))])
  refine Go.by (fun _ gk => XS.ifNo X3.here hx rfl (hb hby d12_10) rfl (XT.i0_eq_f (by decide)) gk) ?_
  show Go _ _ _ _ T3 (mkF m 13 #[.val (.int c0)] [])
  obtain ⟨st, g4⟩ : ∃ z, z = h0.size := ⟨_, rfl⟩
  have ge_st : n0 ≤ st := Nat.le_trans Z0 (Nat.le_of_eq g4.symm)
  have sz_st : h0.size ≤ st := Nat.le_trans (Keep.refl h0 []).1 (Nat.le_of_eq g4.symm)
  obtain ⟨T4, h4, X4, e4, E4, A4, D4, -, st4⟩ := newO X3 hx hZ hown (hw _ (List.mem_of_getElem? (i := 64) rfl)) (hw _ (List.mem_of_getElem? (i := 11) rfl)) (hw _ (List.mem_of_getElem? (i := 12) rfl)) e3 (g := (mkF m 13 #[.val (.int c0)] [])) rfl (hb hby d12_13) (by decide) (by decide)
  rw [← g4] at A4 D4 st4
  have F_value_st : Fld Z h4 st "java/lang/String" "value" "[B" .null := D4 (Or.inr (hw _ (List.mem_of_getElem? (i := 26) rfl))) (ty := (.array .byte)) (by decide)
  have F_coder_st : Fld Z h4 st "java/lang/String" "coder" "B" (.int (0 : Int32)) := D4 (Or.inr (hw _ (List.mem_of_getElem? (i := 27) rfl))) (ty := .byte) (by decide)
  refine Go.by st4 ?_
  show Go _ _ _ _ T4 (mkF m 16 #[.val (.int c0)] [(.ref st)])
  refine Go.by (fun _ gk => XS.dup X4.here hx rfl (hb hby d12_16) rfl rfl gk) ?_
  show Go _ _ _ _ T4 (mkF m 17 #[.val (.int c0)] [(.ref st), (.ref st)])
  refine Go.by (fun _ gk => XS.iloadN X4.here hx rfl (hb hby d12_17) rfl gk) ?_
  show Go _ _ _ _ T4 (mkF m 18 #[.val (.int c0)] [(.int c0), (.ref st), (.ref st)])
  have F5 : n0 ≤ h4.size := Nat.le_trans Z0 E4.1
  have F6 : Keep h0 h4 [] := (Keep.refl h0 []).ext E4
  obtain ⟨_, _, ⟨T7, L7, k7, n7⟩, -, X7, ⟨Lc7, hQ7, l7, y7, z7⟩, st7⟩ := Jvm.LawKit.callS X4 hx (y := (⟨"java/lang/StringLatin1", "toBytes", "(C)[B"⟩ : MethodName)) hown (mvT hZ (hw _ (List.mem_of_getElem? (i := 65) rfl))) (mvT hZ (hw _ (List.mem_of_getElem? (i := 66) rfl))) (mvT hZ (hw _ (List.mem_of_getElem? (i := 62) rfl))) (mvT hZ (hw _ (List.mem_of_getElem? (i := 67) rfl))) (by decide) (backOf (W := 2) (rmToBytes l Z a0 hw [] c0 h4 n0 F5 ) hZ (hw _ (List.mem_of_getElem? (i := 67) rfl)) (hw _ (List.mem_of_getElem? (i := 62) rfl)) (by decide) (by decide)) (g := (mkF m 18 #[.val (.int c0)] [(.int c0), (.ref st), (.ref st)])) rfl (by rw [hml]; rfl) (argsL := [(.int c0)]) (rest := [(.ref st), (.ref st)]) (lenOf pd_58 rfl) rfl (by show 2 * 0 + _ ≤ _; exact Nat.le_of_eq rfl) (hb hby d12_18) (fun _ _ => ⟨rfl, e4, (by decide : 1 + 1 ≤ _), (by decide : 4 + 1 ≤ _)⟩)
  dsimp only [Pt.U, Pt.locs, Pt.cells, Pt.slots] at X7 l7 y7 z7 st7 hQ7
  subst l7 y7 z7
  obtain ⟨sb, kb, rfl, N7q, K7, Q7_0, Q7_1⟩ := hQ7
  have N7 := Fr.app N3 N7q
  refine Go.by st7 ?_
  show Go _ _ _ _ T7 (mkF m 21 #[.val (.int c0)] [(.ref sb), (.ref st), (.ref st)])
  have ge_sb : n0 ≤ sb := Nat.le_trans F5 Q7_1
  have sz_sb : h0.size ≤ sb := Nat.le_trans F6.1 Q7_1
  have ne_st_sb : st ≠ sb := Nat.ne_of_lt (Nat.lt_of_lt_of_le A4.lt Q7_1)
  refine Go.by (fun _ gk => XT.iconstV X7.here hx rfl (0 : Int32) (hb hby d12_21) (by decide) gk) ?_
  show Go _ _ _ _ T7 (mkF m 22 #[.val (.int c0)] [(.int (0 : Int32)), (.ref sb), (.ref st), (.ref st)])
  have F8 : Exa Z T7.heap st "java/lang/String" := A4.keep K7
  have F9 : Fld Z T7.heap st "java/lang/String" "value" "[B" .null := F_value_st.keep K7 nin0
  have F10 : Fld Z T7.heap st "java/lang/String" "coder" "B" (.int (0 : Int32)) := F_coder_st.keep K7 nin0
  have F11 : n0 ≤ T7.heap.size := Nat.le_trans F5 K7.1
  obtain ⟨_, _, ⟨T12, L12, k12, n12⟩, -, X12, ⟨Lc12, hQ12, l12, y12, z12⟩, st12⟩ := X7.specialBack hx (y := (⟨"java/lang/String", "<init>", "([BB)V"⟩ : MethodName)) rfl hown (mvT hZ (hw _ (List.mem_of_getElem? (i := 68) rfl))) (mvT hZ (hw _ (List.mem_of_getElem? (i := 69) rfl))) (mvT hZ (hw _ (List.mem_of_getElem? (i := 70) rfl))) (by decide) (backOf (W := 1) (rmSBB l Z a0 hw [] st sb T7.heap n0 F11 F8 F9 F10 ge_st) hZ (hw _ (List.mem_of_getElem? (i := 70) rfl)) (hw _ (List.mem_of_getElem? (i := 12) rfl)) (by decide) (by decide)) (g := (mkF m 22 #[.val (.int c0)] [(.int (0 : Int32)), (.ref sb), (.ref st), (.ref st)])) rfl (by rw [hml]; rfl) (Steps.refl _) (a := st) (argsL := [(.ref sb), (.int (0 : Int32))]) (rest := [(.ref st)]) (lenOf pd_61 rfl) rfl (by show 2 * 0 + _ ≤ _; exact Nat.le_of_eq rfl) (hb hby d12_22) (fun _ _ => ⟨rfl, rfl, (by decide : 2 + 0 ≤ _), (by decide : 5 + 0 ≤ _)⟩)
  dsimp only [Pt.U, Pt.locs, Pt.cells, Pt.slots] at X12 l12 y12 z12 st12 hQ12
  subst l12 y12 z12
  obtain ⟨rfl, N12q, K12, Q12_0, Q12_1, Q12_2⟩ := hQ12
  have N12 := Fr.app N7 N12q
  refine Go.to st12 ?_
  show Go _ _ _ _ T12 (mkF m 25 #[.val (.int c0)] [(.ref st)])
  have F13 : Keep h0 T7.heap [] := F6.trans K7 all0
  have F14 : Keep h0 T12.heap [] := F13.trans K12 (allS (Or.inr sz_st) all0)
  have F15 : Arv Z T12.heap sb kb .byte (1 : Int32) [(.int (own_b c0))] (.int (0 : Int32)) := Q7_0.keep K12 (ninS (Ne.symm ne_st_sb) nin0)
  exact Go.retA X12 hx Bd.notSynchronized Bd.returns rfl rfl (hb hby d12_25) ⟨st, sb, kb, rfl, N12, F14, Q12_0, Q12_1, Q12_2, F15, sz_st⟩ (by decide) (by decide)
theorem ef_64 (m : MethodId) (x0 : Int32) : entryFrame m #[(.int x0)] 2 = mkF m 0 #[.val (.int x0), .unset] [] := by (first | (simp [entryFrame, mkF, argsToLocals, Value.category]; done) | rfl)
theorem d1_0 : decode method_5_code 0 = .ok (.iload_n 0, 1) := by decide +kernel
theorem pd_66 : parseMethodDescriptor "(I)I" = some ⟨[.int], some .int⟩ := by decide +kernel
theorem d1_1 : decode method_5_code 1 = .ok (.invokestatic 7, 3) := by decide +kernel
theorem d1_4 : decode method_5_code 4 = .ok (.istore_n 1, 1) := by decide +kernel
theorem d1_5 : decode method_5_code 5 = .ok (.iload_n 1, 1) := by decide +kernel
theorem d1_6 : decode method_5_code 6 = .ok (.ifCond .ne 14, 3) := by decide +kernel
theorem d1_9 : decode method_5_code 9 = .ok (.new 13, 3) := by decide +kernel
theorem d1_12 : decode method_5_code 12 = .ok (.dup, 1) := by decide +kernel
theorem d1_13 : decode method_5_code 13 = .ok (.iconst 0, 1) := by decide +kernel
theorem d1_14 : decode method_5_code 14 = .ok (.newarray .char, 2) := by decide +kernel
theorem ef_75 (m : MethodId) (x0 : Addr) (x1 : Addr) (x2 : Int32) (x3 : Int32) : entryFrame m #[(.ref x0), (.ref x1), (.int x2), (.int x3), .null] 6 = mkF m 0 #[.val (.ref x0), .val (.ref x1), .val (.int x2), .val (.int x3), .val .null, .unset] [] := by (first | (simp [entryFrame, mkF, argsToLocals, Value.category]; done) | rfl)
theorem d4_0 : decode jdk_42_method_149_code 0 = .ok (.aload_n 0, 1) := by decide +kernel
theorem d4_1 : decode jdk_42_method_149_code 1 = .ok (.invokespecial 1, 3) := by decide +kernel
theorem d4_4 : decode jdk_42_method_149_code 4 = .ok (.iload_n 3, 1) := by decide +kernel
theorem d4_5 : decode jdk_42_method_149_code 5 = .ok (.ifCond .ne 22, 3) := by decide +kernel
theorem d4_8 : decode jdk_42_method_149_code 8 = .ok (.aload_n 0, 1) := by decide +kernel
theorem d4_9 : decode jdk_42_method_149_code 9 = .ok (.ldc 7, 2) := by decide +kernel
theorem d4_11 : decode jdk_42_method_149_code 11 = .ok (.getfield 9, 3) := by decide +kernel
theorem d4_14 : decode jdk_42_method_149_code 14 = .ok (.putfield 9, 3) := by decide +kernel
theorem d4_17 : decode jdk_42_method_149_code 17 = .ok (.aload_n 0, 1) := by decide +kernel
theorem d4_18 : decode jdk_42_method_149_code 18 = .ok (.ldc 7, 2) := by decide +kernel
theorem d4_20 : decode jdk_42_method_149_code 20 = .ok (.getfield 15, 3) := by decide +kernel
theorem d4_23 : decode jdk_42_method_149_code 23 = .ok (.putfield 15, 3) := by decide +kernel
theorem d4_26 : decode jdk_42_method_149_code 26 = .ok (.return_, 1) := by decide +kernel
def Q_rmS4_e (Z : State) (a : Addr) (va : Addr) (h0 : Heap) (n0 : Nat) (v : Option Value) (h : Heap) (L : List Loc) : Prop := ∃ b : Addr, ∃ kb : ClassId, v = none ∧ Fr n0 L ∧ Keep h0 h [a] ∧ Exa Z h a "java/lang/String" ∧ Fld Z h a "java/lang/String" "coder" "B" (.int (0 : Int32)) ∧ Fld Z h a "java/lang/String" "value" "[B" (.ref b) ∧ Arv Z h b kb .byte (0 : Int32) ([]) (.int (0 : Int32))
set_option maxRecDepth 65536 in
set_option maxHeartbeats 40000000 in
theorem rmS4_e (l : Launch) (Z : State) (a0 : Array Value) (hw : ∀ d ∈ tables_1, d.before a0 Z = true) (ws : List Jvm.Cond) (a : Addr) (va : Addr) (h0 : Heap) (n0 : Nat) (Z0 : n0 ≤ h0.size) (O0 : Old Z n0 h0) (E_a : Exa Z h0 a "java/lang/String") (F_a_value : Fld Z h0 a "java/lang/String" "value" "[B" .null) (F_a_coder : Fld Z h0 a "java/lang/String" "coder" "B" (.int (0 : Int32))) (g_a : n0 ≤ a) :
    MetFree l (⟨"java/lang/String", "<init>", "([CIILjava/lang/Void;)V"⟩ : MethodName) (head1 (Jvm.Cond.code (⟨"java/lang/String", "<init>", "([CIILjava/lang/Void;)V"⟩ : MethodName) jdk_42_method_149_code 6 none :: ws) ({ frames := 1, cells := 4, slots := 8, locals := 12 } : Room)) (fun as' U => as' = #[(.ref a), (.ref va), (.int (0 : Int32)), (.int (0 : Int32)), .null] ∧ Z.Warmed39 U.vm ∧ U.heap = h0 ∧ CHv Z own_EL U.vm h0) (fun _ _ _ _ _ => True) (fun _ U o U' => ∃ v L, o = .returned v ∧ Q_rmS4_e Z a va h0 n0 v U'.heap L ∧ CHr Z own_EL U.vm U.heap U'.vm U'.heap ∧ ReturnedEndW U o U' L ({ frames := 1, cells := 4, slots := 8, locals := 12 } : Room).cells ({ frames := 1, cells := 4, slots := 8, locals := 12 } : Room).slots) := by
  refine MetFree.of_bodySF (plainFor_of_name pn_38) hisR ?_
  intro p e s m args below meth c s₁ Bd hml0 hP hK
  obtain ⟨rfl, hZ, hh, hH⟩ := hP
  have hx := Bd.exec
  have hby := Bd.bytes
  have hml : c.maxLocals = 6 := hml0
  have hown : s.vm.findClass "java/lang/String" = some m.cls := findClass_of_methodNamed Bd.named
  have hnm := (name_of_methodNamed Bd.named Bd.method).1
  have X0 : Stand p l e ({ frames := 1, cells := 4, slots := 8, locals := 12 } : Room) (s.setVm s.vm) m #[(.ref a), (.ref va), (.int (0 : Int32)), (.int (0 : Int32)), .null] below meth c s₁ [] 0 0 := Stand.of_body Bd
  have e0 : s₁.heap = h0 := by rw [← hh, Bd.state]; rfl
  have N0 := Fr.nil n0
  have hS0 : s.Since s.vm s.heap.size := (State.WarmedH.refl s).since _
  have hk0 : s.heap.size ≤ h0.size := Nat.le_of_eq (by rw [hh])
  have C0 : CHr Z own_EL s.vm h0 s.vm h0 := CHr.refl hH
  have hEL := own_EW hw
  have hSA := own_SA hw
  refine Go.enter (F := EndW Z own_EL s (Q_rmS4_e Z a va h0 n0) ({ frames := 1, cells := 4, slots := 8, locals := 12 } : Room).cells ({ frames := 1, cells := 4, slots := 8, locals := 12 } : Room).slots) (ef_75 m a va (0 : Int32) (0 : Int32)) ?_
  have Sf1 : Safe Z own_EL s.vm h0 a := own_safe hZ.alike E_a F_a_value
  show Go _ _ _ _ s₁ (mkF m 0 #[.val (.ref a), .val (.ref va), .val (.int (0 : Int32)), .val (.int (0 : Int32)), .val .null, .unset] [])
  refine Go.by (fun _ gk => XS.aloadN X0.here hx rfl (hb hby d4_0) rfl rfl gk) ?_
  show Go _ _ _ _ s₁ (mkF m 1 #[.val (.ref a), .val (.ref va), .val (.int (0 : Int32)), .val (.int (0 : Int32)), .val .null, .unset] [(.ref a)])
  obtain ⟨T2, X2, e2, st2⟩ := initO X0 hx hZ hown (hw _ (List.mem_of_getElem? (i := 21) rfl)) (hw _ (List.mem_of_getElem? (i := 22) rfl)) (hw _ (List.mem_of_getElem? (i := 23) rfl)) e0 (g := (mkF m 1 #[.val (.ref a), .val (.ref va), .val (.int (0 : Int32)), .val (.int (0 : Int32)), .val .null, .unset] [(.ref a)])) rfl (by rw [hml]; rfl) rfl (hb hby d4_1) (by decide) (W := 0) (by show 2 * 0 + _ ≤ _; exact Nat.le_of_eq rfl) (by decide)
  refine Go.by st2 ?_
  show Go _ _ _ _ T2 (mkF m 4 #[.val (.ref a), .val (.ref va), .val (.int (0 : Int32)), .val (.int (0 : Int32)), .val .null, .unset] [])
  refine Go.by (fun _ gk => XS.iloadN X2.here hx rfl (hb hby d4_4) rfl gk) ?_
  show Go _ _ _ _ T2 (mkF m 5 #[.val (.ref a), .val (.ref va), .val (.int (0 : Int32)), .val (.int (0 : Int32)), .val .null, .unset] [(.int (0 : Int32))])
  refine Go.by (fun _ gk => XS.ifNo X2.here hx rfl (hb hby d4_5) rfl (XT.i0_ne_f rfl) gk) ?_
  show Go _ _ _ _ T2 (mkF m 8 #[.val (.ref a), .val (.ref va), .val (.int (0 : Int32)), .val (.int (0 : Int32)), .val .null, .unset] [])
  refine Go.by (fun _ gk => XS.aloadN X2.here hx rfl (hb hby d4_8) rfl rfl gk) ?_
  show Go _ _ _ _ T2 (mkF m 9 #[.val (.ref a), .val (.ref va), .val (.int (0 : Int32)), .val (.int (0 : Int32)), .val .null, .unset] [(.ref a)])
  obtain ⟨q1, T3, h3, kq3, q1b, k3, X3, e3, E3, hS3, hk3, hZ3, hown3, Ea3, Fc3, Fv3, Va3, -, -, CH3, -, sf3, st3⟩ := ldcCH X2 hx hZ hown (hw _ (List.mem_of_getElem? (i := 24) rfl)) hSA e2 hS0 hk0 hEL (List.mem_of_getElem? (i := 0) rfl) C0.1 (vs := []) (z := (0 : Int32)) ⟨by decide, by decide⟩ (by decide) rfl (g := (mkF m 9 #[.val (.ref a), .val (.ref va), .val (.int (0 : Int32)), .val (.int (0 : Int32)), .val .null, .unset] [(.ref a)])) rfl (hb hby d4_9) (n := 0) (by decide) (by decide) (by decide) (by decide)
  have C4 : CHr Z own_EL s.vm h0 T3.vm h3 := C0.trans CH3
  have Sf5 : Safe Z own_EL T3.vm h3 a := CH3.safe E_a.lt Sf1
  obtain ⟨ne_a_q1, ne_a_q1b⟩ := sf3 _ Sf5
  refine Go.by st3 ?_
  show Go _ _ _ _ T3 (mkF m 11 #[.val (.ref a), .val (.ref va), .val (.int (0 : Int32)), .val (.int (0 : Int32)), .val .null, .unset] [(.ref q1), (.ref a)])
  obtain ⟨T6, X6, e6, st6⟩ := getF X3 hx hZ3 hown3 (host := "") (Or.inl (hw _ (List.mem_of_getElem? (i := 30) rfl))) Via.refl e3 Fv3 (g := (mkF m 11 #[.val (.ref a), .val (.ref va), .val (.int (0 : Int32)), .val (.int (0 : Int32)), .val .null, .unset] [(.ref q1), (.ref a)])) rfl rfl (hb hby d4_11)
  refine Go.by st6 ?_
  show Go _ _ _ _ T6 (mkF m 14 #[.val (.ref a), .val (.ref va), .val (.int (0 : Int32)), .val (.int (0 : Int32)), .val .null, .unset] [(.ref q1b), (.ref a)])
  have F7 : Fld Z h3 a "java/lang/String" "value" "[B" .null := F_a_value.ext E3
  have F8 : Exa Z h3 a "java/lang/String" := E_a.ext E3
  obtain ⟨T9, h9, X9, e9, W9, st9⟩ := putF X6 hx hZ3 hown3 (host := "") (Or.inl (hw _ (List.mem_of_getElem? (i := 30) rfl))) Via.refl e6 F7 F8 (Or.inr ⟨(hw _ (List.mem_of_getElem? (i := 26) rfl)), rfl, hnm⟩) (hw _ (List.mem_of_getElem? (i := 11) rfl)) (ty := (.array .byte)) (by decide) rfl rfl (g := (mkF m 14 #[.val (.ref a), .val (.ref va), .val (.int (0 : Int32)), .val (.int (0 : Int32)), .val .null, .unset] [(.ref q1b), (.ref a)])) rfl rfl (hb hby d4_14)
  have C10 : CHr Z own_EL s.vm h0 T3.vm h9 := C4.trans (CHr.wr W9 Sf5 C4.1)
  have Sf11 : Safe Z own_EL T3.vm h9 a := Safe.wr W9 Sf5 C4.1 Sf5
  have N9 := Fr.snoc X9 N0 g_a
  have Fw9 : Fld Z h9 a "java/lang/String" "value" "[B" (.ref q1b) := F7.same W9
  refine Go.by st9 ?_
  show Go _ _ _ _ T9 (mkF m 17 #[.val (.ref a), .val (.ref va), .val (.int (0 : Int32)), .val (.int (0 : Int32)), .val .null, .unset] [])
  refine Go.by (fun _ gk => XS.aloadN X9.here hx rfl (hb hby d4_17) rfl rfl gk) ?_
  show Go _ _ _ _ T9 (mkF m 18 #[.val (.ref a), .val (.ref va), .val (.int (0 : Int32)), .val (.int (0 : Int32)), .val .null, .unset] [(.ref a)])
  have F13 : kq3 ≤ h9.size := Nat.le_trans hk3 (Nat.le_of_eq (Wr.size W9).symm)
  have F14 : Exa Z h9 a "java/lang/String" := F8.wr W9
  obtain ⟨q2, T12, h12, kq12, q2b, k12, X12, e12, E12, hS12, hk12, hZ12, hown12, Ea12, Fc12, Fv12, Va12, -, -, CH12, -, sf12, st12⟩ := ldcCH X9 hx hZ3 hown3 (hw _ (List.mem_of_getElem? (i := 24) rfl)) hSA e9 hS3 F13 hEL (List.mem_of_getElem? (i := 0) rfl) C10.1 (vs := []) (z := (0 : Int32)) ⟨by decide, by decide⟩ (by decide) rfl (g := (mkF m 18 #[.val (.ref a), .val (.ref va), .val (.int (0 : Int32)), .val (.int (0 : Int32)), .val .null, .unset] [(.ref a)])) rfl (hb hby d4_18) (n := 0) (by decide) (by decide) (by decide) (by decide)
  have C15 : CHr Z own_EL s.vm h0 T12.vm h12 := C10.trans CH12
  have Sf16 : Safe Z own_EL T12.vm h12 a := CH12.safe F14.lt Sf11
  obtain ⟨ne_a_q2, ne_a_q2b⟩ := sf12 _ Sf16
  refine Go.by st12 ?_
  show Go _ _ _ _ T12 (mkF m 20 #[.val (.ref a), .val (.ref va), .val (.int (0 : Int32)), .val (.int (0 : Int32)), .val .null, .unset] [(.ref q2), (.ref a)])
  obtain ⟨T17, X17, e17, st17⟩ := getF X12 hx hZ12 hown12 (host := "") (Or.inl (hw _ (List.mem_of_getElem? (i := 31) rfl))) Via.refl e12 Fc12 (g := (mkF m 20 #[.val (.ref a), .val (.ref va), .val (.int (0 : Int32)), .val (.int (0 : Int32)), .val .null, .unset] [(.ref q2), (.ref a)])) rfl rfl (hb hby d4_20)
  refine Go.by st17 ?_
  show Go _ _ _ _ T17 (mkF m 23 #[.val (.ref a), .val (.ref va), .val (.int (0 : Int32)), .val (.int (0 : Int32)), .val .null, .unset] [(.int (0 : Int32)), (.ref a)])
  have F18 : Fld Z h3 a "java/lang/String" "coder" "B" (.int (0 : Int32)) := F_a_coder.ext E3
  have F19 : Fld Z h9 a "java/lang/String" "coder" "B" (.int (0 : Int32)) := F18.other W9 (Or.inr (slot_ne (Or.inr (hw _ (List.mem_of_getElem? (i := 27) rfl))) (Or.inr (hw _ (List.mem_of_getElem? (i := 26) rfl))) (by decide) (t := .byte) (t' := (.array .byte)) (by decide) (by decide)))
  have F20 : Fld Z h12 a "java/lang/String" "coder" "B" (.int (0 : Int32)) := F19.ext E12
  have F21 : Exa Z h12 a "java/lang/String" := F14.ext E12
  obtain ⟨T22, h22, X22, e22, W22, st22⟩ := putFN X17 hx hZ12 hown12 (hw _ (List.mem_of_getElem? (i := 31) rfl)) Via.refl e17 F20 F21 (Or.inr ⟨(hw _ (List.mem_of_getElem? (i := 27) rfl)), rfl, hnm⟩) (hw _ (List.mem_of_getElem? (i := 11) rfl)) (ty := .byte) (v' := (.int (0 : Int32))) (by decide) rfl rfl (g := (mkF m 23 #[.val (.ref a), .val (.ref va), .val (.int (0 : Int32)), .val (.int (0 : Int32)), .val .null, .unset] [(.int (0 : Int32)), (.ref a)])) rfl rfl (hb hby d4_23)
  have C23 : CHr Z own_EL s.vm h0 T12.vm h22 := C15.trans (CHr.wr W22 Sf16 C15.1)
  have Sf24 : Safe Z own_EL T12.vm h22 a := Safe.wr W22 Sf16 C15.1 Sf16
  have N22 := Fr.snoc X22 N9 g_a
  have Fw22 : Fld Z h22 a "java/lang/String" "coder" "B" (.int (0 : Int32)) := F20.same W22
  refine Go.by st22 ?_
  show Go _ _ _ _ T22 (mkF m 26 #[.val (.ref a), .val (.ref va), .val (.int (0 : Int32)), .val (.int (0 : Int32)), .val .null, .unset] [])
  have F25 : Keep h0 h3 [a] := (Keep.refl h0 [a]).ext E3
  have F26 : Keep h0 h9 [a] := F25.wr W9 (Or.inl (List.mem_of_getElem? (i := 0) rfl))
  have F27 : Keep h0 h12 [a] := F26.ext E12
  have F28 : Keep h0 h22 [a] := F27.wr W22 (Or.inl (List.mem_of_getElem? (i := 0) rfl))
  have F29 : Exa Z h22 a "java/lang/String" := F21.wr W22
  have F30 : Fld Z h12 a "java/lang/String" "value" "[B" (.ref q1b) := Fw9.ext E12
  have F31 : Fld Z h22 a "java/lang/String" "value" "[B" (.ref q1b) := F30.other W22 (Or.inr (slot_ne (Or.inr (hw _ (List.mem_of_getElem? (i := 26) rfl))) (Or.inr (hw _ (List.mem_of_getElem? (i := 27) rfl))) (by decide) (t := (.array .byte)) (t' := .byte) (by decide) (by decide)))
  have F32 : Arv Z h9 q1b k3 .byte (0 : Int32) [] (.int 0) := Va3.other W9 (Ne.symm ne_a_q1b)
  have F33 : Arv Z h12 q1b k3 .byte (0 : Int32) [] (.int 0) := F32.ext E12
  have F34 : Arv Z h22 q1b k3 .byte (0 : Int32) [] (.int 0) := F33.other W22 (Ne.symm ne_a_q1b)
  have F35 : kq12 ≤ h22.size := Nat.le_trans hk12 (Nat.le_of_eq (Wr.size W22).symm)
  exact Go.retVW X22 hx Bd.notSynchronized hS12 (by rw [e22]; exact F35) hZ12 hEL (by rw [hh, e22]; exact C23) Bd.returns (hb hby d4_26) (by rw [e22]; exact ⟨q1b, k3, rfl, N22, F28, F29, Fw22, F31, F34⟩) (by decide) (by decide)
theorem ef_89 (m : MethodId) (x0 : Addr) (x1 : Addr) : entryFrame m #[(.ref x0), (.ref x1)] 2 = mkF m 0 #[.val (.ref x0), .val (.ref x1)] [] := by (first | (simp [entryFrame, mkF, argsToLocals, Value.category]; done) | rfl)
theorem d3_0 : decode jdk_42_method_3_code 0 = .ok (.aload_n 0, 1) := by decide +kernel
theorem d3_1 : decode jdk_42_method_3_code 1 = .ok (.aload_n 1, 1) := by decide +kernel
theorem d3_2 : decode jdk_42_method_3_code 2 = .ok (.iconst 0, 1) := by decide +kernel
theorem d3_3 : decode jdk_42_method_3_code 3 = .ok (.aload_n 1, 1) := by decide +kernel
theorem d3_4 : decode jdk_42_method_3_code 4 = .ok (.arraylength, 1) := by decide +kernel
theorem d3_5 : decode jdk_42_method_3_code 5 = .ok (.aconst_null, 1) := by decide +kernel
theorem pd_96 : parseMethodDescriptor "([CIILjava/lang/Void;)V" = some ⟨[(.array .char), .int, .int, (.object "java/lang/Void")], none⟩ := by decide +kernel
theorem d3_6 : decode jdk_42_method_3_code 6 = .ok (.invokespecial 27, 3) := by decide +kernel
theorem d3_9 : decode jdk_42_method_3_code 9 = .ok (.return_, 1) := by decide +kernel
def Q_rmS1_e (Z : State) (a : Addr) (va : Addr) (kv : ClassId) (h0 : Heap) (n0 : Nat) (v : Option Value) (h : Heap) (L : List Loc) : Prop := ∃ b : Addr, ∃ kb : ClassId, v = none ∧ Fr n0 L ∧ Keep h0 h [a] ∧ Exa Z h a "java/lang/String" ∧ Fld Z h a "java/lang/String" "coder" "B" (.int (0 : Int32)) ∧ Fld Z h a "java/lang/String" "value" "[B" (.ref b) ∧ Arv Z h b kb .byte (0 : Int32) ([]) (.int (0 : Int32))
set_option maxRecDepth 65536 in
set_option maxHeartbeats 40000000 in
theorem rmS1_e (l : Launch) (Z : State) (a0 : Array Value) (hw : ∀ d ∈ tables_1, d.before a0 Z = true) (ws : List Jvm.Cond) (a : Addr) (va : Addr) (kv : ClassId) (h0 : Heap) (n0 : Nat) (Z0 : n0 ≤ h0.size) (O0 : Old Z n0 h0) (E_a : Exa Z h0 a "java/lang/String") (F_a_value : Fld Z h0 a "java/lang/String" "value" "[B" .null) (F_a_coder : Fld Z h0 a "java/lang/String" "coder" "B" (.int (0 : Int32))) (g_a : n0 ≤ a) (V_va : Arv Z h0 va kv .char (0 : Int32) ([]) (.int (0 : Int32))) :
    MetFree l (⟨"java/lang/String", "<init>", "([C)V"⟩ : MethodName) (head1 (Jvm.Cond.code (⟨"java/lang/String", "<init>", "([C)V"⟩ : MethodName) jdk_42_method_3_code 2 none :: ws) ({ frames := 2, cells := 4, slots := 8, locals := 29 } : Room)) (fun as' U => as' = #[(.ref a), (.ref va)] ∧ Z.Warmed39 U.vm ∧ U.heap = h0 ∧ CHv Z own_EL U.vm h0) (fun _ _ _ _ _ => True) (fun _ U o U' => ∃ v L, o = .returned v ∧ Q_rmS1_e Z a va kv h0 n0 v U'.heap L ∧ CHr Z own_EL U.vm U.heap U'.vm U'.heap ∧ ReturnedEndW U o U' L ({ frames := 2, cells := 4, slots := 8, locals := 29 } : Room).cells ({ frames := 2, cells := 4, slots := 8, locals := 29 } : Room).slots) := by
  refine MetFree.of_bodySF (plainFor_of_name pn_38) hisR ?_
  intro p e s m args below meth c s₁ Bd hml0 hP hK
  obtain ⟨rfl, hZ, hh, hH⟩ := hP
  have hx := Bd.exec
  have hby := Bd.bytes
  have hml : c.maxLocals = 2 := hml0
  have hown : s.vm.findClass "java/lang/String" = some m.cls := findClass_of_methodNamed Bd.named
  have hnm := (name_of_methodNamed Bd.named Bd.method).1
  have X0 : Stand p l e ({ frames := 2, cells := 4, slots := 8, locals := 29 } : Room) (s.setVm s.vm) m #[(.ref a), (.ref va)] below meth c s₁ [] 0 0 := Stand.of_body Bd
  have e0 : s₁.heap = h0 := by rw [← hh, Bd.state]; rfl
  have N0 := Fr.nil n0
  have hS0 : s.Since s.vm s.heap.size := (State.WarmedH.refl s).since _
  have hk0 : s.heap.size ≤ h0.size := Nat.le_of_eq (by rw [hh])
  have C0 : CHr Z own_EL s.vm h0 s.vm h0 := CHr.refl hH
  have hEL := own_EW hw
  have hSA := own_SA hw
  refine Go.enter (F := EndW Z own_EL s (Q_rmS1_e Z a va kv h0 n0) ({ frames := 2, cells := 4, slots := 8, locals := 29 } : Room).cells ({ frames := 2, cells := 4, slots := 8, locals := 29 } : Room).slots) (ef_89 m a va) ?_
  have Sf1 : Safe Z own_EL s.vm h0 a := own_safe hZ.alike E_a F_a_value
  show Go _ _ _ _ s₁ (mkF m 0 #[.val (.ref a), .val (.ref va)] [])
  refine Go.by (fun _ gk => XS.aloadN X0.here hx rfl (hb hby d3_0) rfl rfl gk) ?_
  show Go _ _ _ _ s₁ (mkF m 1 #[.val (.ref a), .val (.ref va)] [(.ref a)])
  refine Go.by (fun _ gk => XS.aloadN X0.here hx rfl (hb hby d3_1) rfl rfl gk) ?_
  show Go _ _ _ _ s₁ (mkF m 2 #[.val (.ref a), .val (.ref va)] [(.ref va), (.ref a)])
  refine Go.by (fun _ gk => XT.iconstV X0.here hx rfl (0 : Int32) (hb hby d3_2) (by decide) gk) ?_
  show Go _ _ _ _ s₁ (mkF m 3 #[.val (.ref a), .val (.ref va)] [(.int (0 : Int32)), (.ref va), (.ref a)])
  refine Go.by (fun _ gk => XS.aloadN X0.here hx rfl (hb hby d3_3) rfl rfl gk) ?_
  show Go _ _ _ _ s₁ (mkF m 4 #[.val (.ref a), .val (.ref va)] [(.ref va), (.int (0 : Int32)), (.ref va), (.ref a)])
  obtain ⟨cl2, Ar2, -, S2, M2, -, -⟩ := id V_va
  refine Go.by (fun _ gk => X0.arraylength hx (by rw [e0]; exact Ar2.1) (State.isArrayOf_alike hZ.alike Ar2.2.1) (g := (mkF m 4 #[.val (.ref a), .val (.ref va)] [(.ref va), (.int (0 : Int32)), (.ref va), (.ref a)])) rfl rfl (hb hby d3_4) _ gk) ?_
  rw [len_of S2 M2]
  show Go _ _ _ _ s₁ (mkF m 5 #[.val (.ref a), .val (.ref va)] [(.int (0 : Int32)), (.int (0 : Int32)), (.ref va), (.ref a)])
  refine Go.by (fun _ gk => XS.aconstNull X0.here hx rfl (hb hby d3_5) gk) ?_
  show Go _ _ _ _ s₁ (mkF m 6 #[.val (.ref a), .val (.ref va)] [.null, (.int (0 : Int32)), (.int (0 : Int32)), (.ref va), (.ref a)])
  obtain ⟨_, _, ⟨T3, L3, k3, n3⟩, -, Xq3, hSq3, hgr3, ⟨Lc3, hQ3, l3, y3, z3, CH3⟩, st3⟩ := X0.specialBackS hx (y := (⟨"java/lang/String", "<init>", "([CIILjava/lang/Void;)V"⟩ : MethodName)) rfl hown (mvT hZ (hw _ (List.mem_of_getElem? (i := 17) rfl))) (mvT hZ (hw _ (List.mem_of_getElem? (i := 18) rfl))) (mvT hZ (hw _ (List.mem_of_getElem? (i := 20) rfl))) (by decide) (backOfSH (W := 0) (rmS4_e l Z a0 hw [] a va h0 n0 Z0 O0 E_a F_a_value F_a_coder g_a) hZ (hw _ (List.mem_of_getElem? (i := 20) rfl)) (hw _ (List.mem_of_getElem? (i := 12) rfl)) (by decide) (by decide) hEL C0.1) (g := (mkF m 6 #[.val (.ref a), .val (.ref va)] [.null, (.int (0 : Int32)), (.int (0 : Int32)), (.ref va), (.ref a)])) rfl (by rw [hml]; rfl) (Steps.refl _) (a := a) (argsL := [(.ref va), (.int (0 : Int32)), (.int (0 : Int32)), .null]) (rest := []) (lenOf pd_96 rfl) rfl (by show 2 * 0 + _ ≤ _; exact Nat.le_of_eq rfl) (hb hby d3_6) (fun _ _ => ⟨rfl, e0, (by decide : 0 + 4 ≤ _), (by decide : 0 + 8 ≤ _)⟩)
  dsimp only [Pt.U, Pt.locs, Pt.cells, Pt.slots] at Xq3 hSq3 hgr3 l3 y3 z3 st3 hQ3 CH3
  subst l3 y3 z3
  obtain ⟨b, kb, rfl, N3q, K3, Q3_0, Q3_1, Q3_2, Q3_3⟩ := hQ3
  have N3 := Fr.app N0 N3q
  obtain ⟨X3, hS3, hZ3, hown3⟩ := rebS hS0 (by rw [e0]; exact hk0) Xq3 hSq3 hgr3 hZ hown
  have C4 : CHr Z own_EL s.vm h0 T3.vm T3.heap := C0.trans CH3
  have Sf5 : Safe Z own_EL T3.vm T3.heap a := CH3.safe E_a.lt Sf1
  refine Go.to st3 ?_
  show Go _ _ _ _ T3 (mkF m 9 #[.val (.ref a), .val (.ref va)] [])
  have F6 : Keep h0 T3.heap [a] := (Keep.refl h0 [a]).trans K3 (allS (Or.inl (List.mem_of_getElem? (i := 0) rfl)) all0)
  exact Go.retVW X3 hx Bd.notSynchronized hS3 (by exact (Nat.le_refl T3.heap.size)) hZ3 hEL (by rw [hh]; exact C4) Bd.returns (hb hby d3_9) ⟨b, kb, rfl, N3, F6, Q3_0, Q3_1, Q3_2, Q3_3⟩ (by decide) (by decide)
theorem pd_99 : parseMethodDescriptor "([C)V" = some ⟨[(.array .char)], none⟩ := by decide +kernel
theorem d1_16 : decode method_5_code 16 = .ok (.invokespecial 15, 3) := by decide +kernel
theorem d1_19 : decode method_5_code 19 = .ok (.areturn, 1) := by decide +kernel
theorem d1_20 : decode method_5_code 20 = .ok (.iload_n 1, 1) := by decide +kernel
theorem d1_21 : decode method_5_code 21 = .ok (.iconst 1, 1) := by decide +kernel
theorem d1_22 : decode method_5_code 22 = .ok (.if_icmp .ne 11, 3) := by decide +kernel
theorem d1_25 : decode method_5_code 25 = .ok (.iload_n 0, 1) := by decide +kernel
theorem pd_106 : parseMethodDescriptor "(I)C" = some ⟨[.int], some .char⟩ := by decide +kernel
theorem d1_26 : decode method_5_code 26 = .ok (.invokestatic 18, 3) := by decide +kernel
theorem pd_108 : parseMethodDescriptor "(C)Ljava/lang/String;" = some ⟨[.char], some (.object "java/lang/String")⟩ := by decide +kernel
theorem d1_29 : decode method_5_code 29 = .ok (.invokestatic 22, 3) := by decide +kernel
theorem d1_32 : decode method_5_code 32 = .ok (.areturn, 1) := by decide +kernel
theorem d1_33 : decode method_5_code 33 = .ok (.new 13, 3) := by decide +kernel
theorem d1_36 : decode method_5_code 36 = .ok (.dup, 1) := by decide +kernel
theorem d1_37 : decode method_5_code 37 = .ok (.iconst 2, 1) := by decide +kernel
theorem d1_38 : decode method_5_code 38 = .ok (.newarray .char, 2) := by decide +kernel
theorem d1_40 : decode method_5_code 40 = .ok (.dup, 1) := by decide +kernel
theorem d1_41 : decode method_5_code 41 = .ok (.iconst 0, 1) := by decide +kernel
theorem d1_42 : decode method_5_code 42 = .ok (.iload_n 0, 1) := by decide +kernel
theorem d1_43 : decode method_5_code 43 = .ok (.invokestatic 18, 3) := by decide +kernel
theorem d1_46 : decode method_5_code 46 = .ok (.castore, 1) := by decide +kernel
theorem d1_47 : decode method_5_code 47 = .ok (.dup, 1) := by decide +kernel
theorem d1_48 : decode method_5_code 48 = .ok (.iconst 1, 1) := by decide +kernel
theorem d1_49 : decode method_5_code 49 = .ok (.iload_n 0, 1) := by decide +kernel
theorem d1_50 : decode method_5_code 50 = .ok (.invokestatic 26, 3) := by decide +kernel
theorem d1_53 : decode method_5_code 53 = .ok (.castore, 1) := by decide +kernel
theorem pn_125 : plainName "java/lang/StringUTF16" = true := by first | (simp [plainName, overriddenIn]; done) | decide +kernel
theorem ef_126 (m : MethodId) (x0 : Addr) (x1 : Int32) (x2 : Addr) (x3 : Int32) (x4 : Int32) : entryFrame m #[(.ref x0), (.int x1), (.ref x2), (.int x3), (.int x4)] 7 = mkF m 0 #[.val (.ref x0), .val (.int x1), .val (.ref x2), .val (.int x3), .val (.int x4), .unset, .unset] [] := by (first | (simp [entryFrame, mkF, argsToLocals, Value.category]; done) | rfl)
theorem d10_0 : decode jdk_52_method_21_code 0 = .ok (.iconst 0, 1) := by decide +kernel
theorem d10_1 : decode jdk_52_method_21_code 1 = .ok (.istore 5, 2) := by decide +kernel
theorem d10_3 : decode jdk_52_method_21_code 3 = .ok (.iload 5, 2) := by decide +kernel
theorem d10_5 : decode jdk_52_method_21_code 5 = .ok (.iload 4, 2) := by decide +kernel
theorem d10_7 : decode jdk_52_method_21_code 7 = .ok (.if_icmp .ge 37, 3) := by decide +kernel
theorem d10_10 : decode jdk_52_method_21_code 10 = .ok (.aload_n 0, 1) := by decide +kernel
theorem d10_11 : decode jdk_52_method_21_code 11 = .ok (.iload_n 1, 1) := by decide +kernel
theorem d10_12 : decode jdk_52_method_21_code 12 = .ok (.caload, 1) := by decide +kernel
theorem d10_13 : decode jdk_52_method_21_code 13 = .ok (.istore 6, 2) := by decide +kernel
theorem d10_15 : decode jdk_52_method_21_code 15 = .ok (.iload 6, 2) := by decide +kernel
theorem d10_17 : decode jdk_52_method_21_code 17 = .ok (.sipush 255, 3) := by decide +kernel
theorem d10_20 : decode jdk_52_method_21_code 20 = .ok (.if_icmp .le 6, 3) := by decide +kernel
theorem d10_26 : decode jdk_52_method_21_code 26 = .ok (.aload_n 2, 1) := by decide +kernel
theorem d10_27 : decode jdk_52_method_21_code 27 = .ok (.iload_n 3, 1) := by decide +kernel
theorem d10_28 : decode jdk_52_method_21_code 28 = .ok (.iload 6, 2) := by decide +kernel
theorem d10_30 : decode jdk_52_method_21_code 30 = .ok (.i2b, 1) := by decide +kernel
theorem d10_31 : decode jdk_52_method_21_code 31 = .ok (.bastore, 1) := by decide +kernel
theorem d10_32 : decode jdk_52_method_21_code 32 = .ok (.iinc 1 1, 3) := by decide +kernel
theorem d10_35 : decode jdk_52_method_21_code 35 = .ok (.iinc 3 1, 3) := by decide +kernel
theorem d10_38 : decode jdk_52_method_21_code 38 = .ok (.iinc 5 1, 3) := by decide +kernel
theorem d10_41 : decode jdk_52_method_21_code 41 = .ok (.goto (-38), 3) := by decide +kernel
theorem d10_44 : decode jdk_52_method_21_code 44 = .ok (.iload 4, 2) := by decide +kernel
theorem d10_46 : decode jdk_52_method_21_code 46 = .ok (.ireturn, 1) := by decide +kernel
def Q_rmC5_2 (Z : State) (va : Addr) (da : Addr) (kv : ClassId) (kd : ClassId) (c0 : Int32) (c1 : Int32) (h0 : Heap) (n0 : Nat) (v : Option Value) (h : Heap) (L : List Loc) : Prop := v = some (.int (2 : Int32)) ∧ Fr n0 L ∧ Keep h0 h [da] ∧ Arv Z h da kd .byte (2 : Int32) ([(.int (own_b c0)), (.int (own_b c1))]) (.int (0 : Int32))
set_option maxRecDepth 65536 in
set_option maxHeartbeats 40000000 in
theorem rmC5_2 (l : Launch) (Z : State) (a0 : Array Value) (hw : ∀ d ∈ tables_1, d.before a0 Z = true) (ws : List Jvm.Cond) (va : Addr) (da : Addr) (kv : ClassId) (kd : ClassId) (c0 : Int32) (c1 : Int32) (h0 : Heap) (n0 : Nat) (Z0 : n0 ≤ h0.size) (V_va : Arv Z h0 va kv .char (2 : Int32) ([(.int c0), (.int c1)]) (.int (0 : Int32))) (V_da : Arv Z h0 da kd .byte (2 : Int32) ([(.int (0 : Int32)), (.int (0 : Int32))]) (.int (0 : Int32))) (g_da : n0 ≤ da) (ne_va_da : va ≠ da) (hc0 : (¬ (255 : Int32) < c0)) (hc1 : (¬ (255 : Int32) < c1)) :
    MetFree l (⟨"java/lang/StringUTF16", "compress", "([CI[BII)I"⟩ : MethodName) (head1 (Jvm.Cond.code (⟨"java/lang/StringUTF16", "compress", "([CI[BII)I"⟩ : MethodName) jdk_52_method_21_code 7 (some .int) :: ws) ({ frames := 0, cells := 0, slots := 0, locals := 0 } : Room)) (fun as' U => as' = #[(.ref va), (.int (0 : Int32)), (.ref da), (.int (0 : Int32)), (.int (2 : Int32))] ∧ Z.Warmed39 U.vm ∧ U.heap = h0) (fun _ _ _ _ _ => True) (fun _ U o U' => ∃ v L, o = .returned v ∧ Q_rmC5_2 Z va da kv kd c0 c1 h0 n0 v U'.heap L ∧ FrameEnd U o U' L ({ frames := 0, cells := 0, slots := 0, locals := 0 } : Room).cells ({ frames := 0, cells := 0, slots := 0, locals := 0 } : Room).slots) := by
  refine MetFree.of_bodySF (plainFor_of_name pn_125) hisR ?_
  intro p e s m args below meth c s₁ Bd hml0 hP hK
  obtain ⟨rfl, hZ, hh⟩ := hP
  have hx := Bd.exec
  have hby := Bd.bytes
  have hml : c.maxLocals = 7 := hml0
  have hown : s.vm.findClass "java/lang/StringUTF16" = some m.cls := findClass_of_methodNamed Bd.named
  have hnm := (name_of_methodNamed Bd.named Bd.method).1
  have X0 : Stand p l e ({ frames := 0, cells := 0, slots := 0, locals := 0 } : Room) s m #[(.ref va), (.int (0 : Int32)), (.ref da), (.int (0 : Int32)), (.int (2 : Int32))] below meth c s₁ [] 0 0 := Stand.of_body Bd
  have e0 : s₁.heap = h0 := by rw [← hh, Bd.state]; rfl
  have N0 := Fr.nil n0
  refine Go.enter (F := EndN s (Q_rmC5_2 Z va da kv kd c0 c1 h0 n0) ({ frames := 0, cells := 0, slots := 0, locals := 0 } : Room).cells ({ frames := 0, cells := 0, slots := 0, locals := 0 } : Room).slots) (ef_126 m va (0 : Int32) da (0 : Int32) (2 : Int32)) ?_
  show Go _ _ _ _ s₁ (mkF m 0 #[.val (.ref va), .val (.int (0 : Int32)), .val (.ref da), .val (.int (0 : Int32)), .val (.int (2 : Int32)), .unset, .unset] [])
  refine Go.by (fun _ gk => XT.iconstV X0.here hx rfl (0 : Int32) (hb hby d10_0) (by decide) gk) ?_
  show Go _ _ _ _ s₁ (mkF m 1 #[.val (.ref va), .val (.int (0 : Int32)), .val (.ref da), .val (.int (0 : Int32)), .val (.int (2 : Int32)), .unset, .unset] [(.int (0 : Int32))])
  refine Go.by (fun _ gk => XS.istore X0.here hx rfl (hb hby d10_1) rfl (l' := #[.val (.ref va), .val (.int (0 : Int32)), .val (.ref da), .val (.int (0 : Int32)), .val (.int (2 : Int32)), .val (.int (0 : Int32)), .unset]) rfl gk) ?_
  show Go _ _ _ _ s₁ (mkF m 3 #[.val (.ref va), .val (.int (0 : Int32)), .val (.ref da), .val (.int (0 : Int32)), .val (.int (2 : Int32)), .val (.int (0 : Int32)), .unset] [])
  refine Go.by (fun _ gk => XS.iload X0.here hx rfl (hb hby d10_3) rfl gk) ?_
  show Go _ _ _ _ s₁ (mkF m 5 #[.val (.ref va), .val (.int (0 : Int32)), .val (.ref da), .val (.int (0 : Int32)), .val (.int (2 : Int32)), .val (.int (0 : Int32)), .unset] [(.int (0 : Int32))])
  refine Go.by (fun _ gk => XS.iload X0.here hx rfl (hb hby d10_5) rfl gk) ?_
  show Go _ _ _ _ s₁ (mkF m 7 #[.val (.ref va), .val (.int (0 : Int32)), .val (.ref da), .val (.int (0 : Int32)), .val (.int (2 : Int32)), .val (.int (0 : Int32)), .unset] [(.int (2 : Int32)), (.int (0 : Int32))])
  refine Go.by (fun _ gk => XS.icmpNo X0.here hx rfl (hb hby d10_7) rfl (XT.ii_ge_f (by decide)) gk) ?_
  show Go _ _ _ _ s₁ (mkF m 10 #[.val (.ref va), .val (.int (0 : Int32)), .val (.ref da), .val (.int (0 : Int32)), .val (.int (2 : Int32)), .val (.int (0 : Int32)), .unset] [])
  refine Go.by (fun _ gk => XS.aloadN X0.here hx rfl (hb hby d10_10) rfl rfl gk) ?_
  show Go _ _ _ _ s₁ (mkF m 11 #[.val (.ref va), .val (.int (0 : Int32)), .val (.ref da), .val (.int (0 : Int32)), .val (.int (2 : Int32)), .val (.int (0 : Int32)), .unset] [(.ref va)])
  refine Go.by (fun _ gk => XS.iloadN X0.here hx rfl (hb hby d10_11) rfl gk) ?_
  show Go _ _ _ _ s₁ (mkF m 12 #[.val (.ref va), .val (.int (0 : Int32)), .val (.ref da), .val (.int (0 : Int32)), .val (.int (2 : Int32)), .val (.int (0 : Int32)), .unset] [(.int (0 : Int32)), (.ref va)])
  obtain ⟨cl1, Ar1, -, S1, M1, H1, -⟩ := id V_va
  have hin1 : ¬ ((0 : Int32) < 0 ∨ cl1.slots.size ≤ (0 : Int32).toNatClampNeg) := inb_of S1 ⟨by decide, by decide⟩
  refine Go.by (fun _ gk => X0.caload hx (j := (0 : Int32)) (v := (.int c0)) (by rw [e0]; exact Ar1.1) (State.isArrayOf_alike hZ.alike Ar1.2.1) Ar1.2.2 hin1 (Has.at H1 hin1 rfl) (g := (mkF m 12 #[.val (.ref va), .val (.int (0 : Int32)), .val (.ref da), .val (.int (0 : Int32)), .val (.int (2 : Int32)), .val (.int (0 : Int32)), .unset] [(.int (0 : Int32)), (.ref va)])) rfl rfl (hb hby d10_12) _ gk) ?_
  show Go _ _ _ _ s₁ (mkF m 13 #[.val (.ref va), .val (.int (0 : Int32)), .val (.ref da), .val (.int (0 : Int32)), .val (.int (2 : Int32)), .val (.int (0 : Int32)), .unset] [(.int c0)])
  refine Go.by (fun _ gk => XS.istore X0.here hx rfl (hb hby d10_13) rfl (l' := #[.val (.ref va), .val (.int (0 : Int32)), .val (.ref da), .val (.int (0 : Int32)), .val (.int (2 : Int32)), .val (.int (0 : Int32)), .val (.int c0)]) rfl gk) ?_
  show Go _ _ _ _ s₁ (mkF m 15 #[.val (.ref va), .val (.int (0 : Int32)), .val (.ref da), .val (.int (0 : Int32)), .val (.int (2 : Int32)), .val (.int (0 : Int32)), .val (.int c0)] [])
  refine Go.by (fun _ gk => XS.iload X0.here hx rfl (hb hby d10_15) rfl gk) ?_
  show Go _ _ _ _ s₁ (mkF m 17 #[.val (.ref va), .val (.int (0 : Int32)), .val (.ref da), .val (.int (0 : Int32)), .val (.int (2 : Int32)), .val (.int (0 : Int32)), .val (.int c0)] [(.int c0)])
  refine Go.by (fun _ gk => XT.sipushV X0.here hx rfl (255 : Int32) (hb hby d10_17) (by decide) gk) ?_
  show Go _ _ _ _ s₁ (mkF m 20 #[.val (.ref va), .val (.int (0 : Int32)), .val (.ref da), .val (.int (0 : Int32)), .val (.int (2 : Int32)), .val (.int (0 : Int32)), .val (.int c0)] [(.int (255 : Int32)), (.int c0)])
  refine Go.by (fun _ gk => XS.icmpYes X0.here hx rfl (pc0 := 20) (pc' := 26) rfl (hb hby d10_20) rfl (XT.ii_le_t hc0) (by decide) (by decide) gk) ?_
  show Go _ _ _ _ s₁ (mkF m 26 #[.val (.ref va), .val (.int (0 : Int32)), .val (.ref da), .val (.int (0 : Int32)), .val (.int (2 : Int32)), .val (.int (0 : Int32)), .val (.int c0)] [])
  refine Go.by (fun _ gk => XS.aloadN X0.here hx rfl (hb hby d10_26) rfl rfl gk) ?_
  show Go _ _ _ _ s₁ (mkF m 27 #[.val (.ref va), .val (.int (0 : Int32)), .val (.ref da), .val (.int (0 : Int32)), .val (.int (2 : Int32)), .val (.int (0 : Int32)), .val (.int c0)] [(.ref da)])
  refine Go.by (fun _ gk => XS.iloadN X0.here hx rfl (hb hby d10_27) rfl gk) ?_
  show Go _ _ _ _ s₁ (mkF m 28 #[.val (.ref va), .val (.int (0 : Int32)), .val (.ref da), .val (.int (0 : Int32)), .val (.int (2 : Int32)), .val (.int (0 : Int32)), .val (.int c0)] [(.int (0 : Int32)), (.ref da)])
  refine Go.by (fun _ gk => XS.iload X0.here hx rfl (hb hby d10_28) rfl gk) ?_
  show Go _ _ _ _ s₁ (mkF m 30 #[.val (.ref va), .val (.int (0 : Int32)), .val (.ref da), .val (.int (0 : Int32)), .val (.int (2 : Int32)), .val (.int (0 : Int32)), .val (.int c0)] [(.int c0), (.int (0 : Int32)), (.ref da)])
  refine Go.by (fun _ gk => XT.i2b X0.here hx rfl (hb hby d10_30) rfl gk) ?_
  show Go _ _ _ _ s₁ (mkF m 31 #[.val (.ref va), .val (.int (0 : Int32)), .val (.ref da), .val (.int (0 : Int32)), .val (.int (2 : Int32)), .val (.int (0 : Int32)), .val (.int c0)] [(.int (c0.toInt8.toInt32)), (.int (0 : Int32)), (.ref da)])
  obtain ⟨cl2, Ar2, q2, S2, M2, H2, G2⟩ := id V_da
  have hin2 : ¬ ((0 : Int32) < 0 ∨ cl2.slots.size ≤ (0 : Int32).toNatClampNeg) := inb_of S2 ⟨by decide, by decide⟩
  obtain ⟨T2, h2, X2, e2, W2, st2⟩ := stB X0 hx hZ e0 Ar2 (j := (0 : Int32)) hin2 (g := (mkF m 31 #[.val (.ref va), .val (.int (0 : Int32)), .val (.ref da), .val (.int (0 : Int32)), .val (.int (2 : Int32)), .val (.int (0 : Int32)), .val (.int c0)] [(.int (c0.toInt8.toInt32)), (.int (0 : Int32)), (.ref da)])) rfl rfl (hb hby d10_31)
  have N2 := Fr.snoc X2 N0 g_da
  have V2 : Arv Z h2 da kd .byte (2 : Int32) [(.int (nar .byte (c0.toInt8.toInt32))), (.int (0 : Int32))] (.int (0 : Int32)) := Arv.set Ar2 q2 S2 M2 H2 G2 (fits_nar_byte _) W2 0 rfl (Nat.le_of_ble_eq_true rfl)
  refine Go.by st2 ?_
  show Go _ _ _ _ T2 (mkF m 32 #[.val (.ref va), .val (.int (0 : Int32)), .val (.ref da), .val (.int (0 : Int32)), .val (.int (2 : Int32)), .val (.int (0 : Int32)), .val (.int c0)] [])
  rw [own_bn] at V2
  refine Go.by (fun _ gk => XT.iincV X2.here hx rfl (1 : Int32) (hb hby d10_32) (by decide) rfl (l' := #[.val (.ref va), .val (.int (1 : Int32)), .val (.ref da), .val (.int (0 : Int32)), .val (.int (2 : Int32)), .val (.int (0 : Int32)), .val (.int c0)]) rfl gk) ?_
  show Go _ _ _ _ T2 (mkF m 35 #[.val (.ref va), .val (.int (1 : Int32)), .val (.ref da), .val (.int (0 : Int32)), .val (.int (2 : Int32)), .val (.int (0 : Int32)), .val (.int c0)] [])
  refine Go.by (fun _ gk => XT.iincV X2.here hx rfl (1 : Int32) (hb hby d10_35) (by decide) rfl (l' := #[.val (.ref va), .val (.int (1 : Int32)), .val (.ref da), .val (.int (1 : Int32)), .val (.int (2 : Int32)), .val (.int (0 : Int32)), .val (.int c0)]) rfl gk) ?_
  show Go _ _ _ _ T2 (mkF m 38 #[.val (.ref va), .val (.int (1 : Int32)), .val (.ref da), .val (.int (1 : Int32)), .val (.int (2 : Int32)), .val (.int (0 : Int32)), .val (.int c0)] [])
  refine Go.by (fun _ gk => XT.iincV X2.here hx rfl (1 : Int32) (hb hby d10_38) (by decide) rfl (l' := #[.val (.ref va), .val (.int (1 : Int32)), .val (.ref da), .val (.int (1 : Int32)), .val (.int (2 : Int32)), .val (.int (1 : Int32)), .val (.int c0)]) rfl gk) ?_
  show Go _ _ _ _ T2 (mkF m 41 #[.val (.ref va), .val (.int (1 : Int32)), .val (.ref da), .val (.int (1 : Int32)), .val (.int (2 : Int32)), .val (.int (1 : Int32)), .val (.int c0)] [])
  refine Go.by (fun _ gk => XS.goto X2.here hx rfl (pc0 := 41) (pc' := 3) rfl (hb hby d10_41) (by decide) (by decide) gk) ?_
  show Go _ _ _ _ T2 (mkF m 3 #[.val (.ref va), .val (.int (1 : Int32)), .val (.ref da), .val (.int (1 : Int32)), .val (.int (2 : Int32)), .val (.int (1 : Int32)), .val (.int c0)] [])
  refine Go.by (fun _ gk => XS.iload X2.here hx rfl (hb hby d10_3) rfl gk) ?_
  show Go _ _ _ _ T2 (mkF m 5 #[.val (.ref va), .val (.int (1 : Int32)), .val (.ref da), .val (.int (1 : Int32)), .val (.int (2 : Int32)), .val (.int (1 : Int32)), .val (.int c0)] [(.int (1 : Int32))])
  refine Go.by (fun _ gk => XS.iload X2.here hx rfl (hb hby d10_5) rfl gk) ?_
  show Go _ _ _ _ T2 (mkF m 7 #[.val (.ref va), .val (.int (1 : Int32)), .val (.ref da), .val (.int (1 : Int32)), .val (.int (2 : Int32)), .val (.int (1 : Int32)), .val (.int c0)] [(.int (2 : Int32)), (.int (1 : Int32))])
  refine Go.by (fun _ gk => XS.icmpNo X2.here hx rfl (hb hby d10_7) rfl (XT.ii_ge_f (by decide)) gk) ?_
  show Go _ _ _ _ T2 (mkF m 10 #[.val (.ref va), .val (.int (1 : Int32)), .val (.ref da), .val (.int (1 : Int32)), .val (.int (2 : Int32)), .val (.int (1 : Int32)), .val (.int c0)] [])
  refine Go.by (fun _ gk => XS.aloadN X2.here hx rfl (hb hby d10_10) rfl rfl gk) ?_
  show Go _ _ _ _ T2 (mkF m 11 #[.val (.ref va), .val (.int (1 : Int32)), .val (.ref da), .val (.int (1 : Int32)), .val (.int (2 : Int32)), .val (.int (1 : Int32)), .val (.int c0)] [(.ref va)])
  refine Go.by (fun _ gk => XS.iloadN X2.here hx rfl (hb hby d10_11) rfl gk) ?_
  show Go _ _ _ _ T2 (mkF m 12 #[.val (.ref va), .val (.int (1 : Int32)), .val (.ref da), .val (.int (1 : Int32)), .val (.int (2 : Int32)), .val (.int (1 : Int32)), .val (.int c0)] [(.int (1 : Int32)), (.ref va)])
  have F3 : Arv Z h2 va kv .char (2 : Int32) [(.int c0), (.int c1)] (.int (0 : Int32)) := V_va.other W2 ne_va_da
  obtain ⟨cl4, Ar4, -, S4, M4, H4, -⟩ := id F3
  have hin4 : ¬ ((1 : Int32) < 0 ∨ cl4.slots.size ≤ (1 : Int32).toNatClampNeg) := inb_of S4 ⟨by decide, by decide⟩
  refine Go.by (fun _ gk => X2.caload hx (j := (1 : Int32)) (v := (.int c1)) (by rw [e2]; exact Ar4.1) (State.isArrayOf_alike hZ.alike Ar4.2.1) Ar4.2.2 hin4 (Has.at H4 hin4 rfl) (g := (mkF m 12 #[.val (.ref va), .val (.int (1 : Int32)), .val (.ref da), .val (.int (1 : Int32)), .val (.int (2 : Int32)), .val (.int (1 : Int32)), .val (.int c0)] [(.int (1 : Int32)), (.ref va)])) rfl rfl (hb hby d10_12) _ gk) ?_
  show Go _ _ _ _ T2 (mkF m 13 #[.val (.ref va), .val (.int (1 : Int32)), .val (.ref da), .val (.int (1 : Int32)), .val (.int (2 : Int32)), .val (.int (1 : Int32)), .val (.int c0)] [(.int c1)])
  refine Go.by (fun _ gk => XS.istore X2.here hx rfl (hb hby d10_13) rfl (l' := #[.val (.ref va), .val (.int (1 : Int32)), .val (.ref da), .val (.int (1 : Int32)), .val (.int (2 : Int32)), .val (.int (1 : Int32)), .val (.int c1)]) rfl gk) ?_
  show Go _ _ _ _ T2 (mkF m 15 #[.val (.ref va), .val (.int (1 : Int32)), .val (.ref da), .val (.int (1 : Int32)), .val (.int (2 : Int32)), .val (.int (1 : Int32)), .val (.int c1)] [])
  refine Go.by (fun _ gk => XS.iload X2.here hx rfl (hb hby d10_15) rfl gk) ?_
  show Go _ _ _ _ T2 (mkF m 17 #[.val (.ref va), .val (.int (1 : Int32)), .val (.ref da), .val (.int (1 : Int32)), .val (.int (2 : Int32)), .val (.int (1 : Int32)), .val (.int c1)] [(.int c1)])
  refine Go.by (fun _ gk => XT.sipushV X2.here hx rfl (255 : Int32) (hb hby d10_17) (by decide) gk) ?_
  show Go _ _ _ _ T2 (mkF m 20 #[.val (.ref va), .val (.int (1 : Int32)), .val (.ref da), .val (.int (1 : Int32)), .val (.int (2 : Int32)), .val (.int (1 : Int32)), .val (.int c1)] [(.int (255 : Int32)), (.int c1)])
  refine Go.by (fun _ gk => XS.icmpYes X2.here hx rfl (pc0 := 20) (pc' := 26) rfl (hb hby d10_20) rfl (XT.ii_le_t hc1) (by decide) (by decide) gk) ?_
  show Go _ _ _ _ T2 (mkF m 26 #[.val (.ref va), .val (.int (1 : Int32)), .val (.ref da), .val (.int (1 : Int32)), .val (.int (2 : Int32)), .val (.int (1 : Int32)), .val (.int c1)] [])
  refine Go.by (fun _ gk => XS.aloadN X2.here hx rfl (hb hby d10_26) rfl rfl gk) ?_
  show Go _ _ _ _ T2 (mkF m 27 #[.val (.ref va), .val (.int (1 : Int32)), .val (.ref da), .val (.int (1 : Int32)), .val (.int (2 : Int32)), .val (.int (1 : Int32)), .val (.int c1)] [(.ref da)])
  refine Go.by (fun _ gk => XS.iloadN X2.here hx rfl (hb hby d10_27) rfl gk) ?_
  show Go _ _ _ _ T2 (mkF m 28 #[.val (.ref va), .val (.int (1 : Int32)), .val (.ref da), .val (.int (1 : Int32)), .val (.int (2 : Int32)), .val (.int (1 : Int32)), .val (.int c1)] [(.int (1 : Int32)), (.ref da)])
  refine Go.by (fun _ gk => XS.iload X2.here hx rfl (hb hby d10_28) rfl gk) ?_
  show Go _ _ _ _ T2 (mkF m 30 #[.val (.ref va), .val (.int (1 : Int32)), .val (.ref da), .val (.int (1 : Int32)), .val (.int (2 : Int32)), .val (.int (1 : Int32)), .val (.int c1)] [(.int c1), (.int (1 : Int32)), (.ref da)])
  refine Go.by (fun _ gk => XT.i2b X2.here hx rfl (hb hby d10_30) rfl gk) ?_
  show Go _ _ _ _ T2 (mkF m 31 #[.val (.ref va), .val (.int (1 : Int32)), .val (.ref da), .val (.int (1 : Int32)), .val (.int (2 : Int32)), .val (.int (1 : Int32)), .val (.int c1)] [(.int (c1.toInt8.toInt32)), (.int (1 : Int32)), (.ref da)])
  obtain ⟨cl5, Ar5, q5, S5, M5, H5, G5⟩ := id V2
  have hin5 : ¬ ((1 : Int32) < 0 ∨ cl5.slots.size ≤ (1 : Int32).toNatClampNeg) := inb_of S5 ⟨by decide, by decide⟩
  obtain ⟨T5, h5, X5, e5, W5, st5⟩ := stB X2 hx hZ e2 Ar5 (j := (1 : Int32)) hin5 (g := (mkF m 31 #[.val (.ref va), .val (.int (1 : Int32)), .val (.ref da), .val (.int (1 : Int32)), .val (.int (2 : Int32)), .val (.int (1 : Int32)), .val (.int c1)] [(.int (c1.toInt8.toInt32)), (.int (1 : Int32)), (.ref da)])) rfl rfl (hb hby d10_31)
  have N5 := Fr.snoc X5 N2 g_da
  have V5 : Arv Z h5 da kd .byte (2 : Int32) [(.int (own_b c0)), (.int (nar .byte (c1.toInt8.toInt32)))] (.int (0 : Int32)) := Arv.set Ar5 q5 S5 M5 H5 G5 (fits_nar_byte _) W5 1 rfl (Nat.le_of_ble_eq_true rfl)
  refine Go.by st5 ?_
  show Go _ _ _ _ T5 (mkF m 32 #[.val (.ref va), .val (.int (1 : Int32)), .val (.ref da), .val (.int (1 : Int32)), .val (.int (2 : Int32)), .val (.int (1 : Int32)), .val (.int c1)] [])
  rw [own_bn] at V5
  refine Go.by (fun _ gk => XT.iincV X5.here hx rfl (1 : Int32) (hb hby d10_32) (by decide) rfl (l' := #[.val (.ref va), .val (.int (2 : Int32)), .val (.ref da), .val (.int (1 : Int32)), .val (.int (2 : Int32)), .val (.int (1 : Int32)), .val (.int c1)]) rfl gk) ?_
  show Go _ _ _ _ T5 (mkF m 35 #[.val (.ref va), .val (.int (2 : Int32)), .val (.ref da), .val (.int (1 : Int32)), .val (.int (2 : Int32)), .val (.int (1 : Int32)), .val (.int c1)] [])
  refine Go.by (fun _ gk => XT.iincV X5.here hx rfl (1 : Int32) (hb hby d10_35) (by decide) rfl (l' := #[.val (.ref va), .val (.int (2 : Int32)), .val (.ref da), .val (.int (2 : Int32)), .val (.int (2 : Int32)), .val (.int (1 : Int32)), .val (.int c1)]) rfl gk) ?_
  show Go _ _ _ _ T5 (mkF m 38 #[.val (.ref va), .val (.int (2 : Int32)), .val (.ref da), .val (.int (2 : Int32)), .val (.int (2 : Int32)), .val (.int (1 : Int32)), .val (.int c1)] [])
  refine Go.by (fun _ gk => XT.iincV X5.here hx rfl (1 : Int32) (hb hby d10_38) (by decide) rfl (l' := #[.val (.ref va), .val (.int (2 : Int32)), .val (.ref da), .val (.int (2 : Int32)), .val (.int (2 : Int32)), .val (.int (2 : Int32)), .val (.int c1)]) rfl gk) ?_
  show Go _ _ _ _ T5 (mkF m 41 #[.val (.ref va), .val (.int (2 : Int32)), .val (.ref da), .val (.int (2 : Int32)), .val (.int (2 : Int32)), .val (.int (2 : Int32)), .val (.int c1)] [])
  refine Go.by (fun _ gk => XS.goto X5.here hx rfl (pc0 := 41) (pc' := 3) rfl (hb hby d10_41) (by decide) (by decide) gk) ?_
  show Go _ _ _ _ T5 (mkF m 3 #[.val (.ref va), .val (.int (2 : Int32)), .val (.ref da), .val (.int (2 : Int32)), .val (.int (2 : Int32)), .val (.int (2 : Int32)), .val (.int c1)] [])
  refine Go.by (fun _ gk => XS.iload X5.here hx rfl (hb hby d10_3) rfl gk) ?_
  show Go _ _ _ _ T5 (mkF m 5 #[.val (.ref va), .val (.int (2 : Int32)), .val (.ref da), .val (.int (2 : Int32)), .val (.int (2 : Int32)), .val (.int (2 : Int32)), .val (.int c1)] [(.int (2 : Int32))])
  refine Go.by (fun _ gk => XS.iload X5.here hx rfl (hb hby d10_5) rfl gk) ?_
  show Go _ _ _ _ T5 (mkF m 7 #[.val (.ref va), .val (.int (2 : Int32)), .val (.ref da), .val (.int (2 : Int32)), .val (.int (2 : Int32)), .val (.int (2 : Int32)), .val (.int c1)] [(.int (2 : Int32)), (.int (2 : Int32))])
  refine Go.by (fun _ gk => XS.icmpYes X5.here hx rfl (pc0 := 7) (pc' := 44) rfl (hb hby d10_7) rfl (XT.ii_ge_t (by decide)) (by decide) (by decide) gk) ?_
  show Go _ _ _ _ T5 (mkF m 44 #[.val (.ref va), .val (.int (2 : Int32)), .val (.ref da), .val (.int (2 : Int32)), .val (.int (2 : Int32)), .val (.int (2 : Int32)), .val (.int c1)] [])
  refine Go.by (fun _ gk => XS.iload X5.here hx rfl (hb hby d10_44) rfl gk) ?_
  show Go _ _ _ _ T5 (mkF m 46 #[.val (.ref va), .val (.int (2 : Int32)), .val (.ref da), .val (.int (2 : Int32)), .val (.int (2 : Int32)), .val (.int (2 : Int32)), .val (.int c1)] [(.int (2 : Int32))])
  have F6 : Keep h0 h2 [da] := (Keep.refl h0 [da]).wr W2 (Or.inl (List.mem_of_getElem? (i := 0) rfl))
  have F7 : Keep h0 h5 [da] := F6.wr W5 (Or.inl (List.mem_of_getElem? (i := 0) rfl))
  exact Go.retI X5 hx Bd.notSynchronized Bd.returns rfl (by simp) (hb hby d10_46) (by rw [e5]; exact ⟨rfl, N5, F7, V5⟩) (by decide) (by decide)
theorem ef_150 (m : MethodId) (x0 : Addr) (x1 : Int32) (x2 : Int32) : entryFrame m #[(.ref x0), (.int x1), (.int x2)] 6 = mkF m 0 #[.val (.ref x0), .val (.int x1), .val (.int x2), .unset, .unset, .unset] [] := by (first | (simp [entryFrame, mkF, argsToLocals, Value.category]; done) | rfl)
theorem d9_0 : decode jdk_52_method_16_code 0 = .ok (.iload_n 2, 1) := by decide +kernel
theorem d9_1 : decode jdk_52_method_16_code 1 = .ok (.newarray .byte, 2) := by decide +kernel
theorem d9_3 : decode jdk_52_method_16_code 3 = .ok (.astore_n 3, 1) := by decide +kernel
theorem d9_4 : decode jdk_52_method_16_code 4 = .ok (.aload_n 0, 1) := by decide +kernel
theorem d9_5 : decode jdk_52_method_16_code 5 = .ok (.iload_n 1, 1) := by decide +kernel
theorem d9_6 : decode jdk_52_method_16_code 6 = .ok (.aload_n 3, 1) := by decide +kernel
theorem d9_7 : decode jdk_52_method_16_code 7 = .ok (.iconst 0, 1) := by decide +kernel
theorem d9_8 : decode jdk_52_method_16_code 8 = .ok (.iload_n 2, 1) := by decide +kernel
theorem pd_159 : parseMethodDescriptor "([CI[BII)I" = some ⟨[(.array .char), .int, (.array .byte), .int, .int], some .int⟩ := by decide +kernel
theorem d9_9 : decode jdk_52_method_16_code 9 = .ok (.invokestatic 115, 3) := by decide +kernel
theorem d9_12 : decode jdk_52_method_16_code 12 = .ok (.istore 4, 2) := by decide +kernel
theorem d9_14 : decode jdk_52_method_16_code 14 = .ok (.iload 4, 2) := by decide +kernel
theorem d9_16 : decode jdk_52_method_16_code 16 = .ok (.iload_n 2, 1) := by decide +kernel
theorem d9_17 : decode jdk_52_method_16_code 17 = .ok (.if_icmp .eq 40, 3) := by decide +kernel
theorem d9_57 : decode jdk_52_method_16_code 57 = .ok (.aload_n 3, 1) := by decide +kernel
theorem d9_58 : decode jdk_52_method_16_code 58 = .ok (.areturn, 1) := by decide +kernel
def Q_rmC3_2 (Z : State) (va : Addr) (kv : ClassId) (c0 : Int32) (c1 : Int32) (h0 : Heap) (n0 : Nat) (v : Option Value) (h : Heap) (L : List Loc) : Prop := ∃ da : Addr, ∃ kd : ClassId, v = some (.ref da) ∧ Fr n0 L ∧ Keep h0 h [] ∧ Arv Z h da kd .byte (2 : Int32) ([(.int (own_b c0)), (.int (own_b c1))]) (.int (0 : Int32)) ∧ h0.size ≤ da
set_option maxRecDepth 65536 in
set_option maxHeartbeats 40000000 in
theorem rmC3_2 (l : Launch) (Z : State) (a0 : Array Value) (hw : ∀ d ∈ tables_1, d.before a0 Z = true) (ws : List Jvm.Cond) (va : Addr) (kv : ClassId) (c0 : Int32) (c1 : Int32) (h0 : Heap) (n0 : Nat) (Z0 : n0 ≤ h0.size) (V_va : Arv Z h0 va kv .char (2 : Int32) ([(.int c0), (.int c1)]) (.int (0 : Int32))) (hc0 : (¬ (255 : Int32) < c0)) (hc1 : (¬ (255 : Int32) < c1)) :
    MetFree l (⟨"java/lang/StringUTF16", "compress", "([CII)[B"⟩ : MethodName) (head1 (Jvm.Cond.code (⟨"java/lang/StringUTF16", "compress", "([CII)[B"⟩ : MethodName) jdk_52_method_16_code 6 (some (.array .byte)) :: ws) ({ frames := 1, cells := 1, slots := 2, locals := 18 } : Room)) (fun as' U => as' = #[(.ref va), (.int (0 : Int32)), (.int (2 : Int32))] ∧ Z.Warmed39 U.vm ∧ U.heap = h0) (fun _ _ _ _ _ => True) (fun _ U o U' => ∃ v L, o = .returned v ∧ Q_rmC3_2 Z va kv c0 c1 h0 n0 v U'.heap L ∧ FrameEnd U o U' L ({ frames := 1, cells := 1, slots := 2, locals := 18 } : Room).cells ({ frames := 1, cells := 1, slots := 2, locals := 18 } : Room).slots) := by
  refine MetFree.of_bodySF (plainFor_of_name pn_125) hisR ?_
  intro p e s m args below meth c s₁ Bd hml0 hP hK
  obtain ⟨rfl, hZ, hh⟩ := hP
  have hx := Bd.exec
  have hby := Bd.bytes
  have hml : c.maxLocals = 6 := hml0
  have hown : s.vm.findClass "java/lang/StringUTF16" = some m.cls := findClass_of_methodNamed Bd.named
  have hnm := (name_of_methodNamed Bd.named Bd.method).1
  have X0 : Stand p l e ({ frames := 1, cells := 1, slots := 2, locals := 18 } : Room) s m #[(.ref va), (.int (0 : Int32)), (.int (2 : Int32))] below meth c s₁ [] 0 0 := Stand.of_body Bd
  have e0 : s₁.heap = h0 := by rw [← hh, Bd.state]; rfl
  have N0 := Fr.nil n0
  refine Go.enter (F := EndN s (Q_rmC3_2 Z va kv c0 c1 h0 n0) ({ frames := 1, cells := 1, slots := 2, locals := 18 } : Room).cells ({ frames := 1, cells := 1, slots := 2, locals := 18 } : Room).slots) (ef_150 m va (0 : Int32) (2 : Int32)) ?_
  show Go _ _ _ _ s₁ (mkF m 0 #[.val (.ref va), .val (.int (0 : Int32)), .val (.int (2 : Int32)), .unset, .unset, .unset] [])
  refine Go.by (fun _ gk => XS.iloadN X0.here hx rfl (hb hby d9_0) rfl gk) ?_
  show Go _ _ _ _ s₁ (mkF m 1 #[.val (.ref va), .val (.int (0 : Int32)), .val (.int (2 : Int32)), .unset, .unset, .unset] [(.int (2 : Int32))])
  obtain ⟨da, g1⟩ : ∃ z, z = h0.size := ⟨_, rfl⟩
  have ge_da : n0 ≤ da := Nat.le_trans Z0 (Nat.le_of_eq g1.symm)
  have sz_da : h0.size ≤ da := Nat.le_trans (Keep.refl h0 []).1 (Nat.le_of_eq g1.symm)
  have ne_va_da : va ≠ da := Nat.ne_of_lt (Nat.lt_of_lt_of_le V_va.lt (Nat.le_of_eq g1.symm))
  obtain ⟨T1, h1, k1, X1, e1, E1, A1, Ea1, st1⟩ := newPE X0 hx hZ (hw _ (List.mem_of_getElem? (i := 25) rfl)) e0 (g := (mkF m 1 #[.val (.ref va), .val (.int (0 : Int32)), .val (.int (2 : Int32)), .unset, .unset, .unset] [(.int (2 : Int32))])) rfl (hb hby d9_1) rfl (by decide) (cap := 2) (by decide) (by decide) (by decide) (by decide) (ad := "[B") rfl
  rw [← g1] at A1 Ea1 st1
  have V_da : Arv Z h1 da k1 .byte (2 : Int32) [(.int (0 : Int32)), (.int (0 : Int32))] (.int (0 : Int32)) := (Arv.new A1 (by decide)).pad (pad_rep [] (.int (0 : Int32)) 2)
  refine Go.by st1 ?_
  show Go _ _ _ _ T1 (mkF m 3 #[.val (.ref va), .val (.int (0 : Int32)), .val (.int (2 : Int32)), .unset, .unset, .unset] [(.ref da)])
  refine Go.by (fun _ gk => XS.astoreN X1.here hx rfl (hb hby d9_3) rfl rfl (l' := #[.val (.ref va), .val (.int (0 : Int32)), .val (.int (2 : Int32)), .val (.ref da), .unset, .unset]) rfl gk) ?_
  show Go _ _ _ _ T1 (mkF m 4 #[.val (.ref va), .val (.int (0 : Int32)), .val (.int (2 : Int32)), .val (.ref da), .unset, .unset] [])
  refine Go.by (fun _ gk => XS.aloadN X1.here hx rfl (hb hby d9_4) rfl rfl gk) ?_
  show Go _ _ _ _ T1 (mkF m 5 #[.val (.ref va), .val (.int (0 : Int32)), .val (.int (2 : Int32)), .val (.ref da), .unset, .unset] [(.ref va)])
  refine Go.by (fun _ gk => XS.iloadN X1.here hx rfl (hb hby d9_5) rfl gk) ?_
  show Go _ _ _ _ T1 (mkF m 6 #[.val (.ref va), .val (.int (0 : Int32)), .val (.int (2 : Int32)), .val (.ref da), .unset, .unset] [(.int (0 : Int32)), (.ref va)])
  refine Go.by (fun _ gk => XS.aloadN X1.here hx rfl (hb hby d9_6) rfl rfl gk) ?_
  show Go _ _ _ _ T1 (mkF m 7 #[.val (.ref va), .val (.int (0 : Int32)), .val (.int (2 : Int32)), .val (.ref da), .unset, .unset] [(.ref da), (.int (0 : Int32)), (.ref va)])
  refine Go.by (fun _ gk => XT.iconstV X1.here hx rfl (0 : Int32) (hb hby d9_7) (by decide) gk) ?_
  show Go _ _ _ _ T1 (mkF m 8 #[.val (.ref va), .val (.int (0 : Int32)), .val (.int (2 : Int32)), .val (.ref da), .unset, .unset] [(.int (0 : Int32)), (.ref da), (.int (0 : Int32)), (.ref va)])
  refine Go.by (fun _ gk => XS.iloadN X1.here hx rfl (hb hby d9_8) rfl gk) ?_
  show Go _ _ _ _ T1 (mkF m 9 #[.val (.ref va), .val (.int (0 : Int32)), .val (.int (2 : Int32)), .val (.ref da), .unset, .unset] [(.int (2 : Int32)), (.int (0 : Int32)), (.ref da), (.int (0 : Int32)), (.ref va)])
  have F2 : Arv Z h1 va kv .char (2 : Int32) [(.int c0), (.int c1)] (.int (0 : Int32)) := V_va.ext E1
  have F3 : n0 ≤ h1.size := Nat.le_trans Z0 E1.1
  obtain ⟨_, _, ⟨T4, L4, k4, n4⟩, -, X4, ⟨Lc4, hQ4, l4, y4, z4⟩, st4⟩ := Jvm.LawKit.callS X1 hx (y := (⟨"java/lang/StringUTF16", "compress", "([CI[BII)I"⟩ : MethodName)) hown (mvT hZ (hw _ (List.mem_of_getElem? (i := 51) rfl))) (mvT hZ (hw _ (List.mem_of_getElem? (i := 52) rfl))) (mvT hZ (hw _ (List.mem_of_getElem? (i := 49) rfl))) (mvT hZ (hw _ (List.mem_of_getElem? (i := 53) rfl))) (by decide) (backOf (W := 0) (rmC5_2 l Z a0 hw [] va da kv k1 c0 c1 h1 n0 F3 F2 V_da ge_da ne_va_da hc0 hc1) hZ (hw _ (List.mem_of_getElem? (i := 53) rfl)) (hw _ (List.mem_of_getElem? (i := 49) rfl)) (by decide) (by decide)) (g := (mkF m 9 #[.val (.ref va), .val (.int (0 : Int32)), .val (.int (2 : Int32)), .val (.ref da), .unset, .unset] [(.int (2 : Int32)), (.int (0 : Int32)), (.ref da), (.int (0 : Int32)), (.ref va)])) rfl (by rw [hml]; rfl) (argsL := [(.ref va), (.int (0 : Int32)), (.ref da), (.int (0 : Int32)), (.int (2 : Int32))]) (rest := []) (lenOf pd_159 rfl) rfl (by show 2 * 0 + _ ≤ _; exact Nat.le_of_eq rfl) (hb hby d9_9) (fun _ _ => ⟨rfl, e1, (by decide : 1 + 0 ≤ _), (by decide : 2 + 0 ≤ _)⟩)
  dsimp only [Pt.U, Pt.locs, Pt.cells, Pt.slots] at X4 l4 y4 z4 st4 hQ4
  subst l4 y4 z4
  obtain ⟨rfl, N4q, K4, Q4_0⟩ := hQ4
  have N4 := Fr.app N0 N4q
  refine Go.by st4 ?_
  show Go _ _ _ _ T4 (mkF m 12 #[.val (.ref va), .val (.int (0 : Int32)), .val (.int (2 : Int32)), .val (.ref da), .unset, .unset] [(.int (2 : Int32))])
  refine Go.by (fun _ gk => XS.istore X4.here hx rfl (hb hby d9_12) rfl (l' := #[.val (.ref va), .val (.int (0 : Int32)), .val (.int (2 : Int32)), .val (.ref da), .val (.int (2 : Int32)), .unset]) rfl gk) ?_
  show Go _ _ _ _ T4 (mkF m 14 #[.val (.ref va), .val (.int (0 : Int32)), .val (.int (2 : Int32)), .val (.ref da), .val (.int (2 : Int32)), .unset] [])
  refine Go.by (fun _ gk => XS.iload X4.here hx rfl (hb hby d9_14) rfl gk) ?_
  show Go _ _ _ _ T4 (mkF m 16 #[.val (.ref va), .val (.int (0 : Int32)), .val (.int (2 : Int32)), .val (.ref da), .val (.int (2 : Int32)), .unset] [(.int (2 : Int32))])
  refine Go.by (fun _ gk => XS.iloadN X4.here hx rfl (hb hby d9_16) rfl gk) ?_
  show Go _ _ _ _ T4 (mkF m 17 #[.val (.ref va), .val (.int (0 : Int32)), .val (.int (2 : Int32)), .val (.ref da), .val (.int (2 : Int32)), .unset] [(.int (2 : Int32)), (.int (2 : Int32))])
  refine Go.by (fun _ gk => XS.icmpYes X4.here hx rfl (pc0 := 17) (pc' := 57) rfl (hb hby d9_17) rfl (XT.ii_eq_t rfl) (by decide) (by decide) gk) ?_
  show Go _ _ _ _ T4 (mkF m 57 #[.val (.ref va), .val (.int (0 : Int32)), .val (.int (2 : Int32)), .val (.ref da), .val (.int (2 : Int32)), .unset] [])
  refine Go.by (fun _ gk => XS.aloadN X4.here hx rfl (hb hby d9_57) rfl rfl gk) ?_
  show Go _ _ _ _ T4 (mkF m 58 #[.val (.ref va), .val (.int (0 : Int32)), .val (.int (2 : Int32)), .val (.ref da), .val (.int (2 : Int32)), .unset] [(.ref da)])
  have F5 : Keep h0 h1 [] := (Keep.refl h0 []).ext E1
  have F6 : Keep h0 T4.heap [] := F5.trans K4 (allS (Or.inr sz_da) all0)
  exact Go.retA X4 hx Bd.notSynchronized Bd.returns rfl rfl (hb hby d9_58) ⟨da, k1, rfl, N4, F6, Q4_0, sz_da⟩ (by decide) (by decide)
theorem ef_167 (m : MethodId) (x0 : Addr) (x1 : Int32) : entryFrame m #[(.ref x0), (.int x1)] 2 = mkF m 0 #[.val (.ref x0), .val (.int x1)] [] := by (first | (simp [entryFrame, mkF, argsToLocals, Value.category]; done) | rfl)
theorem d11_0 : decode jdk_52_method_15_code 0 = .ok (.iload_n 1, 1) := by decide +kernel
theorem d11_1 : decode jdk_52_method_15_code 1 = .ok (.aload_n 0, 1) := by decide +kernel
theorem d11_2 : decode jdk_52_method_15_code 2 = .ok (.arraylength, 1) := by decide +kernel
theorem d11_3 : decode jdk_52_method_15_code 3 = .ok (.isub, 1) := by decide +kernel
theorem d11_4 : decode jdk_52_method_15_code 4 = .ok (.bipush 31, 2) := by decide +kernel
theorem d11_6 : decode jdk_52_method_15_code 6 = .ok (.iushr, 1) := by decide +kernel
theorem d11_7 : decode jdk_52_method_15_code 7 = .ok (.i2b, 1) := by decide +kernel
theorem d11_8 : decode jdk_52_method_15_code 8 = .ok (.ireturn, 1) := by decide +kernel
def Q_rmCoder_2 (Z : State) (da : Addr) (kd : ClassId) (vs : List Value) (h0 : Heap) (n0 : Nat) (v : Option Value) (h : Heap) (L : List Loc) : Prop := v = some (.int (0 : Int32)) ∧ Fr n0 L ∧ h = h0
set_option maxRecDepth 65536 in
set_option maxHeartbeats 40000000 in
theorem rmCoder_2 (l : Launch) (Z : State) (a0 : Array Value) (hw : ∀ d ∈ tables_1, d.before a0 Z = true) (ws : List Jvm.Cond) (da : Addr) (kd : ClassId) (vs : List Value) (h0 : Heap) (n0 : Nat) (Z0 : n0 ≤ h0.size) (V_da : Arv Z h0 da kd .byte (2 : Int32) vs (.int (0 : Int32))) :
    MetFree l (⟨"java/lang/StringUTF16", "coderFromArrayLen", "([BI)B"⟩ : MethodName) (head1 (Jvm.Cond.code (⟨"java/lang/StringUTF16", "coderFromArrayLen", "([BI)B"⟩ : MethodName) jdk_52_method_15_code 2 (some .byte) :: ws) ({ frames := 0, cells := 0, slots := 0, locals := 0 } : Room)) (fun as' U => as' = #[(.ref da), (.int (2 : Int32))] ∧ Z.Warmed39 U.vm ∧ U.heap = h0) (fun _ _ _ _ _ => True) (fun _ U o U' => ∃ v L, o = .returned v ∧ Q_rmCoder_2 Z da kd vs h0 n0 v U'.heap L ∧ FrameEnd U o U' L ({ frames := 0, cells := 0, slots := 0, locals := 0 } : Room).cells ({ frames := 0, cells := 0, slots := 0, locals := 0 } : Room).slots) := by
  refine MetFree.of_bodySF (plainFor_of_name pn_125) hisR ?_
  intro p e s m args below meth c s₁ Bd hml0 hP hK
  obtain ⟨rfl, hZ, hh⟩ := hP
  have hx := Bd.exec
  have hby := Bd.bytes
  have hml : c.maxLocals = 2 := hml0
  have hown : s.vm.findClass "java/lang/StringUTF16" = some m.cls := findClass_of_methodNamed Bd.named
  have hnm := (name_of_methodNamed Bd.named Bd.method).1
  have X0 : Stand p l e ({ frames := 0, cells := 0, slots := 0, locals := 0 } : Room) s m #[(.ref da), (.int (2 : Int32))] below meth c s₁ [] 0 0 := Stand.of_body Bd
  have e0 : s₁.heap = h0 := by rw [← hh, Bd.state]; rfl
  have N0 := Fr.nil n0
  refine Go.enter (F := EndN s (Q_rmCoder_2 Z da kd vs h0 n0) ({ frames := 0, cells := 0, slots := 0, locals := 0 } : Room).cells ({ frames := 0, cells := 0, slots := 0, locals := 0 } : Room).slots) (ef_167 m da (2 : Int32)) ?_
  show Go _ _ _ _ s₁ (mkF m 0 #[.val (.ref da), .val (.int (2 : Int32))] [])
  refine Go.by (fun _ gk => XS.iloadN X0.here hx rfl (hb hby d11_0) rfl gk) ?_
  show Go _ _ _ _ s₁ (mkF m 1 #[.val (.ref da), .val (.int (2 : Int32))] [(.int (2 : Int32))])
  refine Go.by (fun _ gk => XS.aloadN X0.here hx rfl (hb hby d11_1) rfl rfl gk) ?_
  show Go _ _ _ _ s₁ (mkF m 2 #[.val (.ref da), .val (.int (2 : Int32))] [(.ref da), (.int (2 : Int32))])
  obtain ⟨cl1, Ar1, -, S1, M1, -, -⟩ := id V_da
  refine Go.by (fun _ gk => X0.arraylength hx (by rw [e0]; exact Ar1.1) (State.isArrayOf_alike hZ.alike Ar1.2.1) (g := (mkF m 2 #[.val (.ref da), .val (.int (2 : Int32))] [(.ref da), (.int (2 : Int32))])) rfl rfl (hb hby d11_2) _ gk) ?_
  rw [len_of S1 M1]
  show Go _ _ _ _ s₁ (mkF m 3 #[.val (.ref da), .val (.int (2 : Int32))] [(.int (2 : Int32)), (.int (2 : Int32))])
  refine Go.by (fun _ gk => XS.isub X0.here hx rfl (hb hby d11_3) rfl gk) ?_
  show Go _ _ _ _ s₁ (mkF m 4 #[.val (.ref da), .val (.int (2 : Int32))] [(.int ((2 : Int32) - (2 : Int32)))])
  rw [(by decide : ((2 : Int32) - (2 : Int32)) = (0 : Int32))]
  show Go _ _ _ _ s₁ (mkF m 4 #[.val (.ref da), .val (.int (2 : Int32))] [(.int (0 : Int32))])
  refine Go.by (fun _ gk => XT.bipushV X0.here hx rfl (31 : Int32) (hb hby d11_4) (by decide) gk) ?_
  show Go _ _ _ _ s₁ (mkF m 6 #[.val (.ref da), .val (.int (2 : Int32))] [(.int (31 : Int32)), (.int (0 : Int32))])
  refine Go.by (fun _ gk => XT.iushr X0.here hx rfl (hb hby d11_6) rfl gk) ?_
  show Go _ _ _ _ s₁ (mkF m 7 #[.val (.ref da), .val (.int (2 : Int32))] [(.int (XT.ushr (0 : Int32) (31 : Int32)))])
  rw [(by decide : (XT.ushr (0 : Int32) (31 : Int32)) = (0 : Int32))]
  show Go _ _ _ _ s₁ (mkF m 7 #[.val (.ref da), .val (.int (2 : Int32))] [(.int (0 : Int32))])
  refine Go.by (fun _ gk => XT.i2b X0.here hx rfl (hb hby d11_7) rfl gk) ?_
  show Go _ _ _ _ s₁ (mkF m 8 #[.val (.ref da), .val (.int (2 : Int32))] [(.int ((0 : Int32).toInt8.toInt32))])
  rw [(by decide : ((0 : Int32).toInt8.toInt32) = (0 : Int32))]
  show Go _ _ _ _ s₁ (mkF m 8 #[.val (.ref da), .val (.int (2 : Int32))] [(.int (0 : Int32))])
  exact Go.retI X0 hx Bd.notSynchronized Bd.returns rfl (by simp) (hb hby d11_8) (by rw [e0]; exact ⟨rfl, N0, rfl⟩) (by decide) (by decide)
theorem d4_27 : decode jdk_42_method_149_code 27 = .ok (.getstatic 38, 3) := by decide +kernel
theorem d4_30 : decode jdk_42_method_149_code 30 = .ok (.ifCond .eq 28, 3) := by decide +kernel
theorem d4_33 : decode jdk_42_method_149_code 33 = .ok (.aload_n 1, 1) := by decide +kernel
theorem d4_34 : decode jdk_42_method_149_code 34 = .ok (.iload_n 2, 1) := by decide +kernel
theorem d4_35 : decode jdk_42_method_149_code 35 = .ok (.iload_n 3, 1) := by decide +kernel
theorem pd_181 : parseMethodDescriptor "([CII)[B" = some ⟨[(.array .char), .int, .int], some (.array .byte)⟩ := by decide +kernel
theorem d4_36 : decode jdk_42_method_149_code 36 = .ok (.invokestatic 177, 3) := by decide +kernel
theorem d4_39 : decode jdk_42_method_149_code 39 = .ok (.astore 5, 2) := by decide +kernel
theorem d4_41 : decode jdk_42_method_149_code 41 = .ok (.aload_n 0, 1) := by decide +kernel
theorem d4_42 : decode jdk_42_method_149_code 42 = .ok (.aload 5, 2) := by decide +kernel
theorem d4_44 : decode jdk_42_method_149_code 44 = .ok (.iload_n 3, 1) := by decide +kernel
theorem pd_187 : parseMethodDescriptor "([BI)B" = some ⟨[(.array .byte), .int], some .byte⟩ := by decide +kernel
theorem d4_45 : decode jdk_42_method_149_code 45 = .ok (.invokestatic 47, 3) := by decide +kernel
theorem d4_48 : decode jdk_42_method_149_code 48 = .ok (.putfield 15, 3) := by decide +kernel
theorem d4_51 : decode jdk_42_method_149_code 51 = .ok (.aload_n 0, 1) := by decide +kernel
theorem d4_52 : decode jdk_42_method_149_code 52 = .ok (.aload 5, 2) := by decide +kernel
theorem d4_54 : decode jdk_42_method_149_code 54 = .ok (.putfield 9, 3) := by decide +kernel
theorem d4_57 : decode jdk_42_method_149_code 57 = .ok (.return_, 1) := by decide +kernel
def Q_rmS4_2 (Z : State) (a : Addr) (va : Addr) (kv : ClassId) (c0 : Int32) (c1 : Int32) (cs : Int32) (h0 : Heap) (n0 : Nat) (v : Option Value) (h : Heap) (L : List Loc) : Prop := ∃ b : Addr, ∃ kb : ClassId, v = none ∧ Fr n0 L ∧ Keep h0 h [a] ∧ Exa Z h a "java/lang/String" ∧ Fld Z h a "java/lang/String" "coder" "B" (.int (0 : Int32)) ∧ Fld Z h a "java/lang/String" "value" "[B" (.ref b) ∧ Arv Z h b kb .byte (2 : Int32) ([(.int (own_b c0)), (.int (own_b c1))]) (.int (0 : Int32)) ∧ h0.size ≤ b
set_option maxRecDepth 65536 in
set_option maxHeartbeats 40000000 in
theorem rmS4_2 (l : Launch) (Z : State) (a0 : Array Value) (hw : ∀ d ∈ tables_1, d.before a0 Z = true) (ws : List Jvm.Cond) (a : Addr) (va : Addr) (kv : ClassId) (c0 : Int32) (c1 : Int32) (cs : Int32) (h0 : Heap) (n0 : Nat) (Z0 : n0 ≤ h0.size) (O0 : Old Z n0 h0) (E_a : Exa Z h0 a "java/lang/String") (F_a_value : Fld Z h0 a "java/lang/String" "value" "[B" .null) (F_a_coder : Fld Z h0 a "java/lang/String" "coder" "B" (.int (0 : Int32))) (g_a : n0 ≤ a) (V_va : Arv Z h0 va kv .char (2 : Int32) ([(.int c0), (.int c1)]) (.int (0 : Int32))) (hc0 : (¬ (255 : Int32) < c0)) (hc1 : (¬ (255 : Int32) < c1)) (S_cs : Sta Z Z.heap "java/lang/String" "COMPACT_STRINGS" "Z" (.int cs)) (n_cs : ¬ cs = 0) :
    MetFree l (⟨"java/lang/String", "<init>", "([CIILjava/lang/Void;)V"⟩ : MethodName) (head1 (Jvm.Cond.code (⟨"java/lang/String", "<init>", "([CIILjava/lang/Void;)V"⟩ : MethodName) jdk_42_method_149_code 6 none :: ws) ({ frames := 2, cells := 1, slots := 2, locals := 35 } : Room)) (fun as' U => as' = #[(.ref a), (.ref va), (.int (0 : Int32)), (.int (2 : Int32)), .null] ∧ Z.Warmed39 U.vm ∧ U.heap = h0) (fun _ _ _ _ _ => True) (fun _ U o U' => ∃ v L, o = .returned v ∧ Q_rmS4_2 Z a va kv c0 c1 cs h0 n0 v U'.heap L ∧ FrameEnd U o U' L ({ frames := 2, cells := 1, slots := 2, locals := 35 } : Room).cells ({ frames := 2, cells := 1, slots := 2, locals := 35 } : Room).slots) := by
  refine MetFree.of_bodySF (plainFor_of_name pn_38) hisR ?_
  intro p e s m args below meth c s₁ Bd hml0 hP hK
  obtain ⟨rfl, hZ, hh⟩ := hP
  have hx := Bd.exec
  have hby := Bd.bytes
  have hml : c.maxLocals = 6 := hml0
  have hown : s.vm.findClass "java/lang/String" = some m.cls := findClass_of_methodNamed Bd.named
  have hnm := (name_of_methodNamed Bd.named Bd.method).1
  have X0 : Stand p l e ({ frames := 2, cells := 1, slots := 2, locals := 35 } : Room) s m #[(.ref a), (.ref va), (.int (0 : Int32)), (.int (2 : Int32)), .null] below meth c s₁ [] 0 0 := Stand.of_body Bd
  have e0 : s₁.heap = h0 := by rw [← hh, Bd.state]; rfl
  have N0 := Fr.nil n0
  refine Go.enter (F := EndN s (Q_rmS4_2 Z a va kv c0 c1 cs h0 n0) ({ frames := 2, cells := 1, slots := 2, locals := 35 } : Room).cells ({ frames := 2, cells := 1, slots := 2, locals := 35 } : Room).slots) (ef_75 m a va (0 : Int32) (2 : Int32)) ?_
  show Go _ _ _ _ s₁ (mkF m 0 #[.val (.ref a), .val (.ref va), .val (.int (0 : Int32)), .val (.int (2 : Int32)), .val .null, .unset] [])
  refine Go.by (fun _ gk => XS.aloadN X0.here hx rfl (hb hby d4_0) rfl rfl gk) ?_
  show Go _ _ _ _ s₁ (mkF m 1 #[.val (.ref a), .val (.ref va), .val (.int (0 : Int32)), .val (.int (2 : Int32)), .val .null, .unset] [(.ref a)])
  obtain ⟨T1, X1, e1, st1⟩ := initO X0 hx hZ hown (hw _ (List.mem_of_getElem? (i := 21) rfl)) (hw _ (List.mem_of_getElem? (i := 22) rfl)) (hw _ (List.mem_of_getElem? (i := 23) rfl)) e0 (g := (mkF m 1 #[.val (.ref a), .val (.ref va), .val (.int (0 : Int32)), .val (.int (2 : Int32)), .val .null, .unset] [(.ref a)])) rfl (by rw [hml]; rfl) rfl (hb hby d4_1) (by decide) (W := 0) (by show 2 * 0 + _ ≤ _; exact Nat.le_of_eq rfl) (by decide)
  refine Go.by st1 ?_
  show Go _ _ _ _ T1 (mkF m 4 #[.val (.ref a), .val (.ref va), .val (.int (0 : Int32)), .val (.int (2 : Int32)), .val .null, .unset] [])
  refine Go.by (fun _ gk => XS.iloadN X1.here hx rfl (hb hby d4_4) rfl gk) ?_
  show Go _ _ _ _ T1 (mkF m 5 #[.val (.ref a), .val (.ref va), .val (.int (0 : Int32)), .val (.int (2 : Int32)), .val .null, .unset] [(.int (2 : Int32))])
  refine Go.by (fun _ gk => XS.ifYes X1.here hx rfl (pc0 := 5) (pc' := 27) rfl (hb hby d4_5) rfl (XT.i0_ne_t (by decide)) (by decide) (by decide) gk) ?_
  show Go _ _ _ _ T1 (mkF m 27 #[.val (.ref a), .val (.ref va), .val (.int (0 : Int32)), .val (.int (2 : Int32)), .val .null, .unset] [])
  have F2 : Sta Z h0 "java/lang/String" "COMPACT_STRINGS" "Z" (.int cs) := S_cs.ext O0.2
  obtain ⟨T3, X3, e3, st3⟩ := getS2 X1 hx hZ hown (host := "") (Or.inl (hw _ (List.mem_of_getElem? (i := 46) rfl))) Via.refl e1 F2 (g := (mkF m 27 #[.val (.ref a), .val (.ref va), .val (.int (0 : Int32)), .val (.int (2 : Int32)), .val .null, .unset] [])) rfl (hb hby d4_27)
  refine Go.by st3 ?_
  show Go _ _ _ _ T3 (mkF m 30 #[.val (.ref a), .val (.ref va), .val (.int (0 : Int32)), .val (.int (2 : Int32)), .val .null, .unset] [(.int cs)])
  refine Go.by (fun _ gk => XS.ifNo X3.here hx rfl (hb hby d4_30) rfl (XT.i0_eq_f n_cs) gk) ?_
  show Go _ _ _ _ T3 (mkF m 33 #[.val (.ref a), .val (.ref va), .val (.int (0 : Int32)), .val (.int (2 : Int32)), .val .null, .unset] [])
  refine Go.by (fun _ gk => XS.aloadN X3.here hx rfl (hb hby d4_33) rfl rfl gk) ?_
  show Go _ _ _ _ T3 (mkF m 34 #[.val (.ref a), .val (.ref va), .val (.int (0 : Int32)), .val (.int (2 : Int32)), .val .null, .unset] [(.ref va)])
  refine Go.by (fun _ gk => XS.iloadN X3.here hx rfl (hb hby d4_34) rfl gk) ?_
  show Go _ _ _ _ T3 (mkF m 35 #[.val (.ref a), .val (.ref va), .val (.int (0 : Int32)), .val (.int (2 : Int32)), .val .null, .unset] [(.int (0 : Int32)), (.ref va)])
  refine Go.by (fun _ gk => XS.iloadN X3.here hx rfl (hb hby d4_35) rfl gk) ?_
  show Go _ _ _ _ T3 (mkF m 36 #[.val (.ref a), .val (.ref va), .val (.int (0 : Int32)), .val (.int (2 : Int32)), .val .null, .unset] [(.int (2 : Int32)), (.int (0 : Int32)), (.ref va)])
  obtain ⟨_, _, ⟨T4, L4, k4, n4⟩, -, X4, ⟨Lc4, hQ4, l4, y4, z4⟩, st4⟩ := Jvm.LawKit.callS X3 hx (y := (⟨"java/lang/StringUTF16", "compress", "([CII)[B"⟩ : MethodName)) hown (mvT hZ (hw _ (List.mem_of_getElem? (i := 47) rfl))) (mvT hZ (hw _ (List.mem_of_getElem? (i := 48) rfl))) (mvT hZ (hw _ (List.mem_of_getElem? (i := 49) rfl))) (mvT hZ (hw _ (List.mem_of_getElem? (i := 50) rfl))) (by decide) (backOf (W := 0) (rmC3_2 l Z a0 hw [] va kv c0 c1 h0 n0 Z0 V_va hc0 hc1) hZ (hw _ (List.mem_of_getElem? (i := 50) rfl)) (hw _ (List.mem_of_getElem? (i := 49) rfl)) (by decide) (by decide)) (g := (mkF m 36 #[.val (.ref a), .val (.ref va), .val (.int (0 : Int32)), .val (.int (2 : Int32)), .val .null, .unset] [(.int (2 : Int32)), (.int (0 : Int32)), (.ref va)])) rfl (by rw [hml]; rfl) (argsL := [(.ref va), (.int (0 : Int32)), (.int (2 : Int32))]) (rest := []) (lenOf pd_181 rfl) rfl (by show 2 * 0 + _ ≤ _; exact Nat.le_of_eq rfl) (hb hby d4_36) (fun _ _ => ⟨rfl, e3, (by decide : 0 + 1 ≤ _), (by decide : 0 + 2 ≤ _)⟩)
  dsimp only [Pt.U, Pt.locs, Pt.cells, Pt.slots] at X4 l4 y4 z4 st4 hQ4
  subst l4 y4 z4
  obtain ⟨b, kb, rfl, N4q, K4, Q4_0, Q4_1⟩ := hQ4
  have N4 := Fr.app N0 N4q
  refine Go.by st4 ?_
  show Go _ _ _ _ T4 (mkF m 39 #[.val (.ref a), .val (.ref va), .val (.int (0 : Int32)), .val (.int (2 : Int32)), .val .null, .unset] [(.ref b)])
  have ge_b : n0 ≤ b := Nat.le_trans Z0 Q4_1
  have sz_b : h0.size ≤ b := Nat.le_trans (Keep.refl h0 [a]).1 Q4_1
  have ne_a_b : a ≠ b := Nat.ne_of_lt (Nat.lt_of_lt_of_le E_a.lt Q4_1)
  have ne_va_b : va ≠ b := Nat.ne_of_lt (Nat.lt_of_lt_of_le V_va.lt Q4_1)
  refine Go.by (fun _ gk => XS.astore X4.here hx rfl (hb hby d4_39) rfl rfl (l' := #[.val (.ref a), .val (.ref va), .val (.int (0 : Int32)), .val (.int (2 : Int32)), .val .null, .val (.ref b)]) rfl gk) ?_
  show Go _ _ _ _ T4 (mkF m 41 #[.val (.ref a), .val (.ref va), .val (.int (0 : Int32)), .val (.int (2 : Int32)), .val .null, .val (.ref b)] [])
  refine Go.by (fun _ gk => XS.aloadN X4.here hx rfl (hb hby d4_41) rfl rfl gk) ?_
  show Go _ _ _ _ T4 (mkF m 42 #[.val (.ref a), .val (.ref va), .val (.int (0 : Int32)), .val (.int (2 : Int32)), .val .null, .val (.ref b)] [(.ref a)])
  refine Go.by (fun _ gk => XS.aload X4.here hx rfl (hb hby d4_42) rfl rfl gk) ?_
  show Go _ _ _ _ T4 (mkF m 44 #[.val (.ref a), .val (.ref va), .val (.int (0 : Int32)), .val (.int (2 : Int32)), .val .null, .val (.ref b)] [(.ref b), (.ref a)])
  refine Go.by (fun _ gk => XS.iloadN X4.here hx rfl (hb hby d4_44) rfl gk) ?_
  show Go _ _ _ _ T4 (mkF m 45 #[.val (.ref a), .val (.ref va), .val (.int (0 : Int32)), .val (.int (2 : Int32)), .val .null, .val (.ref b)] [(.int (2 : Int32)), (.ref b), (.ref a)])
  have F5 : n0 ≤ T4.heap.size := Nat.le_trans Z0 K4.1
  obtain ⟨_, _, ⟨T6, L6, k6, n6⟩, -, X6, ⟨Lc6, hQ6, l6, y6, z6⟩, st6⟩ := Jvm.LawKit.callS X4 hx (y := (⟨"java/lang/StringUTF16", "coderFromArrayLen", "([BI)B"⟩ : MethodName)) hown (mvT hZ (hw _ (List.mem_of_getElem? (i := 54) rfl))) (mvT hZ (hw _ (List.mem_of_getElem? (i := 55) rfl))) (mvT hZ (hw _ (List.mem_of_getElem? (i := 49) rfl))) (mvT hZ (hw _ (List.mem_of_getElem? (i := 56) rfl))) (by decide) (backOf (W := 1) (rmCoder_2 l Z a0 hw [] b kb ([(.int (own_b c0)), (.int (own_b c1))]) T4.heap n0 F5 Q4_0) hZ (hw _ (List.mem_of_getElem? (i := 56) rfl)) (hw _ (List.mem_of_getElem? (i := 49) rfl)) (by decide) (by decide)) (g := (mkF m 45 #[.val (.ref a), .val (.ref va), .val (.int (0 : Int32)), .val (.int (2 : Int32)), .val .null, .val (.ref b)] [(.int (2 : Int32)), (.ref b), (.ref a)])) rfl (by rw [hml]; rfl) (argsL := [(.ref b), (.int (2 : Int32))]) (rest := [(.ref a)]) (lenOf pd_187 rfl) rfl (by show 2 * 0 + _ ≤ _; exact Nat.le_of_eq rfl) (hb hby d4_45) (fun _ _ => ⟨rfl, rfl, (by decide : 1 + 0 ≤ _), (by decide : 2 + 0 ≤ _)⟩)
  dsimp only [Pt.U, Pt.locs, Pt.cells, Pt.slots] at X6 l6 y6 z6 st6 hQ6
  subst l6 y6 z6
  obtain ⟨rfl, N6q, e6⟩ := hQ6
  have N6 := Fr.app N4 N6q
  refine Go.by st6 ?_
  show Go _ _ _ _ T6 (mkF m 48 #[.val (.ref a), .val (.ref va), .val (.int (0 : Int32)), .val (.int (2 : Int32)), .val .null, .val (.ref b)] [(.int (0 : Int32)), (.ref a)])
  have F7 : Fld Z T4.heap a "java/lang/String" "coder" "B" (.int (0 : Int32)) := F_a_coder.keep K4 nin0
  have F8 : Exa Z T4.heap a "java/lang/String" := E_a.keep K4
  obtain ⟨T9, h9, X9, e9, W9, st9⟩ := putFN X6 hx hZ hown (hw _ (List.mem_of_getElem? (i := 31) rfl)) Via.refl e6 F7 F8 (Or.inr ⟨(hw _ (List.mem_of_getElem? (i := 27) rfl)), rfl, hnm⟩) (hw _ (List.mem_of_getElem? (i := 11) rfl)) (ty := .byte) (v' := (.int (0 : Int32))) (by decide) rfl rfl (g := (mkF m 48 #[.val (.ref a), .val (.ref va), .val (.int (0 : Int32)), .val (.int (2 : Int32)), .val .null, .val (.ref b)] [(.int (0 : Int32)), (.ref a)])) rfl rfl (hb hby d4_48)
  have N9 := Fr.snoc X9 N6 g_a
  have Fw9 : Fld Z h9 a "java/lang/String" "coder" "B" (.int (0 : Int32)) := F7.same W9
  refine Go.by st9 ?_
  show Go _ _ _ _ T9 (mkF m 51 #[.val (.ref a), .val (.ref va), .val (.int (0 : Int32)), .val (.int (2 : Int32)), .val .null, .val (.ref b)] [])
  refine Go.by (fun _ gk => XS.aloadN X9.here hx rfl (hb hby d4_51) rfl rfl gk) ?_
  show Go _ _ _ _ T9 (mkF m 52 #[.val (.ref a), .val (.ref va), .val (.int (0 : Int32)), .val (.int (2 : Int32)), .val .null, .val (.ref b)] [(.ref a)])
  refine Go.by (fun _ gk => XS.aload X9.here hx rfl (hb hby d4_52) rfl rfl gk) ?_
  show Go _ _ _ _ T9 (mkF m 54 #[.val (.ref a), .val (.ref va), .val (.int (0 : Int32)), .val (.int (2 : Int32)), .val .null, .val (.ref b)] [(.ref b), (.ref a)])
  have F10 : Fld Z T4.heap a "java/lang/String" "value" "[B" .null := F_a_value.keep K4 nin0
  have F11 : Fld Z h9 a "java/lang/String" "value" "[B" .null := F10.other W9 (Or.inr (slot_ne (Or.inr (hw _ (List.mem_of_getElem? (i := 26) rfl))) (Or.inr (hw _ (List.mem_of_getElem? (i := 27) rfl))) (by decide) (t := (.array .byte)) (t' := .byte) (by decide) (by decide)))
  have F12 : Exa Z h9 a "java/lang/String" := F8.wr W9
  obtain ⟨T13, h13, X13, e13, W13, st13⟩ := putF X9 hx hZ hown (host := "") (Or.inl (hw _ (List.mem_of_getElem? (i := 30) rfl))) Via.refl e9 F11 F12 (Or.inr ⟨(hw _ (List.mem_of_getElem? (i := 26) rfl)), rfl, hnm⟩) (hw _ (List.mem_of_getElem? (i := 11) rfl)) (ty := (.array .byte)) (by decide) rfl rfl (g := (mkF m 54 #[.val (.ref a), .val (.ref va), .val (.int (0 : Int32)), .val (.int (2 : Int32)), .val .null, .val (.ref b)] [(.ref b), (.ref a)])) rfl rfl (hb hby d4_54)
  have N13 := Fr.snoc X13 N9 g_a
  have Fw13 : Fld Z h13 a "java/lang/String" "value" "[B" (.ref b) := F11.same W13
  refine Go.by st13 ?_
  show Go _ _ _ _ T13 (mkF m 57 #[.val (.ref a), .val (.ref va), .val (.int (0 : Int32)), .val (.int (2 : Int32)), .val .null, .val (.ref b)] [])
  have F14 : Keep h0 T4.heap [a] := (Keep.refl h0 [a]).trans K4 all0
  have F15 : Keep h0 h9 [a] := F14.wr W9 (Or.inl (List.mem_of_getElem? (i := 0) rfl))
  have F16 : Keep h0 h13 [a] := F15.wr W13 (Or.inl (List.mem_of_getElem? (i := 0) rfl))
  have F17 : Exa Z h13 a "java/lang/String" := F12.wr W13
  have F18 : Fld Z h13 a "java/lang/String" "coder" "B" (.int (0 : Int32)) := Fw9.other W13 (Or.inr (slot_ne (Or.inr (hw _ (List.mem_of_getElem? (i := 27) rfl))) (Or.inr (hw _ (List.mem_of_getElem? (i := 26) rfl))) (by decide) (t := .byte) (t' := (.array .byte)) (by decide) (by decide)))
  have F19 : Arv Z h9 b kb .byte (2 : Int32) [(.int (own_b c0)), (.int (own_b c1))] (.int (0 : Int32)) := Q4_0.other W9 (Ne.symm ne_a_b)
  have F20 : Arv Z h13 b kb .byte (2 : Int32) [(.int (own_b c0)), (.int (own_b c1))] (.int (0 : Int32)) := F19.other W13 (Ne.symm ne_a_b)
  exact Go.retV X13 hx Bd.notSynchronized Bd.returns (hb hby d4_57) (by rw [e13]; exact ⟨b, kb, rfl, N13, F16, F17, F18, Fw13, F20, sz_b⟩) (by decide) (by decide)
def Q_rmS1_2 (Z : State) (a : Addr) (va : Addr) (kv : ClassId) (c0 : Int32) (c1 : Int32) (cs : Int32) (h0 : Heap) (n0 : Nat) (v : Option Value) (h : Heap) (L : List Loc) : Prop := ∃ b : Addr, ∃ kb : ClassId, v = none ∧ Fr n0 L ∧ Keep h0 h [a] ∧ Exa Z h a "java/lang/String" ∧ Fld Z h a "java/lang/String" "coder" "B" (.int (0 : Int32)) ∧ Fld Z h a "java/lang/String" "value" "[B" (.ref b) ∧ Arv Z h b kb .byte (2 : Int32) ([(.int (own_b c0)), (.int (own_b c1))]) (.int (0 : Int32)) ∧ h0.size ≤ b
set_option maxRecDepth 65536 in
set_option maxHeartbeats 40000000 in
theorem rmS1_2 (l : Launch) (Z : State) (a0 : Array Value) (hw : ∀ d ∈ tables_1, d.before a0 Z = true) (ws : List Jvm.Cond) (a : Addr) (va : Addr) (kv : ClassId) (c0 : Int32) (c1 : Int32) (cs : Int32) (h0 : Heap) (n0 : Nat) (Z0 : n0 ≤ h0.size) (O0 : Old Z n0 h0) (E_a : Exa Z h0 a "java/lang/String") (F_a_value : Fld Z h0 a "java/lang/String" "value" "[B" .null) (F_a_coder : Fld Z h0 a "java/lang/String" "coder" "B" (.int (0 : Int32))) (g_a : n0 ≤ a) (V_va : Arv Z h0 va kv .char (2 : Int32) ([(.int c0), (.int c1)]) (.int (0 : Int32))) (hc0 : (¬ (255 : Int32) < c0)) (hc1 : (¬ (255 : Int32) < c1)) (S_cs : Sta Z Z.heap "java/lang/String" "COMPACT_STRINGS" "Z" (.int cs)) (n_cs : ¬ cs = 0) :
    MetFree l (⟨"java/lang/String", "<init>", "([C)V"⟩ : MethodName) (head1 (Jvm.Cond.code (⟨"java/lang/String", "<init>", "([C)V"⟩ : MethodName) jdk_42_method_3_code 2 none :: ws) ({ frames := 3, cells := 1, slots := 2, locals := 52 } : Room)) (fun as' U => as' = #[(.ref a), (.ref va)] ∧ Z.Warmed39 U.vm ∧ U.heap = h0) (fun _ _ _ _ _ => True) (fun _ U o U' => ∃ v L, o = .returned v ∧ Q_rmS1_2 Z a va kv c0 c1 cs h0 n0 v U'.heap L ∧ FrameEnd U o U' L ({ frames := 3, cells := 1, slots := 2, locals := 52 } : Room).cells ({ frames := 3, cells := 1, slots := 2, locals := 52 } : Room).slots) := by
  refine MetFree.of_bodySF (plainFor_of_name pn_38) hisR ?_
  intro p e s m args below meth c s₁ Bd hml0 hP hK
  obtain ⟨rfl, hZ, hh⟩ := hP
  have hx := Bd.exec
  have hby := Bd.bytes
  have hml : c.maxLocals = 2 := hml0
  have hown : s.vm.findClass "java/lang/String" = some m.cls := findClass_of_methodNamed Bd.named
  have hnm := (name_of_methodNamed Bd.named Bd.method).1
  have X0 : Stand p l e ({ frames := 3, cells := 1, slots := 2, locals := 52 } : Room) s m #[(.ref a), (.ref va)] below meth c s₁ [] 0 0 := Stand.of_body Bd
  have e0 : s₁.heap = h0 := by rw [← hh, Bd.state]; rfl
  have N0 := Fr.nil n0
  refine Go.enter (F := EndN s (Q_rmS1_2 Z a va kv c0 c1 cs h0 n0) ({ frames := 3, cells := 1, slots := 2, locals := 52 } : Room).cells ({ frames := 3, cells := 1, slots := 2, locals := 52 } : Room).slots) (ef_89 m a va) ?_
  show Go _ _ _ _ s₁ (mkF m 0 #[.val (.ref a), .val (.ref va)] [])
  refine Go.by (fun _ gk => XS.aloadN X0.here hx rfl (hb hby d3_0) rfl rfl gk) ?_
  show Go _ _ _ _ s₁ (mkF m 1 #[.val (.ref a), .val (.ref va)] [(.ref a)])
  refine Go.by (fun _ gk => XS.aloadN X0.here hx rfl (hb hby d3_1) rfl rfl gk) ?_
  show Go _ _ _ _ s₁ (mkF m 2 #[.val (.ref a), .val (.ref va)] [(.ref va), (.ref a)])
  refine Go.by (fun _ gk => XT.iconstV X0.here hx rfl (0 : Int32) (hb hby d3_2) (by decide) gk) ?_
  show Go _ _ _ _ s₁ (mkF m 3 #[.val (.ref a), .val (.ref va)] [(.int (0 : Int32)), (.ref va), (.ref a)])
  refine Go.by (fun _ gk => XS.aloadN X0.here hx rfl (hb hby d3_3) rfl rfl gk) ?_
  show Go _ _ _ _ s₁ (mkF m 4 #[.val (.ref a), .val (.ref va)] [(.ref va), (.int (0 : Int32)), (.ref va), (.ref a)])
  obtain ⟨cl1, Ar1, -, S1, M1, -, -⟩ := id V_va
  refine Go.by (fun _ gk => X0.arraylength hx (by rw [e0]; exact Ar1.1) (State.isArrayOf_alike hZ.alike Ar1.2.1) (g := (mkF m 4 #[.val (.ref a), .val (.ref va)] [(.ref va), (.int (0 : Int32)), (.ref va), (.ref a)])) rfl rfl (hb hby d3_4) _ gk) ?_
  rw [len_of S1 M1]
  show Go _ _ _ _ s₁ (mkF m 5 #[.val (.ref a), .val (.ref va)] [(.int (2 : Int32)), (.int (0 : Int32)), (.ref va), (.ref a)])
  refine Go.by (fun _ gk => XS.aconstNull X0.here hx rfl (hb hby d3_5) gk) ?_
  show Go _ _ _ _ s₁ (mkF m 6 #[.val (.ref a), .val (.ref va)] [.null, (.int (2 : Int32)), (.int (0 : Int32)), (.ref va), (.ref a)])
  obtain ⟨_, _, ⟨T2, L2, k2, n2⟩, -, X2, ⟨Lc2, hQ2, l2, y2, z2⟩, st2⟩ := X0.specialBack hx (y := (⟨"java/lang/String", "<init>", "([CIILjava/lang/Void;)V"⟩ : MethodName)) rfl hown (mvT hZ (hw _ (List.mem_of_getElem? (i := 17) rfl))) (mvT hZ (hw _ (List.mem_of_getElem? (i := 18) rfl))) (mvT hZ (hw _ (List.mem_of_getElem? (i := 20) rfl))) (by decide) (backOf (W := 0) (rmS4_2 l Z a0 hw [] a va kv c0 c1 cs h0 n0 Z0 O0 E_a F_a_value F_a_coder g_a V_va hc0 hc1 S_cs n_cs) hZ (hw _ (List.mem_of_getElem? (i := 20) rfl)) (hw _ (List.mem_of_getElem? (i := 12) rfl)) (by decide) (by decide)) (g := (mkF m 6 #[.val (.ref a), .val (.ref va)] [.null, (.int (2 : Int32)), (.int (0 : Int32)), (.ref va), (.ref a)])) rfl (by rw [hml]; rfl) (Steps.refl _) (a := a) (argsL := [(.ref va), (.int (0 : Int32)), (.int (2 : Int32)), .null]) (rest := []) (lenOf pd_96 rfl) rfl (by show 2 * 0 + _ ≤ _; exact Nat.le_of_eq rfl) (hb hby d3_6) (fun _ _ => ⟨rfl, e0, (by decide : 0 + 1 ≤ _), (by decide : 0 + 2 ≤ _)⟩)
  dsimp only [Pt.U, Pt.locs, Pt.cells, Pt.slots] at X2 l2 y2 z2 st2 hQ2
  subst l2 y2 z2
  obtain ⟨b, kb, rfl, N2q, K2, Q2_0, Q2_1, Q2_2, Q2_3, Q2_4⟩ := hQ2
  have N2 := Fr.app N0 N2q
  refine Go.to st2 ?_
  show Go _ _ _ _ T2 (mkF m 9 #[.val (.ref a), .val (.ref va)] [])
  have ge_b : n0 ≤ b := Nat.le_trans Z0 Q2_4
  have sz_b : h0.size ≤ b := Nat.le_trans (Keep.refl h0 [a]).1 Q2_4
  have ne_a_b : a ≠ b := Nat.ne_of_lt (Nat.lt_of_lt_of_le E_a.lt Q2_4)
  have ne_va_b : va ≠ b := Nat.ne_of_lt (Nat.lt_of_lt_of_le V_va.lt Q2_4)
  have F3 : Keep h0 T2.heap [a] := (Keep.refl h0 [a]).trans K2 (allS (Or.inl (List.mem_of_getElem? (i := 0) rfl)) all0)
  exact Go.retV X2 hx Bd.notSynchronized Bd.returns (hb hby d3_9) ⟨b, kb, rfl, N2, F3, Q2_0, Q2_1, Q2_2, Q2_3, sz_b⟩ (by decide) (by decide)
theorem d1_54 : decode method_5_code 54 = .ok (.invokespecial 15, 3) := by decide +kernel
theorem d1_57 : decode method_5_code 57 = .ok (.areturn, 1) := by decide +kernel
def Q_rmStr (Z : State) (x : Int32) (cs : Int32) (h0 : Heap) (n0 : Nat) (v : Option Value) (h : Heap) (L : List Loc) : Prop := ∃ st : Addr, ∃ sb : Addr, ∃ kb : ClassId, v = some (.ref st) ∧ Fr n0 L ∧ Keep h0 h [] ∧ Exa Z h st "java/lang/String" ∧ Fld Z h st "java/lang/String" "coder" "B" (.int (0 : Int32)) ∧ Fld Z h st "java/lang/String" "value" "[B" (.ref sb) ∧ Arv Z h sb kb .byte (own_ln x) (own_str (own_ln x) (own_ca x) (own_cb x)) (.int (0 : Int32)) ∧ h0.size ≤ st
set_option maxRecDepth 65536 in
set_option maxHeartbeats 40000000 in
theorem rmStr (l : Launch) (Z : State) (a0 : Array Value) (hw : ∀ d ∈ tables_1, d.before a0 Z = true) (ws : List Jvm.Cond) (x : Int32) (cs : Int32) (h0 : Heap) (n0 : Nat) (Z0 : n0 ≤ h0.size) (O0 : Old Z n0 h0) (S_cs : Sta Z Z.heap "java/lang/String" "COMPACT_STRINGS" "Z" (.int cs)) (n_cs : ¬ cs = 0) :
    MetFree l (⟨"com/example/muster/muster/model/MemberEqualsPinLaw", "str", "(I)Ljava/lang/String;"⟩ : MethodName) (head1 (Jvm.Cond.code (⟨"com/example/muster/muster/model/MemberEqualsPinLaw", "str", "(I)Ljava/lang/String;"⟩ : MethodName) method_5_code 2 (some (.object "java/lang/String")) :: ws) ({ frames := 4, cells := 6, slots := 12, locals := 66 } : Room)) (fun as' U => as' = #[(.int x)] ∧ Z.Warmed39 U.vm ∧ U.heap = h0 ∧ CHv Z own_EL U.vm h0) (fun _ _ _ _ _ => True) (fun _ U o U' => ∃ v L, o = .returned v ∧ Q_rmStr Z x cs h0 n0 v U'.heap L ∧ CHr Z own_EL U.vm U.heap U'.vm U'.heap ∧ ReturnedEndW U o U' L ({ frames := 4, cells := 6, slots := 12, locals := 66 } : Room).cells ({ frames := 4, cells := 6, slots := 12, locals := 66 } : Room).slots) := by
  refine MetFree.of_bodySF (plainFor_of_name pn_1) hisR ?_
  intro p e s m args below meth c s₁ Bd hml0 hP hK
  obtain ⟨rfl, hZ, hh, hH⟩ := hP
  have hx := Bd.exec
  have hby := Bd.bytes
  have hml : c.maxLocals = 2 := hml0
  have hown : s.vm.findClass "com/example/muster/muster/model/MemberEqualsPinLaw" = some m.cls := findClass_of_methodNamed Bd.named
  have hnm := (name_of_methodNamed Bd.named Bd.method).1
  have X0 : Stand p l e ({ frames := 4, cells := 6, slots := 12, locals := 66 } : Room) (s.setVm s.vm) m #[(.int x)] below meth c s₁ [] 0 0 := Stand.of_body Bd
  have e0 : s₁.heap = h0 := by rw [← hh, Bd.state]; rfl
  have N0 := Fr.nil n0
  have hS0 : s.Since s.vm s.heap.size := (State.WarmedH.refl s).since _
  have hk0 : s.heap.size ≤ h0.size := Nat.le_of_eq (by rw [hh])
  have C0 : CHr Z own_EL s.vm h0 s.vm h0 := CHr.refl hH
  have hEL := own_EW hw
  have hSA := own_SA hw
  refine Go.enter (F := EndW Z own_EL s (Q_rmStr Z x cs h0 n0) ({ frames := 4, cells := 6, slots := 12, locals := 66 } : Room).cells ({ frames := 4, cells := 6, slots := 12, locals := 66 } : Room).slots) (ef_64 m x) ?_
  show Go _ _ _ _ s₁ (mkF m 0 #[.val (.int x), .unset] [])
  refine Go.by (fun _ gk => XS.iloadN X0.here hx rfl (hb hby d1_0) rfl gk) ?_
  show Go _ _ _ _ s₁ (mkF m 1 #[.val (.int x), .unset] [(.int x)])
  obtain ⟨_, _, ⟨T1, L1, k1, n1⟩, -, X1, ⟨Lc1, hQ1, l1, y1, z1⟩, st1⟩ := Jvm.LawKit.callS X0 hx (y := (⟨"com/example/muster/muster/model/MemberEqualsPinLaw", "len", "(I)I"⟩ : MethodName)) hown (mvT hZ (hw _ (List.mem_of_getElem? (i := 7) rfl))) (mvT hZ (hw _ (List.mem_of_getElem? (i := 8) rfl))) (mvT hZ (hw _ (List.mem_of_getElem? (i := 5) rfl))) (mvT hZ (hw _ (List.mem_of_getElem? (i := 9) rfl))) (by decide) (backOf (W := 0) (rmLen l Z a0 hw [] x h0 n0 Z0 ) hZ (hw _ (List.mem_of_getElem? (i := 9) rfl)) (hw _ (List.mem_of_getElem? (i := 5) rfl)) (by decide) (by decide)) (g := (mkF m 1 #[.val (.int x), .unset] [(.int x)])) rfl (by rw [hml]; rfl) (argsL := [(.int x)]) (rest := []) (lenOf pd_66 rfl) rfl (by show 2 * 0 + _ ≤ _; exact Nat.le_of_eq rfl) (hb hby d1_1) (fun _ _ => ⟨rfl, e0, (by decide : 0 + 0 ≤ _), (by decide : 0 + 0 ≤ _)⟩)
  dsimp only [Pt.U, Pt.locs, Pt.cells, Pt.slots] at X1 l1 y1 z1 st1 hQ1
  subst l1 y1 z1
  obtain ⟨rfl, N1q, e1⟩ := hQ1
  have N1 := Fr.app N0 N1q
  refine Go.by st1 ?_
  show Go _ _ _ _ T1 (mkF m 4 #[.val (.int x), .unset] [(.int (own_ln x))])
  refine Go.by (fun _ gk => XS.istoreN X1.here hx rfl (hb hby d1_4) rfl (l' := #[.val (.int x), .val (.int (own_ln x))]) rfl gk) ?_
  show Go _ _ _ _ T1 (mkF m 5 #[.val (.int x), .val (.int (own_ln x))] [])
  refine Go.by (fun _ gk => XS.iloadN X1.here hx rfl (hb hby d1_5) rfl gk) ?_
  show Go _ _ _ _ T1 (mkF m 6 #[.val (.int x), .val (.int (own_ln x))] [(.int (own_ln x))])
  rcases own_ln3 x with hn | hn | hn
  · rw [hn]
    show Go _ _ _ _ T1 (mkF m 6 #[.val (.int x), .val (.int (0 : Int32))] [(.int (0 : Int32))])
    refine Go.by (fun _ gk => XS.ifNo X1.here hx rfl (hb hby d1_6) rfl (XT.i0_ne_f rfl) gk) ?_
    show Go _ _ _ _ T1 (mkF m 9 #[.val (.int x), .val (.int (0 : Int32))] [])
    obtain ⟨st, g2⟩ : ∃ z, z = h0.size := ⟨_, rfl⟩
    have ge_st : n0 ≤ st := Nat.le_trans Z0 (Nat.le_of_eq g2.symm)
    have sz_st : h0.size ≤ st := Nat.le_trans (Keep.refl h0 []).1 (Nat.le_of_eq g2.symm)
    obtain ⟨T2, h2, X2, e2, E2, A2, D2, -, st2⟩ := newO X1 hx hZ hown (hw _ (List.mem_of_getElem? (i := 10) rfl)) (hw _ (List.mem_of_getElem? (i := 11) rfl)) (hw _ (List.mem_of_getElem? (i := 12) rfl)) e1 (g := (mkF m 9 #[.val (.int x), .val (.int (0 : Int32))] [])) rfl (hb hby d1_9) (by decide) (by decide)
    rw [← g2] at A2 D2 st2
    have C3 : CHr Z own_EL s.vm h0 s.vm h2 := C0.trans (CHr.ext E2 C0.1)
    have Sf4 : Safe Z own_EL s.vm h2 st := Safe.ext E2 C0.1 (Safe.new (Nat.le_of_eq g2.symm))
    have F_value_st : Fld Z h2 st "java/lang/String" "value" "[B" .null := D2 (Or.inr (hw _ (List.mem_of_getElem? (i := 26) rfl))) (ty := (.array .byte)) (by decide)
    have F_coder_st : Fld Z h2 st "java/lang/String" "coder" "B" (.int (0 : Int32)) := D2 (Or.inr (hw _ (List.mem_of_getElem? (i := 27) rfl))) (ty := .byte) (by decide)
    refine Go.by st2 ?_
    show Go _ _ _ _ T2 (mkF m 12 #[.val (.int x), .val (.int (0 : Int32))] [(.ref st)])
    refine Go.by (fun _ gk => XS.dup X2.here hx rfl (hb hby d1_12) rfl rfl gk) ?_
    show Go _ _ _ _ T2 (mkF m 13 #[.val (.int x), .val (.int (0 : Int32))] [(.ref st), (.ref st)])
    refine Go.by (fun _ gk => XT.iconstV X2.here hx rfl (0 : Int32) (hb hby d1_13) (by decide) gk) ?_
    show Go _ _ _ _ T2 (mkF m 14 #[.val (.int x), .val (.int (0 : Int32))] [(.int (0 : Int32)), (.ref st), (.ref st)])
    obtain ⟨ca, g5⟩ : ∃ z, z = h2.size := ⟨_, rfl⟩
    have F6 : n0 ≤ h2.size := Nat.le_trans Z0 E2.1
    have ge_ca : n0 ≤ ca := Nat.le_trans F6 (Nat.le_of_eq g5.symm)
    have F7 : Keep h0 h2 [] := (Keep.refl h0 []).ext E2
    have sz_ca : h0.size ≤ ca := Nat.le_trans F7.1 (Nat.le_of_eq g5.symm)
    have ne_st_ca : st ≠ ca := Nat.ne_of_lt (Nat.lt_of_lt_of_le A2.lt (Nat.le_of_eq g5.symm))
    obtain ⟨T5, h5, k5, X5, e5, E5, A5, Ea5, st5⟩ := newPE X2 hx hZ (hw _ (List.mem_of_getElem? (i := 13) rfl)) e2 (g := (mkF m 14 #[.val (.int x), .val (.int (0 : Int32))] [(.int (0 : Int32)), (.ref st), (.ref st)])) rfl (hb hby d1_14) rfl (by decide) (cap := 0) (by decide) (by decide) (by decide) (by decide) (ad := "[C") rfl
    rw [← g5] at A5 Ea5 st5
    have C8 : CHr Z own_EL s.vm h0 s.vm h5 := C3.trans (CHr.ext E5 C3.1)
    have Sf9 : Safe Z own_EL s.vm h5 st := Safe.ext E5 C3.1 Sf4
    have Sf10 : Safe Z own_EL s.vm h5 ca := Safe.ext E5 C3.1 (Safe.new (Nat.le_of_eq g5.symm))
    have V_ca : Arv Z h5 ca k5 .char (0 : Int32) [] (.int (0 : Int32)) := (Arv.new A5 (by decide)).pad (pad_rep [] (.int (0 : Int32)) 0)
    refine Go.by st5 ?_
    show Go _ _ _ _ T5 (mkF m 16 #[.val (.int x), .val (.int (0 : Int32))] [(.ref ca), (.ref st), (.ref st)])
    have F11 : Old Z n0 h2 := O0.ext E2
    have F12 : Old Z n0 h5 := F11.ext E5
    have F13 : Exa Z h5 st "java/lang/String" := A2.ext E5
    have F14 : Fld Z h5 st "java/lang/String" "value" "[B" .null := F_value_st.ext E5
    have F15 : Fld Z h5 st "java/lang/String" "coder" "B" (.int (0 : Int32)) := F_coder_st.ext E5
    have F16 : n0 ≤ h5.size := Nat.le_trans F6 E5.1
    have F18 : s.heap.size ≤ h2.size := Nat.le_trans hk0 E2.1
    have F19 : s.heap.size ≤ h5.size := Nat.le_trans F18 E5.1
    obtain ⟨_, _, ⟨T17, L17, k17, n17⟩, -, Xq17, hSq17, hgr17, ⟨Lc17, hQ17, l17, y17, z17, CH17⟩, st17⟩ := X5.specialBackS hx (y := (⟨"java/lang/String", "<init>", "([C)V"⟩ : MethodName)) rfl hown (mvT hZ (hw _ (List.mem_of_getElem? (i := 14) rfl))) (mvT hZ (hw _ (List.mem_of_getElem? (i := 15) rfl))) (mvT hZ (hw _ (List.mem_of_getElem? (i := 16) rfl))) (by decide) (backOfSH (W := 1) (rmS1_e l Z a0 hw [] st ca k5 h5 n0 F16 F12 F13 F14 F15 ge_st V_ca) hZ (hw _ (List.mem_of_getElem? (i := 16) rfl)) (hw _ (List.mem_of_getElem? (i := 12) rfl)) (by decide) (by decide) hEL C8.1) (g := (mkF m 16 #[.val (.int x), .val (.int (0 : Int32))] [(.ref ca), (.ref st), (.ref st)])) rfl (by rw [hml]; rfl) (Steps.refl _) (a := st) (argsL := [(.ref ca)]) (rest := [(.ref st)]) (lenOf pd_99 rfl) rfl (by show 2 * 0 + _ ≤ _; exact Nat.le_of_eq rfl) (hb hby d1_16) (fun _ _ => ⟨rfl, e5, (by decide : 2 + 4 ≤ _), (by decide : 4 + 8 ≤ _)⟩)
    dsimp only [Pt.U, Pt.locs, Pt.cells, Pt.slots] at Xq17 hSq17 hgr17 l17 y17 z17 st17 hQ17 CH17
    subst l17 y17 z17
    obtain ⟨sb, kb, rfl, N17q, K17, Q17_0, Q17_1, Q17_2, Q17_3⟩ := hQ17
    have N17 := Fr.app N1 N17q
    obtain ⟨X17, hS17, hZ17, hown17⟩ := rebS hS0 (by rw [e5]; exact F19) Xq17 hSq17 hgr17 hZ hown
    have C20 : CHr Z own_EL s.vm h0 T17.vm T17.heap := C8.trans CH17
    have Sf21 : Safe Z own_EL T17.vm T17.heap st := CH17.safe F13.lt Sf9
    have Sf22 : Safe Z own_EL T17.vm T17.heap ca := CH17.safe Ea5.lt Sf10
    refine Go.to st17 ?_
    show Go _ _ _ _ T17 (mkF m 19 #[.val (.int x), .val (.int (0 : Int32))] [(.ref st)])
    have Vs23 : Arv Z T17.heap sb kb .byte (0 : Int32) (own_str (0 : Int32) (own_ca x) (own_cb x)) (.int (0 : Int32)) := by rw [own_str_0]; exact Q17_3
    have Vx24 : Arv Z T17.heap sb kb .byte (own_ln x) (own_str (own_ln x) (own_ca x) (own_cb x)) (.int (0 : Int32)) := by rw [hn]; exact Vs23
    have F25 : Keep h0 h5 [] := F7.ext E5
    have F26 : Keep h0 T17.heap [] := F25.trans K17 (allS (Or.inr sz_st) all0)
    exact Go.retAW X17 hx Bd.notSynchronized hS17 (by exact (Nat.le_refl T17.heap.size)) hZ17 hEL (by rw [hh]; exact C20) Bd.returns rfl rfl (hb hby d1_19) ⟨st, sb, kb, rfl, N17, F26, Q17_0, Q17_1, Q17_2, Vx24, sz_st⟩ (by decide) (by decide)
  · rw [hn]
    show Go _ _ _ _ T1 (mkF m 6 #[.val (.int x), .val (.int (1 : Int32))] [(.int (1 : Int32))])
    refine Go.by (fun _ gk => XS.ifYes X1.here hx rfl (pc0 := 6) (pc' := 20) rfl (hb hby d1_6) rfl (XT.i0_ne_t (by decide)) (by decide) (by decide) gk) ?_
    show Go _ _ _ _ T1 (mkF m 20 #[.val (.int x), .val (.int (1 : Int32))] [])
    refine Go.by (fun _ gk => XS.iloadN X1.here hx rfl (hb hby d1_20) rfl gk) ?_
    show Go _ _ _ _ T1 (mkF m 21 #[.val (.int x), .val (.int (1 : Int32))] [(.int (1 : Int32))])
    refine Go.by (fun _ gk => XT.iconstV X1.here hx rfl (1 : Int32) (hb hby d1_21) (by decide) gk) ?_
    show Go _ _ _ _ T1 (mkF m 22 #[.val (.int x), .val (.int (1 : Int32))] [(.int (1 : Int32)), (.int (1 : Int32))])
    refine Go.by (fun _ gk => XS.icmpNo X1.here hx rfl (hb hby d1_22) rfl (XT.ii_ne_f rfl) gk) ?_
    show Go _ _ _ _ T1 (mkF m 25 #[.val (.int x), .val (.int (1 : Int32))] [])
    refine Go.by (fun _ gk => XS.iloadN X1.here hx rfl (hb hby d1_25) rfl gk) ?_
    show Go _ _ _ _ T1 (mkF m 26 #[.val (.int x), .val (.int (1 : Int32))] [(.int x)])
    obtain ⟨_, _, ⟨T27, L27, k27, n27⟩, -, X27, ⟨Lc27, hQ27, l27, y27, z27⟩, st27⟩ := Jvm.LawKit.callS X1 hx (y := (⟨"com/example/muster/muster/model/MemberEqualsPinLaw", "c0", "(I)C"⟩ : MethodName)) hown (mvT hZ (hw _ (List.mem_of_getElem? (i := 40) rfl))) (mvT hZ (hw _ (List.mem_of_getElem? (i := 41) rfl))) (mvT hZ (hw _ (List.mem_of_getElem? (i := 5) rfl))) (mvT hZ (hw _ (List.mem_of_getElem? (i := 42) rfl))) (by decide) (backOf (W := 0) (rm_c0 l Z a0 hw [] x h0 n0 Z0 ) hZ (hw _ (List.mem_of_getElem? (i := 42) rfl)) (hw _ (List.mem_of_getElem? (i := 5) rfl)) (by decide) (by decide)) (g := (mkF m 26 #[.val (.int x), .val (.int (1 : Int32))] [(.int x)])) rfl (by rw [hml]; rfl) (argsL := [(.int x)]) (rest := []) (lenOf pd_106 rfl) rfl (by show 2 * 0 + _ ≤ _; exact Nat.le_of_eq rfl) (hb hby d1_26) (fun _ _ => ⟨rfl, e1, (by decide : 0 + 0 ≤ _), (by decide : 0 + 0 ≤ _)⟩)
    dsimp only [Pt.U, Pt.locs, Pt.cells, Pt.slots] at X27 l27 y27 z27 st27 hQ27
    subst l27 y27 z27
    obtain ⟨rfl, N27q, e27⟩ := hQ27
    have N27 := Fr.app N1 N27q
    refine Go.by st27 ?_
    show Go _ _ _ _ T27 (mkF m 29 #[.val (.int x), .val (.int (1 : Int32))] [(.int (own_ca x))])
    obtain ⟨_, _, ⟨T28, L28, k28, n28⟩, -, X28, ⟨Lc28, hQ28, l28, y28, z28⟩, st28⟩ := Jvm.LawKit.callS X27 hx (y := (⟨"java/lang/String", "valueOf", "(C)Ljava/lang/String;"⟩ : MethodName)) hown (mvT hZ (hw _ (List.mem_of_getElem? (i := 57) rfl))) (mvT hZ (hw _ (List.mem_of_getElem? (i := 58) rfl))) (mvT hZ (hw _ (List.mem_of_getElem? (i := 12) rfl))) (mvT hZ (hw _ (List.mem_of_getElem? (i := 59) rfl))) (by decide) (backOf (W := 0) (rmVof l Z a0 hw [] (own_ca x) cs h0 n0 Z0 O0 ((own_qa x).2.1) S_cs n_cs) hZ (hw _ (List.mem_of_getElem? (i := 59) rfl)) (hw _ (List.mem_of_getElem? (i := 12) rfl)) (by decide) (by decide)) (g := (mkF m 29 #[.val (.int x), .val (.int (1 : Int32))] [(.int (own_ca x))])) rfl (by rw [hml]; rfl) (argsL := [(.int (own_ca x))]) (rest := []) (lenOf pd_108 rfl) rfl (by show 2 * 0 + _ ≤ _; exact Nat.le_of_eq rfl) (hb hby d1_29) (fun _ _ => ⟨rfl, e27, (by decide : 0 + 2 ≤ _), (by decide : 0 + 5 ≤ _)⟩)
    dsimp only [Pt.U, Pt.locs, Pt.cells, Pt.slots] at X28 l28 y28 z28 st28 hQ28
    subst l28 y28 z28
    obtain ⟨st, sb, kb, rfl, N28q, K28, Q28_0, Q28_1, Q28_2, Q28_3, Q28_4⟩ := hQ28
    have N28 := Fr.app N27 N28q
    have C29 : CHr Z own_EL s.vm h0 s.vm T28.heap := C0.trans (CHr.keep K28 sf0 C0.1)
    refine Go.by st28 ?_
    show Go _ _ _ _ T28 (mkF m 32 #[.val (.int x), .val (.int (1 : Int32))] [(.ref st)])
    have ge_st : n0 ≤ st := Nat.le_trans Z0 Q28_4
    have sz_st : h0.size ≤ st := Nat.le_trans (Keep.refl h0 []).1 Q28_4
    have Vs30 : Arv Z T28.heap sb kb .byte (1 : Int32) (own_str (1 : Int32) (own_ca x) (own_cb x)) (.int (0 : Int32)) := by rw [own_str_1]; exact Q28_3
    have Vx31 : Arv Z T28.heap sb kb .byte (own_ln x) (own_str (own_ln x) (own_ca x) (own_cb x)) (.int (0 : Int32)) := by rw [hn]; exact Vs30
    have F32 : Keep h0 T28.heap [] := (Keep.refl h0 []).trans K28 all0
    have F33 : s.heap.size ≤ T28.heap.size := Nat.le_trans hk0 K28.1
    exact Go.retAW X28 hx Bd.notSynchronized hS0 (by exact F33) hZ hEL (by rw [hh]; exact C29) Bd.returns rfl rfl (hb hby d1_32) ⟨st, sb, kb, rfl, N28, F32, Q28_0, Q28_1, Q28_2, Vx31, sz_st⟩ (by decide) (by decide)
  · rw [hn]
    show Go _ _ _ _ T1 (mkF m 6 #[.val (.int x), .val (.int (2 : Int32))] [(.int (2 : Int32))])
    refine Go.by (fun _ gk => XS.ifYes X1.here hx rfl (pc0 := 6) (pc' := 20) rfl (hb hby d1_6) rfl (XT.i0_ne_t (by decide)) (by decide) (by decide) gk) ?_
    show Go _ _ _ _ T1 (mkF m 20 #[.val (.int x), .val (.int (2 : Int32))] [])
    refine Go.by (fun _ gk => XS.iloadN X1.here hx rfl (hb hby d1_20) rfl gk) ?_
    show Go _ _ _ _ T1 (mkF m 21 #[.val (.int x), .val (.int (2 : Int32))] [(.int (2 : Int32))])
    refine Go.by (fun _ gk => XT.iconstV X1.here hx rfl (1 : Int32) (hb hby d1_21) (by decide) gk) ?_
    show Go _ _ _ _ T1 (mkF m 22 #[.val (.int x), .val (.int (2 : Int32))] [(.int (1 : Int32)), (.int (2 : Int32))])
    refine Go.by (fun _ gk => XS.icmpYes X1.here hx rfl (pc0 := 22) (pc' := 33) rfl (hb hby d1_22) rfl (XT.ii_ne_t (by decide)) (by decide) (by decide) gk) ?_
    show Go _ _ _ _ T1 (mkF m 33 #[.val (.int x), .val (.int (2 : Int32))] [])
    obtain ⟨st, g34⟩ : ∃ z, z = h0.size := ⟨_, rfl⟩
    have ge_st : n0 ≤ st := Nat.le_trans Z0 (Nat.le_of_eq g34.symm)
    have sz_st : h0.size ≤ st := Nat.le_trans (Keep.refl h0 []).1 (Nat.le_of_eq g34.symm)
    obtain ⟨T34, h34, X34, e34, E34, A34, D34, -, st34⟩ := newO X1 hx hZ hown (hw _ (List.mem_of_getElem? (i := 10) rfl)) (hw _ (List.mem_of_getElem? (i := 11) rfl)) (hw _ (List.mem_of_getElem? (i := 12) rfl)) e1 (g := (mkF m 33 #[.val (.int x), .val (.int (2 : Int32))] [])) rfl (hb hby d1_33) (by decide) (by decide)
    rw [← g34] at A34 D34 st34
    have C35 : CHr Z own_EL s.vm h0 s.vm h34 := C0.trans (CHr.ext E34 C0.1)
    have Sf36 : Safe Z own_EL s.vm h34 st := Safe.ext E34 C0.1 (Safe.new (Nat.le_of_eq g34.symm))
    have F_value_st : Fld Z h34 st "java/lang/String" "value" "[B" .null := D34 (Or.inr (hw _ (List.mem_of_getElem? (i := 26) rfl))) (ty := (.array .byte)) (by decide)
    have F_coder_st : Fld Z h34 st "java/lang/String" "coder" "B" (.int (0 : Int32)) := D34 (Or.inr (hw _ (List.mem_of_getElem? (i := 27) rfl))) (ty := .byte) (by decide)
    refine Go.by st34 ?_
    show Go _ _ _ _ T34 (mkF m 36 #[.val (.int x), .val (.int (2 : Int32))] [(.ref st)])
    refine Go.by (fun _ gk => XS.dup X34.here hx rfl (hb hby d1_36) rfl rfl gk) ?_
    show Go _ _ _ _ T34 (mkF m 37 #[.val (.int x), .val (.int (2 : Int32))] [(.ref st), (.ref st)])
    refine Go.by (fun _ gk => XT.iconstV X34.here hx rfl (2 : Int32) (hb hby d1_37) (by decide) gk) ?_
    show Go _ _ _ _ T34 (mkF m 38 #[.val (.int x), .val (.int (2 : Int32))] [(.int (2 : Int32)), (.ref st), (.ref st)])
    obtain ⟨ca, g37⟩ : ∃ z, z = h34.size := ⟨_, rfl⟩
    have F38 : n0 ≤ h34.size := Nat.le_trans Z0 E34.1
    have ge_ca : n0 ≤ ca := Nat.le_trans F38 (Nat.le_of_eq g37.symm)
    have F39 : Keep h0 h34 [] := (Keep.refl h0 []).ext E34
    have sz_ca : h0.size ≤ ca := Nat.le_trans F39.1 (Nat.le_of_eq g37.symm)
    have ne_st_ca : st ≠ ca := Nat.ne_of_lt (Nat.lt_of_lt_of_le A34.lt (Nat.le_of_eq g37.symm))
    obtain ⟨T37, h37, k37, X37, e37, E37, A37, Ea37, st37⟩ := newPE X34 hx hZ (hw _ (List.mem_of_getElem? (i := 13) rfl)) e34 (g := (mkF m 38 #[.val (.int x), .val (.int (2 : Int32))] [(.int (2 : Int32)), (.ref st), (.ref st)])) rfl (hb hby d1_38) rfl (by decide) (cap := 2) (by decide) (by decide) (by decide) (by decide) (ad := "[C") rfl
    rw [← g37] at A37 Ea37 st37
    have C40 : CHr Z own_EL s.vm h0 s.vm h37 := C35.trans (CHr.ext E37 C35.1)
    have Sf41 : Safe Z own_EL s.vm h37 st := Safe.ext E37 C35.1 Sf36
    have Sf42 : Safe Z own_EL s.vm h37 ca := Safe.ext E37 C35.1 (Safe.new (Nat.le_of_eq g37.symm))
    have V_ca : Arv Z h37 ca k37 .char (2 : Int32) [(.int (0 : Int32)), (.int (0 : Int32))] (.int (0 : Int32)) := (Arv.new A37 (by decide)).pad (pad_rep [] (.int (0 : Int32)) 2)
    refine Go.by st37 ?_
    show Go _ _ _ _ T37 (mkF m 40 #[.val (.int x), .val (.int (2 : Int32))] [(.ref ca), (.ref st), (.ref st)])
    refine Go.by (fun _ gk => XS.dup X37.here hx rfl (hb hby d1_40) rfl rfl gk) ?_
    show Go _ _ _ _ T37 (mkF m 41 #[.val (.int x), .val (.int (2 : Int32))] [(.ref ca), (.ref ca), (.ref st), (.ref st)])
    refine Go.by (fun _ gk => XT.iconstV X37.here hx rfl (0 : Int32) (hb hby d1_41) (by decide) gk) ?_
    show Go _ _ _ _ T37 (mkF m 42 #[.val (.int x), .val (.int (2 : Int32))] [(.int (0 : Int32)), (.ref ca), (.ref ca), (.ref st), (.ref st)])
    refine Go.by (fun _ gk => XS.iloadN X37.here hx rfl (hb hby d1_42) rfl gk) ?_
    show Go _ _ _ _ T37 (mkF m 43 #[.val (.int x), .val (.int (2 : Int32))] [(.int x), (.int (0 : Int32)), (.ref ca), (.ref ca), (.ref st), (.ref st)])
    have F43 : n0 ≤ h37.size := Nat.le_trans F38 E37.1
    obtain ⟨_, _, ⟨T44, L44, k44, n44⟩, -, X44, ⟨Lc44, hQ44, l44, y44, z44⟩, st44⟩ := Jvm.LawKit.callS X37 hx (y := (⟨"com/example/muster/muster/model/MemberEqualsPinLaw", "c0", "(I)C"⟩ : MethodName)) hown (mvT hZ (hw _ (List.mem_of_getElem? (i := 40) rfl))) (mvT hZ (hw _ (List.mem_of_getElem? (i := 41) rfl))) (mvT hZ (hw _ (List.mem_of_getElem? (i := 5) rfl))) (mvT hZ (hw _ (List.mem_of_getElem? (i := 42) rfl))) (by decide) (backOf (W := 5) (rm_c0 l Z a0 hw [] x h37 n0 F43 ) hZ (hw _ (List.mem_of_getElem? (i := 42) rfl)) (hw _ (List.mem_of_getElem? (i := 5) rfl)) (by decide) (by decide)) (g := (mkF m 43 #[.val (.int x), .val (.int (2 : Int32))] [(.int x), (.int (0 : Int32)), (.ref ca), (.ref ca), (.ref st), (.ref st)])) rfl (by rw [hml]; rfl) (argsL := [(.int x)]) (rest := [(.int (0 : Int32)), (.ref ca), (.ref ca), (.ref st), (.ref st)]) (lenOf pd_106 rfl) rfl (by show 2 * 0 + _ ≤ _; exact Nat.le_of_eq rfl) (hb hby d1_43) (fun _ _ => ⟨rfl, e37, (by decide : 2 + 0 ≤ _), (by decide : 6 + 0 ≤ _)⟩)
    dsimp only [Pt.U, Pt.locs, Pt.cells, Pt.slots] at X44 l44 y44 z44 st44 hQ44
    subst l44 y44 z44
    obtain ⟨rfl, N44q, e44⟩ := hQ44
    have N44 := Fr.app N1 N44q
    refine Go.by st44 ?_
    show Go _ _ _ _ T44 (mkF m 46 #[.val (.int x), .val (.int (2 : Int32))] [(.int (own_ca x)), (.int (0 : Int32)), (.ref ca), (.ref ca), (.ref st), (.ref st)])
    obtain ⟨cl45, Ar45, q45, S45, M45, H45, G45⟩ := id V_ca
    have hin45 : ¬ ((0 : Int32) < 0 ∨ cl45.slots.size ≤ (0 : Int32).toNatClampNeg) := inb_of S45 ⟨by decide, by decide⟩
    obtain ⟨T45, h45, X45, e45, W45, st45⟩ := stC X44 hx hZ e44 Ar45 (j := (0 : Int32)) hin45 (g := (mkF m 46 #[.val (.int x), .val (.int (2 : Int32))] [(.int (own_ca x)), (.int (0 : Int32)), (.ref ca), (.ref ca), (.ref st), (.ref st)])) rfl rfl (hb hby d1_46)
    have C46 : CHr Z own_EL s.vm h0 s.vm h45 := C40.trans (CHr.wr W45 Sf42 C40.1)
    have Sf47 : Safe Z own_EL s.vm h45 st := Safe.wr W45 Sf42 C40.1 Sf41
    have Sf48 : Safe Z own_EL s.vm h45 ca := Safe.wr W45 Sf42 C40.1 Sf42
    have N45 := Fr.snoc X45 N44 ge_ca
    have V45 : Arv Z h45 ca k37 .char (2 : Int32) [(.int (nar .char (own_ca x))), (.int (0 : Int32))] (.int (0 : Int32)) := Arv.set Ar45 q45 S45 M45 H45 G45 (fits_nar_char _) W45 0 rfl (Nat.le_of_ble_eq_true rfl)
    refine Go.by st45 ?_
    show Go _ _ _ _ T45 (mkF m 47 #[.val (.int x), .val (.int (2 : Int32))] [(.ref ca), (.ref st), (.ref st)])
    rw [(own_qa x).2.2] at V45
    refine Go.by (fun _ gk => XS.dup X45.here hx rfl (hb hby d1_47) rfl rfl gk) ?_
    show Go _ _ _ _ T45 (mkF m 48 #[.val (.int x), .val (.int (2 : Int32))] [(.ref ca), (.ref ca), (.ref st), (.ref st)])
    refine Go.by (fun _ gk => XT.iconstV X45.here hx rfl (1 : Int32) (hb hby d1_48) (by decide) gk) ?_
    show Go _ _ _ _ T45 (mkF m 49 #[.val (.int x), .val (.int (2 : Int32))] [(.int (1 : Int32)), (.ref ca), (.ref ca), (.ref st), (.ref st)])
    refine Go.by (fun _ gk => XS.iloadN X45.here hx rfl (hb hby d1_49) rfl gk) ?_
    show Go _ _ _ _ T45 (mkF m 50 #[.val (.int x), .val (.int (2 : Int32))] [(.int x), (.int (1 : Int32)), (.ref ca), (.ref ca), (.ref st), (.ref st)])
    have F49 : n0 ≤ h45.size := Nat.le_trans F43 (Nat.le_of_eq (Wr.size W45).symm)
    obtain ⟨_, _, ⟨T50, L50, k50, n50⟩, -, X50, ⟨Lc50, hQ50, l50, y50, z50⟩, st50⟩ := Jvm.LawKit.callS X45 hx (y := (⟨"com/example/muster/muster/model/MemberEqualsPinLaw", "c1", "(I)C"⟩ : MethodName)) hown (mvT hZ (hw _ (List.mem_of_getElem? (i := 43) rfl))) (mvT hZ (hw _ (List.mem_of_getElem? (i := 44) rfl))) (mvT hZ (hw _ (List.mem_of_getElem? (i := 5) rfl))) (mvT hZ (hw _ (List.mem_of_getElem? (i := 45) rfl))) (by decide) (backOf (W := 5) (rm_c1 l Z a0 hw [] x h45 n0 F49 ) hZ (hw _ (List.mem_of_getElem? (i := 45) rfl)) (hw _ (List.mem_of_getElem? (i := 5) rfl)) (by decide) (by decide)) (g := (mkF m 50 #[.val (.int x), .val (.int (2 : Int32))] [(.int x), (.int (1 : Int32)), (.ref ca), (.ref ca), (.ref st), (.ref st)])) rfl (by rw [hml]; rfl) (argsL := [(.int x)]) (rest := [(.int (1 : Int32)), (.ref ca), (.ref ca), (.ref st), (.ref st)]) (lenOf pd_106 rfl) rfl (by show 2 * 0 + _ ≤ _; exact Nat.le_of_eq rfl) (hb hby d1_50) (fun _ _ => ⟨rfl, e45, (by decide : 2 + 0 ≤ _), (by decide : 6 + 0 ≤ _)⟩)
    dsimp only [Pt.U, Pt.locs, Pt.cells, Pt.slots] at X50 l50 y50 z50 st50 hQ50
    subst l50 y50 z50
    obtain ⟨rfl, N50q, e50⟩ := hQ50
    have N50 := Fr.app N45 N50q
    refine Go.by st50 ?_
    show Go _ _ _ _ T50 (mkF m 53 #[.val (.int x), .val (.int (2 : Int32))] [(.int (own_cb x)), (.int (1 : Int32)), (.ref ca), (.ref ca), (.ref st), (.ref st)])
    obtain ⟨cl51, Ar51, q51, S51, M51, H51, G51⟩ := id V45
    have hin51 : ¬ ((1 : Int32) < 0 ∨ cl51.slots.size ≤ (1 : Int32).toNatClampNeg) := inb_of S51 ⟨by decide, by decide⟩
    obtain ⟨T51, h51, X51, e51, W51, st51⟩ := stC X50 hx hZ e50 Ar51 (j := (1 : Int32)) hin51 (g := (mkF m 53 #[.val (.int x), .val (.int (2 : Int32))] [(.int (own_cb x)), (.int (1 : Int32)), (.ref ca), (.ref ca), (.ref st), (.ref st)])) rfl rfl (hb hby d1_53)
    have C52 : CHr Z own_EL s.vm h0 s.vm h51 := C46.trans (CHr.wr W51 Sf48 C46.1)
    have Sf53 : Safe Z own_EL s.vm h51 st := Safe.wr W51 Sf48 C46.1 Sf47
    have Sf54 : Safe Z own_EL s.vm h51 ca := Safe.wr W51 Sf48 C46.1 Sf48
    have N51 := Fr.snoc X51 N50 ge_ca
    have V51 : Arv Z h51 ca k37 .char (2 : Int32) [(.int (own_ca x)), (.int (nar .char (own_cb x)))] (.int (0 : Int32)) := Arv.set Ar51 q51 S51 M51 H51 G51 (fits_nar_char _) W51 1 rfl (Nat.le_of_ble_eq_true rfl)
    refine Go.by st51 ?_
    show Go _ _ _ _ T51 (mkF m 54 #[.val (.int x), .val (.int (2 : Int32))] [(.ref ca), (.ref st), (.ref st)])
    rw [(own_qb x).2.2] at V51
    have F55 : Old Z n0 h34 := O0.ext E34
    have F56 : Old Z n0 h37 := F55.ext E37
    have F57 : Old Z n0 h45 := F56.wr W45 ge_ca
    have F58 : Old Z n0 h51 := F57.wr W51 ge_ca
    have F59 : Exa Z h37 st "java/lang/String" := A34.ext E37
    have F60 : Exa Z h45 st "java/lang/String" := F59.wr W45
    have F61 : Exa Z h51 st "java/lang/String" := F60.wr W51
    have F62 : Fld Z h37 st "java/lang/String" "value" "[B" .null := F_value_st.ext E37
    have F63 : Fld Z h45 st "java/lang/String" "value" "[B" .null := F62.other W45 (Or.inl ne_st_ca)
    have F64 : Fld Z h51 st "java/lang/String" "value" "[B" .null := F63.other W51 (Or.inl ne_st_ca)
    have F65 : Fld Z h37 st "java/lang/String" "coder" "B" (.int (0 : Int32)) := F_coder_st.ext E37
    have F66 : Fld Z h45 st "java/lang/String" "coder" "B" (.int (0 : Int32)) := F65.other W45 (Or.inl ne_st_ca)
    have F67 : Fld Z h51 st "java/lang/String" "coder" "B" (.int (0 : Int32)) := F66.other W51 (Or.inl ne_st_ca)
    have F68 : n0 ≤ h51.size := Nat.le_trans F49 (Nat.le_of_eq (Wr.size W51).symm)
    have F69 : Keep h0 h37 [] := F39.ext E37
    have F70 : Keep h0 h45 [] := F69.wr W45 (Or.inr sz_ca)
    have F71 : Keep h0 h51 [] := F70.wr W51 (Or.inr sz_ca)
    have F72 : Exa Z h45 ca "[C" := Ea37.wr W45
    have F73 : Exa Z h51 ca "[C" := F72.wr W51
    obtain ⟨_, _, ⟨T74, L74, k74, n74⟩, -, X74, ⟨Lc74, hQ74, l74, y74, z74⟩, st74⟩ := X51.specialBack hx (y := (⟨"java/lang/String", "<init>", "([C)V"⟩ : MethodName)) rfl hown (mvT hZ (hw _ (List.mem_of_getElem? (i := 14) rfl))) (mvT hZ (hw _ (List.mem_of_getElem? (i := 15) rfl))) (mvT hZ (hw _ (List.mem_of_getElem? (i := 16) rfl))) (by decide) (backOf (W := 1) (rmS1_2 l Z a0 hw [] st ca k37 (own_ca x) (own_cb x) cs h51 n0 F68 F58 F61 F64 F67 ge_st V51 ((own_qa x).2.1) ((own_qb x).2.1) S_cs n_cs) hZ (hw _ (List.mem_of_getElem? (i := 16) rfl)) (hw _ (List.mem_of_getElem? (i := 12) rfl)) (by decide) (by decide)) (g := (mkF m 54 #[.val (.int x), .val (.int (2 : Int32))] [(.ref ca), (.ref st), (.ref st)])) rfl (by rw [hml]; rfl) (Steps.refl _) (a := st) (argsL := [(.ref ca)]) (rest := [(.ref st)]) (lenOf pd_99 rfl) rfl (by show 2 * 0 + _ ≤ _; exact Nat.le_of_eq rfl) (hb hby d1_54) (fun _ _ => ⟨rfl, e51, (by decide : 2 + 1 ≤ _), (by decide : 6 + 2 ≤ _)⟩)
    dsimp only [Pt.U, Pt.locs, Pt.cells, Pt.slots] at X74 l74 y74 z74 st74 hQ74
    subst l74 y74 z74
    obtain ⟨sb, kb, rfl, N74q, K74, Q74_0, Q74_1, Q74_2, Q74_3, Q74_4⟩ := hQ74
    have N74 := Fr.app N51 N74q
    have C75 : CHr Z own_EL s.vm h0 s.vm T74.heap := C52.trans (CHr.keep K74 (sfS Sf53 sf0) C52.1)
    have Sf76 : Safe Z own_EL s.vm T74.heap st := Safe.keep K74 (sfS Sf53 sf0) C52.1 Sf53
    have Sf77 : Safe Z own_EL s.vm T74.heap ca := Safe.keep K74 (sfS Sf53 sf0) C52.1 Sf54
    refine Go.to st74 ?_
    show Go _ _ _ _ T74 (mkF m 57 #[.val (.int x), .val (.int (2 : Int32))] [(.ref st)])
    have ge_sb : n0 ≤ sb := Nat.le_trans F68 Q74_4
    have sz_sb : h0.size ≤ sb := Nat.le_trans F71.1 Q74_4
    have ne_ca_sb : ca ≠ sb := Nat.ne_of_lt (Nat.lt_of_lt_of_le V51.lt Q74_4)
    have ne_st_sb : st ≠ sb := Nat.ne_of_lt (Nat.lt_of_lt_of_le F61.lt Q74_4)
    have Vs78 : Arv Z T74.heap sb kb .byte (2 : Int32) (own_str (2 : Int32) (own_ca x) (own_cb x)) (.int (0 : Int32)) := by rw [own_str_2]; exact Q74_3
    have Vx79 : Arv Z T74.heap sb kb .byte (own_ln x) (own_str (own_ln x) (own_ca x) (own_cb x)) (.int (0 : Int32)) := by rw [hn]; exact Vs78
    have F80 : Keep h0 T74.heap [] := F71.trans K74 (allS (Or.inr sz_st) all0)
    have F81 : s.heap.size ≤ h34.size := Nat.le_trans hk0 E34.1
    have F82 : s.heap.size ≤ h37.size := Nat.le_trans F81 E37.1
    have F83 : s.heap.size ≤ h45.size := Nat.le_trans F82 (Nat.le_of_eq (Wr.size W45).symm)
    have F84 : s.heap.size ≤ h51.size := Nat.le_trans F83 (Nat.le_of_eq (Wr.size W51).symm)
    have F85 : s.heap.size ≤ T74.heap.size := Nat.le_trans F84 K74.1
    exact Go.retAW X74 hx Bd.notSynchronized hS0 (by exact F85) hZ hEL (by rw [hh]; exact C75) Bd.returns rfl rfl (hb hby d1_57) ⟨st, sb, kb, rfl, N74, F80, Q74_0, Q74_1, Q74_2, Vx79, sz_st⟩ (by decide) (by decide)
theorem ef_196 (m : MethodId) (x0 : Int32) (x1 : Int32) : entryFrame m #[(.int x0), (.int x1)] 3 = mkF m 0 #[.val (.int x0), .val (.int x1), .unset] [] := by (first | (simp [entryFrame, mkF, argsToLocals, Value.category]; done) | rfl)
theorem d16_0 : decode method_6_code 0 = .ok (.iload_n 0, 1) := by decide +kernel
theorem d16_1 : decode method_6_code 1 = .ok (.invokestatic 7, 3) := by decide +kernel
theorem d16_4 : decode method_6_code 4 = .ok (.istore_n 2, 1) := by decide +kernel
theorem d16_5 : decode method_6_code 5 = .ok (.iload_n 2, 1) := by decide +kernel
theorem d16_6 : decode method_6_code 6 = .ok (.iload_n 1, 1) := by decide +kernel
theorem d16_7 : decode method_6_code 7 = .ok (.invokestatic 7, 3) := by decide +kernel
theorem d16_10 : decode method_6_code 10 = .ok (.if_icmp .eq 5, 3) := by decide +kernel
theorem d16_15 : decode method_6_code 15 = .ok (.iload_n 2, 1) := by decide +kernel
theorem d16_16 : decode method_6_code 16 = .ok (.iconst 1, 1) := by decide +kernel
theorem d16_17 : decode method_6_code 17 = .ok (.if_icmp .lt 16, 3) := by decide +kernel
theorem d16_33 : decode method_6_code 33 = .ok (.iload_n 2, 1) := by decide +kernel
theorem d16_34 : decode method_6_code 34 = .ok (.iconst 2, 1) := by decide +kernel
theorem d16_35 : decode method_6_code 35 = .ok (.if_icmp .lt 16, 3) := by decide +kernel
theorem d16_51 : decode method_6_code 51 = .ok (.iconst 1, 1) := by decide +kernel
theorem d16_52 : decode method_6_code 52 = .ok (.ireturn, 1) := by decide +kernel
theorem d16_38 : decode method_6_code 38 = .ok (.iload_n 0, 1) := by decide +kernel
theorem d16_39 : decode method_6_code 39 = .ok (.invokestatic 26, 3) := by decide +kernel
theorem d16_42 : decode method_6_code 42 = .ok (.iload_n 1, 1) := by decide +kernel
theorem d16_43 : decode method_6_code 43 = .ok (.invokestatic 26, 3) := by decide +kernel
theorem d16_46 : decode method_6_code 46 = .ok (.if_icmp .eq 5, 3) := by decide +kernel
theorem d16_49 : decode method_6_code 49 = .ok (.iconst 0, 1) := by decide +kernel
theorem d16_50 : decode method_6_code 50 = .ok (.ireturn, 1) := by decide +kernel
theorem d16_20 : decode method_6_code 20 = .ok (.iload_n 0, 1) := by decide +kernel
theorem d16_21 : decode method_6_code 21 = .ok (.invokestatic 18, 3) := by decide +kernel
theorem d16_24 : decode method_6_code 24 = .ok (.iload_n 1, 1) := by decide +kernel
theorem d16_25 : decode method_6_code 25 = .ok (.invokestatic 18, 3) := by decide +kernel
theorem d16_28 : decode method_6_code 28 = .ok (.if_icmp .eq 5, 3) := by decide +kernel
theorem d16_31 : decode method_6_code 31 = .ok (.iconst 0, 1) := by decide +kernel
theorem d16_32 : decode method_6_code 32 = .ok (.ireturn, 1) := by decide +kernel
theorem d16_13 : decode method_6_code 13 = .ok (.iconst 0, 1) := by decide +kernel
theorem d16_14 : decode method_6_code 14 = .ok (.ireturn, 1) := by decide +kernel
def Q_rmSame (Z : State) (x : Int32) (y : Int32) (h0 : Heap) (n0 : Nat) (v : Option Value) (h : Heap) (L : List Loc) : Prop := ∃ r : Int32, v = some (.int r) ∧ Fr n0 L ∧ h = h0 ∧ ((r = 1 ∧ own_sm x y) ∨ (r = 0 ∧ ¬ own_sm x y))
set_option maxRecDepth 65536 in
set_option maxHeartbeats 40000000 in
theorem rmSame (l : Launch) (Z : State) (a0 : Array Value) (hw : ∀ d ∈ tables_1, d.before a0 Z = true) (ws : List Jvm.Cond) (x : Int32) (y : Int32) (h0 : Heap) (n0 : Nat) (Z0 : n0 ≤ h0.size)  :
    MetFree l (⟨"com/example/muster/muster/model/MemberEqualsPinLaw", "same", "(II)Z"⟩ : MethodName) (head1 (Jvm.Cond.code (⟨"com/example/muster/muster/model/MemberEqualsPinLaw", "same", "(II)Z"⟩ : MethodName) method_6_code 3 (some .boolean) :: ws) ({ frames := 1, cells := 0, slots := 0, locals := 13 } : Room)) (fun as' U => as' = #[(.int x), (.int y)] ∧ Z.Warmed39 U.vm ∧ U.heap = h0) (fun _ _ _ _ _ => True) (fun _ U o U' => ∃ v L, o = .returned v ∧ Q_rmSame Z x y h0 n0 v U'.heap L ∧ FrameEnd U o U' L ({ frames := 1, cells := 0, slots := 0, locals := 13 } : Room).cells ({ frames := 1, cells := 0, slots := 0, locals := 13 } : Room).slots) := by
  refine MetFree.of_bodySF (plainFor_of_name pn_1) hisR ?_
  intro p e s m args below meth c s₁ Bd hml0 hP hK
  obtain ⟨rfl, hZ, hh⟩ := hP
  have hx := Bd.exec
  have hby := Bd.bytes
  have hml : c.maxLocals = 3 := hml0
  have hown : s.vm.findClass "com/example/muster/muster/model/MemberEqualsPinLaw" = some m.cls := findClass_of_methodNamed Bd.named
  have hnm := (name_of_methodNamed Bd.named Bd.method).1
  have X0 : Stand p l e ({ frames := 1, cells := 0, slots := 0, locals := 13 } : Room) s m #[(.int x), (.int y)] below meth c s₁ [] 0 0 := Stand.of_body Bd
  have e0 : s₁.heap = h0 := by rw [← hh, Bd.state]; rfl
  have N0 := Fr.nil n0
  refine Go.enter (F := EndN s (Q_rmSame Z x y h0 n0) ({ frames := 1, cells := 0, slots := 0, locals := 13 } : Room).cells ({ frames := 1, cells := 0, slots := 0, locals := 13 } : Room).slots) (ef_196 m x y) ?_
  show Go _ _ _ _ s₁ (mkF m 0 #[.val (.int x), .val (.int y), .unset] [])
  refine Go.by (fun _ gk => XS.iloadN X0.here hx rfl (hb hby d16_0) rfl gk) ?_
  show Go _ _ _ _ s₁ (mkF m 1 #[.val (.int x), .val (.int y), .unset] [(.int x)])
  obtain ⟨_, _, ⟨T1, L1, k1, n1⟩, -, X1, ⟨Lc1, hQ1, l1, y1, z1⟩, st1⟩ := Jvm.LawKit.callS X0 hx (y := (⟨"com/example/muster/muster/model/MemberEqualsPinLaw", "len", "(I)I"⟩ : MethodName)) hown (mvT hZ (hw _ (List.mem_of_getElem? (i := 7) rfl))) (mvT hZ (hw _ (List.mem_of_getElem? (i := 8) rfl))) (mvT hZ (hw _ (List.mem_of_getElem? (i := 5) rfl))) (mvT hZ (hw _ (List.mem_of_getElem? (i := 9) rfl))) (by decide) (backOf (W := 0) (rmLen l Z a0 hw [] x h0 n0 Z0 ) hZ (hw _ (List.mem_of_getElem? (i := 9) rfl)) (hw _ (List.mem_of_getElem? (i := 5) rfl)) (by decide) (by decide)) (g := (mkF m 1 #[.val (.int x), .val (.int y), .unset] [(.int x)])) rfl (by rw [hml]; rfl) (argsL := [(.int x)]) (rest := []) (lenOf pd_66 rfl) rfl (by show 2 * 0 + _ ≤ _; exact Nat.le_of_eq rfl) (hb hby d16_1) (fun _ _ => ⟨rfl, e0, (by decide : 0 + 0 ≤ _), (by decide : 0 + 0 ≤ _)⟩)
  dsimp only [Pt.U, Pt.locs, Pt.cells, Pt.slots] at X1 l1 y1 z1 st1 hQ1
  subst l1 y1 z1
  obtain ⟨rfl, N1q, e1⟩ := hQ1
  have N1 := Fr.app N0 N1q
  refine Go.by st1 ?_
  show Go _ _ _ _ T1 (mkF m 4 #[.val (.int x), .val (.int y), .unset] [(.int (own_ln x))])
  refine Go.by (fun _ gk => XS.istoreN X1.here hx rfl (hb hby d16_4) rfl (l' := #[.val (.int x), .val (.int y), .val (.int (own_ln x))]) rfl gk) ?_
  show Go _ _ _ _ T1 (mkF m 5 #[.val (.int x), .val (.int y), .val (.int (own_ln x))] [])
  refine Go.by (fun _ gk => XS.iloadN X1.here hx rfl (hb hby d16_5) rfl gk) ?_
  show Go _ _ _ _ T1 (mkF m 6 #[.val (.int x), .val (.int y), .val (.int (own_ln x))] [(.int (own_ln x))])
  refine Go.by (fun _ gk => XS.iloadN X1.here hx rfl (hb hby d16_6) rfl gk) ?_
  show Go _ _ _ _ T1 (mkF m 7 #[.val (.int x), .val (.int y), .val (.int (own_ln x))] [(.int y), (.int (own_ln x))])
  obtain ⟨_, _, ⟨T2, L2, k2, n2⟩, -, X2, ⟨Lc2, hQ2, l2, y2, z2⟩, st2⟩ := Jvm.LawKit.callS X1 hx (y := (⟨"com/example/muster/muster/model/MemberEqualsPinLaw", "len", "(I)I"⟩ : MethodName)) hown (mvT hZ (hw _ (List.mem_of_getElem? (i := 7) rfl))) (mvT hZ (hw _ (List.mem_of_getElem? (i := 8) rfl))) (mvT hZ (hw _ (List.mem_of_getElem? (i := 5) rfl))) (mvT hZ (hw _ (List.mem_of_getElem? (i := 9) rfl))) (by decide) (backOf (W := 1) (rmLen l Z a0 hw [] y h0 n0 Z0 ) hZ (hw _ (List.mem_of_getElem? (i := 9) rfl)) (hw _ (List.mem_of_getElem? (i := 5) rfl)) (by decide) (by decide)) (g := (mkF m 7 #[.val (.int x), .val (.int y), .val (.int (own_ln x))] [(.int y), (.int (own_ln x))])) rfl (by rw [hml]; rfl) (argsL := [(.int y)]) (rest := [(.int (own_ln x))]) (lenOf pd_66 rfl) rfl (by show 2 * 0 + _ ≤ _; exact Nat.le_of_eq rfl) (hb hby d16_7) (fun _ _ => ⟨rfl, e1, (by decide : 0 + 0 ≤ _), (by decide : 0 + 0 ≤ _)⟩)
  dsimp only [Pt.U, Pt.locs, Pt.cells, Pt.slots] at X2 l2 y2 z2 st2 hQ2
  subst l2 y2 z2
  obtain ⟨rfl, N2q, e2⟩ := hQ2
  have N2 := Fr.app N1 N2q
  refine Go.by st2 ?_
  show Go _ _ _ _ T2 (mkF m 10 #[.val (.int x), .val (.int y), .val (.int (own_ln x))] [(.int (own_ln y)), (.int (own_ln x))])
  by_cases hb3 : (own_ln x) = (own_ln y)
  · refine Go.by (fun _ gk => XS.icmpYes X2.here hx rfl (pc0 := 10) (pc' := 15) rfl (hb hby d16_10) rfl (XT.ii_eq_t hb3) (by decide) (by decide) gk) ?_
    show Go _ _ _ _ T2 (mkF m 15 #[.val (.int x), .val (.int y), .val (.int (own_ln x))] [])
    refine Go.by (fun _ gk => XS.iloadN X2.here hx rfl (hb hby d16_15) rfl gk) ?_
    show Go _ _ _ _ T2 (mkF m 16 #[.val (.int x), .val (.int y), .val (.int (own_ln x))] [(.int (own_ln x))])
    refine Go.by (fun _ gk => XT.iconstV X2.here hx rfl (1 : Int32) (hb hby d16_16) (by decide) gk) ?_
    show Go _ _ _ _ T2 (mkF m 17 #[.val (.int x), .val (.int y), .val (.int (own_ln x))] [(.int (1 : Int32)), (.int (own_ln x))])
    by_cases hb4 : (own_ln x) < (1 : Int32)
    · refine Go.by (fun _ gk => XS.icmpYes X2.here hx rfl (pc0 := 17) (pc' := 33) rfl (hb hby d16_17) rfl (XT.ii_lt_t hb4) (by decide) (by decide) gk) ?_
      show Go _ _ _ _ T2 (mkF m 33 #[.val (.int x), .val (.int y), .val (.int (own_ln x))] [])
      refine Go.by (fun _ gk => XS.iloadN X2.here hx rfl (hb hby d16_33) rfl gk) ?_
      show Go _ _ _ _ T2 (mkF m 34 #[.val (.int x), .val (.int y), .val (.int (own_ln x))] [(.int (own_ln x))])
      refine Go.by (fun _ gk => XT.iconstV X2.here hx rfl (2 : Int32) (hb hby d16_34) (by decide) gk) ?_
      show Go _ _ _ _ T2 (mkF m 35 #[.val (.int x), .val (.int y), .val (.int (own_ln x))] [(.int (2 : Int32)), (.int (own_ln x))])
      by_cases hb5 : (own_ln x) < (2 : Int32)
      · refine Go.by (fun _ gk => XS.icmpYes X2.here hx rfl (pc0 := 35) (pc' := 51) rfl (hb hby d16_35) rfl (XT.ii_lt_t hb5) (by decide) (by decide) gk) ?_
        show Go _ _ _ _ T2 (mkF m 51 #[.val (.int x), .val (.int y), .val (.int (own_ln x))] [])
        refine Go.by (fun _ gk => XT.iconstV X2.here hx rfl (1 : Int32) (hb hby d16_51) (by decide) gk) ?_
        show Go _ _ _ _ T2 (mkF m 52 #[.val (.int x), .val (.int y), .val (.int (own_ln x))] [(.int (1 : Int32))])
        exact Go.retI X2 hx Bd.notSynchronized Bd.returns rfl (by simp) (hb hby d16_52) (by rw [e2]; exact ⟨(1 : Int32), rfl, N2, rfl, Or.inl ⟨rfl, hb3, Or.inl hb4, Or.inl hb5⟩⟩) (by decide) (by decide)
      · refine Go.by (fun _ gk => XS.icmpNo X2.here hx rfl (hb hby d16_35) rfl (XT.ii_lt_f hb5) gk) ?_
        show Go _ _ _ _ T2 (mkF m 38 #[.val (.int x), .val (.int y), .val (.int (own_ln x))] [])
        refine Go.by (fun _ gk => XS.iloadN X2.here hx rfl (hb hby d16_38) rfl gk) ?_
        show Go _ _ _ _ T2 (mkF m 39 #[.val (.int x), .val (.int y), .val (.int (own_ln x))] [(.int x)])
        obtain ⟨_, _, ⟨T6, L6, k6, n6⟩, -, X6, ⟨Lc6, hQ6, l6, y6, z6⟩, st6⟩ := Jvm.LawKit.callS X2 hx (y := (⟨"com/example/muster/muster/model/MemberEqualsPinLaw", "c1", "(I)C"⟩ : MethodName)) hown (mvT hZ (hw _ (List.mem_of_getElem? (i := 43) rfl))) (mvT hZ (hw _ (List.mem_of_getElem? (i := 44) rfl))) (mvT hZ (hw _ (List.mem_of_getElem? (i := 5) rfl))) (mvT hZ (hw _ (List.mem_of_getElem? (i := 45) rfl))) (by decide) (backOf (W := 0) (rm_c1 l Z a0 hw [] x h0 n0 Z0 ) hZ (hw _ (List.mem_of_getElem? (i := 45) rfl)) (hw _ (List.mem_of_getElem? (i := 5) rfl)) (by decide) (by decide)) (g := (mkF m 39 #[.val (.int x), .val (.int y), .val (.int (own_ln x))] [(.int x)])) rfl (by rw [hml]; rfl) (argsL := [(.int x)]) (rest := []) (lenOf pd_106 rfl) rfl (by show 2 * 0 + _ ≤ _; exact Nat.le_of_eq rfl) (hb hby d16_39) (fun _ _ => ⟨rfl, e2, (by decide : 0 + 0 ≤ _), (by decide : 0 + 0 ≤ _)⟩)
        dsimp only [Pt.U, Pt.locs, Pt.cells, Pt.slots] at X6 l6 y6 z6 st6 hQ6
        subst l6 y6 z6
        obtain ⟨rfl, N6q, e6⟩ := hQ6
        have N6 := Fr.app N2 N6q
        refine Go.by st6 ?_
        show Go _ _ _ _ T6 (mkF m 42 #[.val (.int x), .val (.int y), .val (.int (own_ln x))] [(.int (own_cb x))])
        refine Go.by (fun _ gk => XS.iloadN X6.here hx rfl (hb hby d16_42) rfl gk) ?_
        show Go _ _ _ _ T6 (mkF m 43 #[.val (.int x), .val (.int y), .val (.int (own_ln x))] [(.int y), (.int (own_cb x))])
        obtain ⟨_, _, ⟨T7, L7, k7, n7⟩, -, X7, ⟨Lc7, hQ7, l7, y7, z7⟩, st7⟩ := Jvm.LawKit.callS X6 hx (y := (⟨"com/example/muster/muster/model/MemberEqualsPinLaw", "c1", "(I)C"⟩ : MethodName)) hown (mvT hZ (hw _ (List.mem_of_getElem? (i := 43) rfl))) (mvT hZ (hw _ (List.mem_of_getElem? (i := 44) rfl))) (mvT hZ (hw _ (List.mem_of_getElem? (i := 5) rfl))) (mvT hZ (hw _ (List.mem_of_getElem? (i := 45) rfl))) (by decide) (backOf (W := 1) (rm_c1 l Z a0 hw [] y h0 n0 Z0 ) hZ (hw _ (List.mem_of_getElem? (i := 45) rfl)) (hw _ (List.mem_of_getElem? (i := 5) rfl)) (by decide) (by decide)) (g := (mkF m 43 #[.val (.int x), .val (.int y), .val (.int (own_ln x))] [(.int y), (.int (own_cb x))])) rfl (by rw [hml]; rfl) (argsL := [(.int y)]) (rest := [(.int (own_cb x))]) (lenOf pd_106 rfl) rfl (by show 2 * 0 + _ ≤ _; exact Nat.le_of_eq rfl) (hb hby d16_43) (fun _ _ => ⟨rfl, e6, (by decide : 0 + 0 ≤ _), (by decide : 0 + 0 ≤ _)⟩)
        dsimp only [Pt.U, Pt.locs, Pt.cells, Pt.slots] at X7 l7 y7 z7 st7 hQ7
        subst l7 y7 z7
        obtain ⟨rfl, N7q, e7⟩ := hQ7
        have N7 := Fr.app N6 N7q
        refine Go.by st7 ?_
        show Go _ _ _ _ T7 (mkF m 46 #[.val (.int x), .val (.int y), .val (.int (own_ln x))] [(.int (own_cb y)), (.int (own_cb x))])
        by_cases hb8 : (own_cb x) = (own_cb y)
        · refine Go.by (fun _ gk => XS.icmpYes X7.here hx rfl (pc0 := 46) (pc' := 51) rfl (hb hby d16_46) rfl (XT.ii_eq_t hb8) (by decide) (by decide) gk) ?_
          show Go _ _ _ _ T7 (mkF m 51 #[.val (.int x), .val (.int y), .val (.int (own_ln x))] [])
          refine Go.by (fun _ gk => XT.iconstV X7.here hx rfl (1 : Int32) (hb hby d16_51) (by decide) gk) ?_
          show Go _ _ _ _ T7 (mkF m 52 #[.val (.int x), .val (.int y), .val (.int (own_ln x))] [(.int (1 : Int32))])
          exact Go.retI X7 hx Bd.notSynchronized Bd.returns rfl (by simp) (hb hby d16_52) (by rw [e7]; exact ⟨(1 : Int32), rfl, N7, rfl, Or.inl ⟨rfl, hb3, Or.inl hb4, Or.inr hb8⟩⟩) (by decide) (by decide)
        · refine Go.by (fun _ gk => XS.icmpNo X7.here hx rfl (hb hby d16_46) rfl (XT.ii_eq_f hb8) gk) ?_
          show Go _ _ _ _ T7 (mkF m 49 #[.val (.int x), .val (.int y), .val (.int (own_ln x))] [])
          refine Go.by (fun _ gk => XT.iconstV X7.here hx rfl (0 : Int32) (hb hby d16_49) (by decide) gk) ?_
          show Go _ _ _ _ T7 (mkF m 50 #[.val (.int x), .val (.int y), .val (.int (own_ln x))] [(.int (0 : Int32))])
          exact Go.retI X7 hx Bd.notSynchronized Bd.returns rfl (by simp) (hb hby d16_50) (by rw [e7]; exact ⟨(0 : Int32), rfl, N7, rfl, Or.inr ⟨rfl, fun q => q.2.2.elim hb5 hb8⟩⟩) (by decide) (by decide)
    · refine Go.by (fun _ gk => XS.icmpNo X2.here hx rfl (hb hby d16_17) rfl (XT.ii_lt_f hb4) gk) ?_
      show Go _ _ _ _ T2 (mkF m 20 #[.val (.int x), .val (.int y), .val (.int (own_ln x))] [])
      refine Go.by (fun _ gk => XS.iloadN X2.here hx rfl (hb hby d16_20) rfl gk) ?_
      show Go _ _ _ _ T2 (mkF m 21 #[.val (.int x), .val (.int y), .val (.int (own_ln x))] [(.int x)])
      obtain ⟨_, _, ⟨T9, L9, k9, n9⟩, -, X9, ⟨Lc9, hQ9, l9, y9, z9⟩, st9⟩ := Jvm.LawKit.callS X2 hx (y := (⟨"com/example/muster/muster/model/MemberEqualsPinLaw", "c0", "(I)C"⟩ : MethodName)) hown (mvT hZ (hw _ (List.mem_of_getElem? (i := 40) rfl))) (mvT hZ (hw _ (List.mem_of_getElem? (i := 41) rfl))) (mvT hZ (hw _ (List.mem_of_getElem? (i := 5) rfl))) (mvT hZ (hw _ (List.mem_of_getElem? (i := 42) rfl))) (by decide) (backOf (W := 0) (rm_c0 l Z a0 hw [] x h0 n0 Z0 ) hZ (hw _ (List.mem_of_getElem? (i := 42) rfl)) (hw _ (List.mem_of_getElem? (i := 5) rfl)) (by decide) (by decide)) (g := (mkF m 21 #[.val (.int x), .val (.int y), .val (.int (own_ln x))] [(.int x)])) rfl (by rw [hml]; rfl) (argsL := [(.int x)]) (rest := []) (lenOf pd_106 rfl) rfl (by show 2 * 0 + _ ≤ _; exact Nat.le_of_eq rfl) (hb hby d16_21) (fun _ _ => ⟨rfl, e2, (by decide : 0 + 0 ≤ _), (by decide : 0 + 0 ≤ _)⟩)
      dsimp only [Pt.U, Pt.locs, Pt.cells, Pt.slots] at X9 l9 y9 z9 st9 hQ9
      subst l9 y9 z9
      obtain ⟨rfl, N9q, e9⟩ := hQ9
      have N9 := Fr.app N2 N9q
      refine Go.by st9 ?_
      show Go _ _ _ _ T9 (mkF m 24 #[.val (.int x), .val (.int y), .val (.int (own_ln x))] [(.int (own_ca x))])
      refine Go.by (fun _ gk => XS.iloadN X9.here hx rfl (hb hby d16_24) rfl gk) ?_
      show Go _ _ _ _ T9 (mkF m 25 #[.val (.int x), .val (.int y), .val (.int (own_ln x))] [(.int y), (.int (own_ca x))])
      obtain ⟨_, _, ⟨T10, L10, k10, n10⟩, -, X10, ⟨Lc10, hQ10, l10, y10, z10⟩, st10⟩ := Jvm.LawKit.callS X9 hx (y := (⟨"com/example/muster/muster/model/MemberEqualsPinLaw", "c0", "(I)C"⟩ : MethodName)) hown (mvT hZ (hw _ (List.mem_of_getElem? (i := 40) rfl))) (mvT hZ (hw _ (List.mem_of_getElem? (i := 41) rfl))) (mvT hZ (hw _ (List.mem_of_getElem? (i := 5) rfl))) (mvT hZ (hw _ (List.mem_of_getElem? (i := 42) rfl))) (by decide) (backOf (W := 1) (rm_c0 l Z a0 hw [] y h0 n0 Z0 ) hZ (hw _ (List.mem_of_getElem? (i := 42) rfl)) (hw _ (List.mem_of_getElem? (i := 5) rfl)) (by decide) (by decide)) (g := (mkF m 25 #[.val (.int x), .val (.int y), .val (.int (own_ln x))] [(.int y), (.int (own_ca x))])) rfl (by rw [hml]; rfl) (argsL := [(.int y)]) (rest := [(.int (own_ca x))]) (lenOf pd_106 rfl) rfl (by show 2 * 0 + _ ≤ _; exact Nat.le_of_eq rfl) (hb hby d16_25) (fun _ _ => ⟨rfl, e9, (by decide : 0 + 0 ≤ _), (by decide : 0 + 0 ≤ _)⟩)
      dsimp only [Pt.U, Pt.locs, Pt.cells, Pt.slots] at X10 l10 y10 z10 st10 hQ10
      subst l10 y10 z10
      obtain ⟨rfl, N10q, e10⟩ := hQ10
      have N10 := Fr.app N9 N10q
      refine Go.by st10 ?_
      show Go _ _ _ _ T10 (mkF m 28 #[.val (.int x), .val (.int y), .val (.int (own_ln x))] [(.int (own_ca y)), (.int (own_ca x))])
      by_cases hb11 : (own_ca x) = (own_ca y)
      · refine Go.by (fun _ gk => XS.icmpYes X10.here hx rfl (pc0 := 28) (pc' := 33) rfl (hb hby d16_28) rfl (XT.ii_eq_t hb11) (by decide) (by decide) gk) ?_
        show Go _ _ _ _ T10 (mkF m 33 #[.val (.int x), .val (.int y), .val (.int (own_ln x))] [])
        refine Go.by (fun _ gk => XS.iloadN X10.here hx rfl (hb hby d16_33) rfl gk) ?_
        show Go _ _ _ _ T10 (mkF m 34 #[.val (.int x), .val (.int y), .val (.int (own_ln x))] [(.int (own_ln x))])
        refine Go.by (fun _ gk => XT.iconstV X10.here hx rfl (2 : Int32) (hb hby d16_34) (by decide) gk) ?_
        show Go _ _ _ _ T10 (mkF m 35 #[.val (.int x), .val (.int y), .val (.int (own_ln x))] [(.int (2 : Int32)), (.int (own_ln x))])
        by_cases hb12 : (own_ln x) < (2 : Int32)
        · refine Go.by (fun _ gk => XS.icmpYes X10.here hx rfl (pc0 := 35) (pc' := 51) rfl (hb hby d16_35) rfl (XT.ii_lt_t hb12) (by decide) (by decide) gk) ?_
          show Go _ _ _ _ T10 (mkF m 51 #[.val (.int x), .val (.int y), .val (.int (own_ln x))] [])
          refine Go.by (fun _ gk => XT.iconstV X10.here hx rfl (1 : Int32) (hb hby d16_51) (by decide) gk) ?_
          show Go _ _ _ _ T10 (mkF m 52 #[.val (.int x), .val (.int y), .val (.int (own_ln x))] [(.int (1 : Int32))])
          exact Go.retI X10 hx Bd.notSynchronized Bd.returns rfl (by simp) (hb hby d16_52) (by rw [e10]; exact ⟨(1 : Int32), rfl, N10, rfl, Or.inl ⟨rfl, hb3, Or.inr hb11, Or.inl hb12⟩⟩) (by decide) (by decide)
        · refine Go.by (fun _ gk => XS.icmpNo X10.here hx rfl (hb hby d16_35) rfl (XT.ii_lt_f hb12) gk) ?_
          show Go _ _ _ _ T10 (mkF m 38 #[.val (.int x), .val (.int y), .val (.int (own_ln x))] [])
          refine Go.by (fun _ gk => XS.iloadN X10.here hx rfl (hb hby d16_38) rfl gk) ?_
          show Go _ _ _ _ T10 (mkF m 39 #[.val (.int x), .val (.int y), .val (.int (own_ln x))] [(.int x)])
          obtain ⟨_, _, ⟨T13, L13, k13, n13⟩, -, X13, ⟨Lc13, hQ13, l13, y13, z13⟩, st13⟩ := Jvm.LawKit.callS X10 hx (y := (⟨"com/example/muster/muster/model/MemberEqualsPinLaw", "c1", "(I)C"⟩ : MethodName)) hown (mvT hZ (hw _ (List.mem_of_getElem? (i := 43) rfl))) (mvT hZ (hw _ (List.mem_of_getElem? (i := 44) rfl))) (mvT hZ (hw _ (List.mem_of_getElem? (i := 5) rfl))) (mvT hZ (hw _ (List.mem_of_getElem? (i := 45) rfl))) (by decide) (backOf (W := 0) (rm_c1 l Z a0 hw [] x h0 n0 Z0 ) hZ (hw _ (List.mem_of_getElem? (i := 45) rfl)) (hw _ (List.mem_of_getElem? (i := 5) rfl)) (by decide) (by decide)) (g := (mkF m 39 #[.val (.int x), .val (.int y), .val (.int (own_ln x))] [(.int x)])) rfl (by rw [hml]; rfl) (argsL := [(.int x)]) (rest := []) (lenOf pd_106 rfl) rfl (by show 2 * 0 + _ ≤ _; exact Nat.le_of_eq rfl) (hb hby d16_39) (fun _ _ => ⟨rfl, e10, (by decide : 0 + 0 ≤ _), (by decide : 0 + 0 ≤ _)⟩)
          dsimp only [Pt.U, Pt.locs, Pt.cells, Pt.slots] at X13 l13 y13 z13 st13 hQ13
          subst l13 y13 z13
          obtain ⟨rfl, N13q, e13⟩ := hQ13
          have N13 := Fr.app N10 N13q
          refine Go.by st13 ?_
          show Go _ _ _ _ T13 (mkF m 42 #[.val (.int x), .val (.int y), .val (.int (own_ln x))] [(.int (own_cb x))])
          refine Go.by (fun _ gk => XS.iloadN X13.here hx rfl (hb hby d16_42) rfl gk) ?_
          show Go _ _ _ _ T13 (mkF m 43 #[.val (.int x), .val (.int y), .val (.int (own_ln x))] [(.int y), (.int (own_cb x))])
          obtain ⟨_, _, ⟨T14, L14, k14, n14⟩, -, X14, ⟨Lc14, hQ14, l14, y14, z14⟩, st14⟩ := Jvm.LawKit.callS X13 hx (y := (⟨"com/example/muster/muster/model/MemberEqualsPinLaw", "c1", "(I)C"⟩ : MethodName)) hown (mvT hZ (hw _ (List.mem_of_getElem? (i := 43) rfl))) (mvT hZ (hw _ (List.mem_of_getElem? (i := 44) rfl))) (mvT hZ (hw _ (List.mem_of_getElem? (i := 5) rfl))) (mvT hZ (hw _ (List.mem_of_getElem? (i := 45) rfl))) (by decide) (backOf (W := 1) (rm_c1 l Z a0 hw [] y h0 n0 Z0 ) hZ (hw _ (List.mem_of_getElem? (i := 45) rfl)) (hw _ (List.mem_of_getElem? (i := 5) rfl)) (by decide) (by decide)) (g := (mkF m 43 #[.val (.int x), .val (.int y), .val (.int (own_ln x))] [(.int y), (.int (own_cb x))])) rfl (by rw [hml]; rfl) (argsL := [(.int y)]) (rest := [(.int (own_cb x))]) (lenOf pd_106 rfl) rfl (by show 2 * 0 + _ ≤ _; exact Nat.le_of_eq rfl) (hb hby d16_43) (fun _ _ => ⟨rfl, e13, (by decide : 0 + 0 ≤ _), (by decide : 0 + 0 ≤ _)⟩)
          dsimp only [Pt.U, Pt.locs, Pt.cells, Pt.slots] at X14 l14 y14 z14 st14 hQ14
          subst l14 y14 z14
          obtain ⟨rfl, N14q, e14⟩ := hQ14
          have N14 := Fr.app N13 N14q
          refine Go.by st14 ?_
          show Go _ _ _ _ T14 (mkF m 46 #[.val (.int x), .val (.int y), .val (.int (own_ln x))] [(.int (own_cb y)), (.int (own_cb x))])
          by_cases hb15 : (own_cb x) = (own_cb y)
          · refine Go.by (fun _ gk => XS.icmpYes X14.here hx rfl (pc0 := 46) (pc' := 51) rfl (hb hby d16_46) rfl (XT.ii_eq_t hb15) (by decide) (by decide) gk) ?_
            show Go _ _ _ _ T14 (mkF m 51 #[.val (.int x), .val (.int y), .val (.int (own_ln x))] [])
            refine Go.by (fun _ gk => XT.iconstV X14.here hx rfl (1 : Int32) (hb hby d16_51) (by decide) gk) ?_
            show Go _ _ _ _ T14 (mkF m 52 #[.val (.int x), .val (.int y), .val (.int (own_ln x))] [(.int (1 : Int32))])
            exact Go.retI X14 hx Bd.notSynchronized Bd.returns rfl (by simp) (hb hby d16_52) (by rw [e14]; exact ⟨(1 : Int32), rfl, N14, rfl, Or.inl ⟨rfl, hb3, Or.inr hb11, Or.inr hb15⟩⟩) (by decide) (by decide)
          · refine Go.by (fun _ gk => XS.icmpNo X14.here hx rfl (hb hby d16_46) rfl (XT.ii_eq_f hb15) gk) ?_
            show Go _ _ _ _ T14 (mkF m 49 #[.val (.int x), .val (.int y), .val (.int (own_ln x))] [])
            refine Go.by (fun _ gk => XT.iconstV X14.here hx rfl (0 : Int32) (hb hby d16_49) (by decide) gk) ?_
            show Go _ _ _ _ T14 (mkF m 50 #[.val (.int x), .val (.int y), .val (.int (own_ln x))] [(.int (0 : Int32))])
            exact Go.retI X14 hx Bd.notSynchronized Bd.returns rfl (by simp) (hb hby d16_50) (by rw [e14]; exact ⟨(0 : Int32), rfl, N14, rfl, Or.inr ⟨rfl, fun q => q.2.2.elim hb12 hb15⟩⟩) (by decide) (by decide)
      · refine Go.by (fun _ gk => XS.icmpNo X10.here hx rfl (hb hby d16_28) rfl (XT.ii_eq_f hb11) gk) ?_
        show Go _ _ _ _ T10 (mkF m 31 #[.val (.int x), .val (.int y), .val (.int (own_ln x))] [])
        refine Go.by (fun _ gk => XT.iconstV X10.here hx rfl (0 : Int32) (hb hby d16_31) (by decide) gk) ?_
        show Go _ _ _ _ T10 (mkF m 32 #[.val (.int x), .val (.int y), .val (.int (own_ln x))] [(.int (0 : Int32))])
        exact Go.retI X10 hx Bd.notSynchronized Bd.returns rfl (by simp) (hb hby d16_32) (by rw [e10]; exact ⟨(0 : Int32), rfl, N10, rfl, Or.inr ⟨rfl, fun q => q.2.1.elim hb4 hb11⟩⟩) (by decide) (by decide)
  · refine Go.by (fun _ gk => XS.icmpNo X2.here hx rfl (hb hby d16_10) rfl (XT.ii_eq_f hb3) gk) ?_
    show Go _ _ _ _ T2 (mkF m 13 #[.val (.int x), .val (.int y), .val (.int (own_ln x))] [])
    refine Go.by (fun _ gk => XT.iconstV X2.here hx rfl (0 : Int32) (hb hby d16_13) (by decide) gk) ?_
    show Go _ _ _ _ T2 (mkF m 14 #[.val (.int x), .val (.int y), .val (.int (own_ln x))] [(.int (0 : Int32))])
    exact Go.retI X2 hx Bd.notSynchronized Bd.returns rfl (by simp) (hb hby d16_14) (by rw [e2]; exact ⟨(0 : Int32), rfl, N2, rfl, Or.inr ⟨rfl, fun q => hb3 q.1⟩⟩) (by decide) (by decide)
theorem pn_228 : plainName "com/example/muster/muster/model/Member" = true := by first | (simp [plainName, overriddenIn]; done) | decide +kernel
theorem ef_229 (m : MethodId) (x0 : Addr) (x1 : Addr) (x2 : Addr) : entryFrame m #[(.ref x0), (.ref x1), (.ref x2)] 3 = mkF m 0 #[.val (.ref x0), .val (.ref x1), .val (.ref x2)] [] := by (first | (simp [entryFrame, mkF, argsToLocals, Value.category]; done) | rfl)
theorem d6_0 : decode prog_13_method_1_code 0 = .ok (.aload_n 0, 1) := by decide +kernel
theorem d6_1 : decode prog_13_method_1_code 1 = .ok (.invokespecial 1, 3) := by decide +kernel
theorem d6_4 : decode prog_13_method_1_code 4 = .ok (.aload_n 0, 1) := by decide +kernel
theorem d6_5 : decode prog_13_method_1_code 5 = .ok (.aload_n 1, 1) := by decide +kernel
theorem d6_6 : decode prog_13_method_1_code 6 = .ok (.putfield 7, 3) := by decide +kernel
theorem d6_9 : decode prog_13_method_1_code 9 = .ok (.aload_n 0, 1) := by decide +kernel
theorem d6_10 : decode prog_13_method_1_code 10 = .ok (.aload_n 2, 1) := by decide +kernel
theorem d6_11 : decode prog_13_method_1_code 11 = .ok (.putfield 13, 3) := by decide +kernel
theorem d6_14 : decode prog_13_method_1_code 14 = .ok (.return_, 1) := by decide +kernel
def Q_rmMember (Z : State) (a : Addr) (b : Addr) (d : Addr) (h0 : Heap) (n0 : Nat) (v : Option Value) (h : Heap) (L : List Loc) : Prop := v = none ∧ Fr n0 L ∧ Keep h0 h [a] ∧ Exa Z h a "com/example/muster/muster/model/Member" ∧ Fld Z h a "com/example/muster/muster/model/Member" "conversation" "Ljava/lang/String;" (.ref b) ∧ Fld Z h a "com/example/muster/muster/model/Member" "user" "Ljava/lang/String;" (.ref d)
set_option maxRecDepth 65536 in
set_option maxHeartbeats 40000000 in
theorem rmMember (l : Launch) (Z : State) (a0 : Array Value) (hw : ∀ d ∈ tables_1, d.before a0 Z = true) (ws : List Jvm.Cond) (a : Addr) (b : Addr) (d : Addr) (h0 : Heap) (n0 : Nat) (Z0 : n0 ≤ h0.size) (E_a : Exa Z h0 a "com/example/muster/muster/model/Member") (F_a_conversation : Fld Z h0 a "com/example/muster/muster/model/Member" "conversation" "Ljava/lang/String;" .null) (F_a_user : Fld Z h0 a "com/example/muster/muster/model/Member" "user" "Ljava/lang/String;" .null) (g_a : n0 ≤ a) :
    MetFree l (⟨"com/example/muster/muster/model/Member", "<init>", "(Ljava/lang/String;Ljava/lang/String;)V"⟩ : MethodName) (head1 (Jvm.Cond.code (⟨"com/example/muster/muster/model/Member", "<init>", "(Ljava/lang/String;Ljava/lang/String;)V"⟩ : MethodName) prog_13_method_1_code 3 none :: ws) ({ frames := 1, cells := 0, slots := 0, locals := 12 } : Room)) (fun as' U => as' = #[(.ref a), (.ref b), (.ref d)] ∧ Z.Warmed39 U.vm ∧ U.heap = h0) (fun _ _ _ _ _ => True) (fun _ U o U' => ∃ v L, o = .returned v ∧ Q_rmMember Z a b d h0 n0 v U'.heap L ∧ FrameEnd U o U' L ({ frames := 1, cells := 0, slots := 0, locals := 12 } : Room).cells ({ frames := 1, cells := 0, slots := 0, locals := 12 } : Room).slots) := by
  refine MetFree.of_bodySF (plainFor_of_name pn_228) hisR ?_
  intro p e s m args below meth c s₁ Bd hml0 hP hK
  obtain ⟨rfl, hZ, hh⟩ := hP
  have hx := Bd.exec
  have hby := Bd.bytes
  have hml : c.maxLocals = 3 := hml0
  have hown : s.vm.findClass "com/example/muster/muster/model/Member" = some m.cls := findClass_of_methodNamed Bd.named
  have hnm := (name_of_methodNamed Bd.named Bd.method).1
  have X0 : Stand p l e ({ frames := 1, cells := 0, slots := 0, locals := 12 } : Room) s m #[(.ref a), (.ref b), (.ref d)] below meth c s₁ [] 0 0 := Stand.of_body Bd
  have e0 : s₁.heap = h0 := by rw [← hh, Bd.state]; rfl
  have N0 := Fr.nil n0
  refine Go.enter (F := EndN s (Q_rmMember Z a b d h0 n0) ({ frames := 1, cells := 0, slots := 0, locals := 12 } : Room).cells ({ frames := 1, cells := 0, slots := 0, locals := 12 } : Room).slots) (ef_229 m a b d) ?_
  show Go _ _ _ _ s₁ (mkF m 0 #[.val (.ref a), .val (.ref b), .val (.ref d)] [])
  refine Go.by (fun _ gk => XS.aloadN X0.here hx rfl (hb hby d6_0) rfl rfl gk) ?_
  show Go _ _ _ _ s₁ (mkF m 1 #[.val (.ref a), .val (.ref b), .val (.ref d)] [(.ref a)])
  obtain ⟨T1, X1, e1, st1⟩ := initO X0 hx hZ hown (hw _ (List.mem_of_getElem? (i := 35) rfl)) (hw _ (List.mem_of_getElem? (i := 22) rfl)) (hw _ (List.mem_of_getElem? (i := 23) rfl)) e0 (g := (mkF m 1 #[.val (.ref a), .val (.ref b), .val (.ref d)] [(.ref a)])) rfl (by rw [hml]; rfl) rfl (hb hby d6_1) (by decide) (W := 0) (by show 2 * 0 + _ ≤ _; exact Nat.le_of_eq rfl) (by decide)
  refine Go.by st1 ?_
  show Go _ _ _ _ T1 (mkF m 4 #[.val (.ref a), .val (.ref b), .val (.ref d)] [])
  refine Go.by (fun _ gk => XS.aloadN X1.here hx rfl (hb hby d6_4) rfl rfl gk) ?_
  show Go _ _ _ _ T1 (mkF m 5 #[.val (.ref a), .val (.ref b), .val (.ref d)] [(.ref a)])
  refine Go.by (fun _ gk => XS.aloadN X1.here hx rfl (hb hby d6_5) rfl rfl gk) ?_
  show Go _ _ _ _ T1 (mkF m 6 #[.val (.ref a), .val (.ref b), .val (.ref d)] [(.ref b), (.ref a)])
  obtain ⟨T2, h2, X2, e2, W2, st2⟩ := putF X1 hx hZ hown (host := "") (Or.inl (hw _ (List.mem_of_getElem? (i := 36) rfl))) Via.refl e1 F_a_conversation E_a (Or.inr ⟨(hw _ (List.mem_of_getElem? (i := 37) rfl)), rfl, hnm⟩) (hw _ (List.mem_of_getElem? (i := 1) rfl)) (ty := (.object "java/lang/String")) (by decide) rfl rfl (g := (mkF m 6 #[.val (.ref a), .val (.ref b), .val (.ref d)] [(.ref b), (.ref a)])) rfl rfl (hb hby d6_6)
  have N2 := Fr.snoc X2 N0 g_a
  have Fw2 : Fld Z h2 a "com/example/muster/muster/model/Member" "conversation" "Ljava/lang/String;" (.ref b) := F_a_conversation.same W2
  refine Go.by st2 ?_
  show Go _ _ _ _ T2 (mkF m 9 #[.val (.ref a), .val (.ref b), .val (.ref d)] [])
  refine Go.by (fun _ gk => XS.aloadN X2.here hx rfl (hb hby d6_9) rfl rfl gk) ?_
  show Go _ _ _ _ T2 (mkF m 10 #[.val (.ref a), .val (.ref b), .val (.ref d)] [(.ref a)])
  refine Go.by (fun _ gk => XS.aloadN X2.here hx rfl (hb hby d6_10) rfl rfl gk) ?_
  show Go _ _ _ _ T2 (mkF m 11 #[.val (.ref a), .val (.ref b), .val (.ref d)] [(.ref d), (.ref a)])
  have F3 : Fld Z h2 a "com/example/muster/muster/model/Member" "user" "Ljava/lang/String;" .null := F_a_user.other W2 (Or.inr (slot_ne (Or.inr (hw _ (List.mem_of_getElem? (i := 39) rfl))) (Or.inr (hw _ (List.mem_of_getElem? (i := 37) rfl))) (by decide) (t := (.object "java/lang/String")) (t' := (.object "java/lang/String")) (by decide) (by decide)))
  have F4 : Exa Z h2 a "com/example/muster/muster/model/Member" := E_a.wr W2
  obtain ⟨T5, h5, X5, e5, W5, st5⟩ := putF X2 hx hZ hown (host := "") (Or.inl (hw _ (List.mem_of_getElem? (i := 38) rfl))) Via.refl e2 F3 F4 (Or.inr ⟨(hw _ (List.mem_of_getElem? (i := 39) rfl)), rfl, hnm⟩) (hw _ (List.mem_of_getElem? (i := 1) rfl)) (ty := (.object "java/lang/String")) (by decide) rfl rfl (g := (mkF m 11 #[.val (.ref a), .val (.ref b), .val (.ref d)] [(.ref d), (.ref a)])) rfl rfl (hb hby d6_11)
  have N5 := Fr.snoc X5 N2 g_a
  have Fw5 : Fld Z h5 a "com/example/muster/muster/model/Member" "user" "Ljava/lang/String;" (.ref d) := F3.same W5
  refine Go.by st5 ?_
  show Go _ _ _ _ T5 (mkF m 14 #[.val (.ref a), .val (.ref b), .val (.ref d)] [])
  have F6 : Keep h0 h2 [a] := (Keep.refl h0 [a]).wr W2 (Or.inl (List.mem_of_getElem? (i := 0) rfl))
  have F7 : Keep h0 h5 [a] := F6.wr W5 (Or.inl (List.mem_of_getElem? (i := 0) rfl))
  have F8 : Exa Z h5 a "com/example/muster/muster/model/Member" := F4.wr W5
  have F9 : Fld Z h5 a "com/example/muster/muster/model/Member" "conversation" "Ljava/lang/String;" (.ref b) := Fw2.other W5 (Or.inr (slot_ne (Or.inr (hw _ (List.mem_of_getElem? (i := 37) rfl))) (Or.inr (hw _ (List.mem_of_getElem? (i := 39) rfl))) (by decide) (t := (.object "java/lang/String")) (t' := (.object "java/lang/String")) (by decide) (by decide)))
  exact Go.retV X5 hx Bd.notSynchronized Bd.returns (hb hby d6_14) (by rw [e5]; exact ⟨rfl, N5, F7, F8, F9, Fw5⟩) (by decide) (by decide)
theorem ef_239 (m : MethodId) (x0 : Addr) (x1 : Addr) : entryFrame m #[(.ref x0), (.ref x1)] 3 = mkF m 0 #[.val (.ref x0), .val (.ref x1), .unset] [] := by (first | (simp [entryFrame, mkF, argsToLocals, Value.category]; done) | rfl)
theorem d19_0 : decode jdk_43_method_13_code 0 = .ok (.aload_n 0, 1) := by decide +kernel
theorem d19_1 : decode jdk_43_method_13_code 1 = .ok (.arraylength, 1) := by decide +kernel
theorem d19_2 : decode jdk_43_method_13_code 2 = .ok (.aload_n 1, 1) := by decide +kernel
theorem d19_3 : decode jdk_43_method_13_code 3 = .ok (.arraylength, 1) := by decide +kernel
theorem d19_4 : decode jdk_43_method_13_code 4 = .ok (.if_icmp .ne 30, 3) := by decide +kernel
theorem d19_7 : decode jdk_43_method_13_code 7 = .ok (.iconst 0, 1) := by decide +kernel
theorem d19_8 : decode jdk_43_method_13_code 8 = .ok (.istore_n 2, 1) := by decide +kernel
theorem d19_9 : decode jdk_43_method_13_code 9 = .ok (.iload_n 2, 1) := by decide +kernel
theorem d19_10 : decode jdk_43_method_13_code 10 = .ok (.aload_n 0, 1) := by decide +kernel
theorem d19_11 : decode jdk_43_method_13_code 11 = .ok (.arraylength, 1) := by decide +kernel
theorem d19_12 : decode jdk_43_method_13_code 12 = .ok (.if_icmp .ge 20, 3) := by decide +kernel
theorem d19_32 : decode jdk_43_method_13_code 32 = .ok (.iconst 1, 1) := by decide +kernel
theorem d19_33 : decode jdk_43_method_13_code 33 = .ok (.ireturn, 1) := by decide +kernel
theorem d19_34 : decode jdk_43_method_13_code 34 = .ok (.iconst 0, 1) := by decide +kernel
theorem d19_35 : decode jdk_43_method_13_code 35 = .ok (.ireturn, 1) := by decide +kernel
theorem d19_15 : decode jdk_43_method_13_code 15 = .ok (.aload_n 0, 1) := by decide +kernel
theorem d19_16 : decode jdk_43_method_13_code 16 = .ok (.iload_n 2, 1) := by decide +kernel
theorem d19_17 : decode jdk_43_method_13_code 17 = .ok (.baload, 1) := by decide +kernel
theorem d19_18 : decode jdk_43_method_13_code 18 = .ok (.aload_n 1, 1) := by decide +kernel
theorem d19_19 : decode jdk_43_method_13_code 19 = .ok (.iload_n 2, 1) := by decide +kernel
theorem d19_20 : decode jdk_43_method_13_code 20 = .ok (.baload, 1) := by decide +kernel
theorem d19_21 : decode jdk_43_method_13_code 21 = .ok (.if_icmp .eq 5, 3) := by decide +kernel
theorem d19_26 : decode jdk_43_method_13_code 26 = .ok (.iinc 2 1, 3) := by decide +kernel
theorem d19_29 : decode jdk_43_method_13_code 29 = .ok (.goto (-20), 3) := by decide +kernel
theorem d19_24 : decode jdk_43_method_13_code 24 = .ok (.iconst 0, 1) := by decide +kernel
theorem d19_25 : decode jdk_43_method_13_code 25 = .ok (.ireturn, 1) := by decide +kernel
def Q_rmLeq (Z : State) (a : Addr) (b : Addr) (ka : ClassId) (kb : ClassId) (n : Int32) (xa : Int32) (xb : Int32) (n2 : Int32) (ya : Int32) (yb : Int32) (h0 : Heap) (n0 : Nat) (v : Option Value) (h : Heap) (L : List Loc) : Prop := ∃ r : Int32, v = some (.int r) ∧ Fr n0 L ∧ h = h0 ∧ ((r = 1 ∧ own_eq n xa xb n2 ya yb) ∨ (r = 0 ∧ ¬ own_eq n xa xb n2 ya yb))
set_option maxRecDepth 65536 in
set_option maxHeartbeats 40000000 in
theorem rmLeq (l : Launch) (Z : State) (a0 : Array Value) (hw : ∀ d ∈ tables_1, d.before a0 Z = true) (ws : List Jvm.Cond) (a : Addr) (b : Addr) (ka : ClassId) (kb : ClassId) (n : Int32) (xa : Int32) (xb : Int32) (n2 : Int32) (ya : Int32) (yb : Int32) (h0 : Heap) (n0 : Nat) (Z0 : n0 ≤ h0.size) (V_a : Arv Z h0 a ka .byte n (own_str n xa xb) (.int (0 : Int32))) (V_b : Arv Z h0 b kb .byte n2 (own_str n2 ya yb) (.int (0 : Int32))) (hn1 : (n = 0 ∨ n = 1 ∨ n = 2)) (hn2 : (n2 = 0 ∨ n2 = 1 ∨ n2 = 2)) :
    MetFree l (⟨"java/lang/StringLatin1", "equals", "([B[B)Z"⟩ : MethodName) (head1 (Jvm.Cond.code (⟨"java/lang/StringLatin1", "equals", "([B[B)Z"⟩ : MethodName) jdk_43_method_13_code 3 (some .boolean) :: ws) ({ frames := 0, cells := 0, slots := 0, locals := 0 } : Room)) (fun as' U => as' = #[(.ref a), (.ref b)] ∧ Z.Warmed39 U.vm ∧ U.heap = h0) (fun _ _ _ _ _ => True) (fun _ U o U' => ∃ v L, o = .returned v ∧ Q_rmLeq Z a b ka kb n xa xb n2 ya yb h0 n0 v U'.heap L ∧ FrameEnd U o U' L ({ frames := 0, cells := 0, slots := 0, locals := 0 } : Room).cells ({ frames := 0, cells := 0, slots := 0, locals := 0 } : Room).slots) := by
  refine MetFree.of_bodySF (plainFor_of_name pn_23) hisR ?_
  intro p e s m args below meth c s₁ Bd hml0 hP hK
  obtain ⟨rfl, hZ, hh⟩ := hP
  have hx := Bd.exec
  have hby := Bd.bytes
  have hml : c.maxLocals = 3 := hml0
  have hown : s.vm.findClass "java/lang/StringLatin1" = some m.cls := findClass_of_methodNamed Bd.named
  have hnm := (name_of_methodNamed Bd.named Bd.method).1
  have X0 : Stand p l e ({ frames := 0, cells := 0, slots := 0, locals := 0 } : Room) s m #[(.ref a), (.ref b)] below meth c s₁ [] 0 0 := Stand.of_body Bd
  have e0 : s₁.heap = h0 := by rw [← hh, Bd.state]; rfl
  have N0 := Fr.nil n0
  refine Go.enter (F := EndN s (Q_rmLeq Z a b ka kb n xa xb n2 ya yb h0 n0) ({ frames := 0, cells := 0, slots := 0, locals := 0 } : Room).cells ({ frames := 0, cells := 0, slots := 0, locals := 0 } : Room).slots) (ef_239 m a b) ?_
  show Go _ _ _ _ s₁ (mkF m 0 #[.val (.ref a), .val (.ref b), .unset] [])
  rcases hn1 with rfl | rfl | rfl
  · rcases hn2 with rfl | rfl | rfl
    · show Go _ _ _ _ s₁ (mkF m 0 #[.val (.ref a), .val (.ref b), .unset] [])
      show Go _ _ _ _ s₁ (mkF m 0 #[.val (.ref a), .val (.ref b), .unset] [])
      have Vl1 : Arv Z h0 a ka .byte (0 : Int32) [] (.int (0 : Int32)) := own_str_0 xa xb ▸ V_a
      have Vl2 : Arv Z h0 b kb .byte (0 : Int32) [] (.int (0 : Int32)) := own_str_0 ya yb ▸ V_b
      refine Go.by (fun _ gk => XS.aloadN X0.here hx rfl (hb hby d19_0) rfl rfl gk) ?_
      show Go _ _ _ _ s₁ (mkF m 1 #[.val (.ref a), .val (.ref b), .unset] [(.ref a)])
      obtain ⟨cl3, Ar3, -, S3, M3, -, -⟩ := id Vl1
      refine Go.by (fun _ gk => X0.arraylength hx (by rw [e0]; exact Ar3.1) (State.isArrayOf_alike hZ.alike Ar3.2.1) (g := (mkF m 1 #[.val (.ref a), .val (.ref b), .unset] [(.ref a)])) rfl rfl (hb hby d19_1) _ gk) ?_
      rw [len_of S3 M3]
      show Go _ _ _ _ s₁ (mkF m 2 #[.val (.ref a), .val (.ref b), .unset] [(.int (0 : Int32))])
      refine Go.by (fun _ gk => XS.aloadN X0.here hx rfl (hb hby d19_2) rfl rfl gk) ?_
      show Go _ _ _ _ s₁ (mkF m 3 #[.val (.ref a), .val (.ref b), .unset] [(.ref b), (.int (0 : Int32))])
      obtain ⟨cl4, Ar4, -, S4, M4, -, -⟩ := id Vl2
      refine Go.by (fun _ gk => X0.arraylength hx (by rw [e0]; exact Ar4.1) (State.isArrayOf_alike hZ.alike Ar4.2.1) (g := (mkF m 3 #[.val (.ref a), .val (.ref b), .unset] [(.ref b), (.int (0 : Int32))])) rfl rfl (hb hby d19_3) _ gk) ?_
      rw [len_of S4 M4]
      show Go _ _ _ _ s₁ (mkF m 4 #[.val (.ref a), .val (.ref b), .unset] [(.int (0 : Int32)), (.int (0 : Int32))])
      refine Go.by (fun _ gk => XS.icmpNo X0.here hx rfl (hb hby d19_4) rfl (XT.ii_ne_f rfl) gk) ?_
      show Go _ _ _ _ s₁ (mkF m 7 #[.val (.ref a), .val (.ref b), .unset] [])
      refine Go.by (fun _ gk => XT.iconstV X0.here hx rfl (0 : Int32) (hb hby d19_7) (by decide) gk) ?_
      show Go _ _ _ _ s₁ (mkF m 8 #[.val (.ref a), .val (.ref b), .unset] [(.int (0 : Int32))])
      refine Go.by (fun _ gk => XS.istoreN X0.here hx rfl (hb hby d19_8) rfl (l' := #[.val (.ref a), .val (.ref b), .val (.int (0 : Int32))]) rfl gk) ?_
      show Go _ _ _ _ s₁ (mkF m 9 #[.val (.ref a), .val (.ref b), .val (.int (0 : Int32))] [])
      refine Go.by (fun _ gk => XS.iloadN X0.here hx rfl (hb hby d19_9) rfl gk) ?_
      show Go _ _ _ _ s₁ (mkF m 10 #[.val (.ref a), .val (.ref b), .val (.int (0 : Int32))] [(.int (0 : Int32))])
      refine Go.by (fun _ gk => XS.aloadN X0.here hx rfl (hb hby d19_10) rfl rfl gk) ?_
      show Go _ _ _ _ s₁ (mkF m 11 #[.val (.ref a), .val (.ref b), .val (.int (0 : Int32))] [(.ref a), (.int (0 : Int32))])
      obtain ⟨cl5, Ar5, -, S5, M5, -, -⟩ := id Vl1
      refine Go.by (fun _ gk => X0.arraylength hx (by rw [e0]; exact Ar5.1) (State.isArrayOf_alike hZ.alike Ar5.2.1) (g := (mkF m 11 #[.val (.ref a), .val (.ref b), .val (.int (0 : Int32))] [(.ref a), (.int (0 : Int32))])) rfl rfl (hb hby d19_11) _ gk) ?_
      rw [len_of S5 M5]
      show Go _ _ _ _ s₁ (mkF m 12 #[.val (.ref a), .val (.ref b), .val (.int (0 : Int32))] [(.int (0 : Int32)), (.int (0 : Int32))])
      refine Go.by (fun _ gk => XS.icmpYes X0.here hx rfl (pc0 := 12) (pc' := 32) rfl (hb hby d19_12) rfl (XT.ii_ge_t (by decide)) (by decide) (by decide) gk) ?_
      show Go _ _ _ _ s₁ (mkF m 32 #[.val (.ref a), .val (.ref b), .val (.int (0 : Int32))] [])
      refine Go.by (fun _ gk => XT.iconstV X0.here hx rfl (1 : Int32) (hb hby d19_32) (by decide) gk) ?_
      show Go _ _ _ _ s₁ (mkF m 33 #[.val (.ref a), .val (.ref b), .val (.int (0 : Int32))] [(.int (1 : Int32))])
      exact Go.retI X0 hx Bd.notSynchronized Bd.returns rfl (by simp) (hb hby d19_33) (by rw [e0]; exact ⟨(1 : Int32), rfl, N0, rfl, by simp [own_eq]⟩) (by decide) (by decide)
    · show Go _ _ _ _ s₁ (mkF m 0 #[.val (.ref a), .val (.ref b), .unset] [])
      show Go _ _ _ _ s₁ (mkF m 0 #[.val (.ref a), .val (.ref b), .unset] [])
      have Vl6 : Arv Z h0 a ka .byte (0 : Int32) [] (.int (0 : Int32)) := own_str_0 xa xb ▸ V_a
      have Vl7 : Arv Z h0 b kb .byte (1 : Int32) [(.int (own_b ya))] (.int (0 : Int32)) := own_str_1 ya yb ▸ V_b
      refine Go.by (fun _ gk => XS.aloadN X0.here hx rfl (hb hby d19_0) rfl rfl gk) ?_
      show Go _ _ _ _ s₁ (mkF m 1 #[.val (.ref a), .val (.ref b), .unset] [(.ref a)])
      obtain ⟨cl8, Ar8, -, S8, M8, -, -⟩ := id Vl6
      refine Go.by (fun _ gk => X0.arraylength hx (by rw [e0]; exact Ar8.1) (State.isArrayOf_alike hZ.alike Ar8.2.1) (g := (mkF m 1 #[.val (.ref a), .val (.ref b), .unset] [(.ref a)])) rfl rfl (hb hby d19_1) _ gk) ?_
      rw [len_of S8 M8]
      show Go _ _ _ _ s₁ (mkF m 2 #[.val (.ref a), .val (.ref b), .unset] [(.int (0 : Int32))])
      refine Go.by (fun _ gk => XS.aloadN X0.here hx rfl (hb hby d19_2) rfl rfl gk) ?_
      show Go _ _ _ _ s₁ (mkF m 3 #[.val (.ref a), .val (.ref b), .unset] [(.ref b), (.int (0 : Int32))])
      obtain ⟨cl9, Ar9, -, S9, M9, -, -⟩ := id Vl7
      refine Go.by (fun _ gk => X0.arraylength hx (by rw [e0]; exact Ar9.1) (State.isArrayOf_alike hZ.alike Ar9.2.1) (g := (mkF m 3 #[.val (.ref a), .val (.ref b), .unset] [(.ref b), (.int (0 : Int32))])) rfl rfl (hb hby d19_3) _ gk) ?_
      rw [len_of S9 M9]
      show Go _ _ _ _ s₁ (mkF m 4 #[.val (.ref a), .val (.ref b), .unset] [(.int (1 : Int32)), (.int (0 : Int32))])
      refine Go.by (fun _ gk => XS.icmpYes X0.here hx rfl (pc0 := 4) (pc' := 34) rfl (hb hby d19_4) rfl (XT.ii_ne_t (by decide)) (by decide) (by decide) gk) ?_
      show Go _ _ _ _ s₁ (mkF m 34 #[.val (.ref a), .val (.ref b), .unset] [])
      refine Go.by (fun _ gk => XT.iconstV X0.here hx rfl (0 : Int32) (hb hby d19_34) (by decide) gk) ?_
      show Go _ _ _ _ s₁ (mkF m 35 #[.val (.ref a), .val (.ref b), .unset] [(.int (0 : Int32))])
      exact Go.retI X0 hx Bd.notSynchronized Bd.returns rfl (by simp) (hb hby d19_35) (by rw [e0]; exact ⟨(0 : Int32), rfl, N0, rfl, by simp [own_eq]⟩) (by decide) (by decide)
    · show Go _ _ _ _ s₁ (mkF m 0 #[.val (.ref a), .val (.ref b), .unset] [])
      show Go _ _ _ _ s₁ (mkF m 0 #[.val (.ref a), .val (.ref b), .unset] [])
      have Vl10 : Arv Z h0 a ka .byte (0 : Int32) [] (.int (0 : Int32)) := own_str_0 xa xb ▸ V_a
      have Vl11 : Arv Z h0 b kb .byte (2 : Int32) [(.int (own_b ya)), (.int (own_b yb))] (.int (0 : Int32)) := own_str_2 ya yb ▸ V_b
      refine Go.by (fun _ gk => XS.aloadN X0.here hx rfl (hb hby d19_0) rfl rfl gk) ?_
      show Go _ _ _ _ s₁ (mkF m 1 #[.val (.ref a), .val (.ref b), .unset] [(.ref a)])
      obtain ⟨cl12, Ar12, -, S12, M12, -, -⟩ := id Vl10
      refine Go.by (fun _ gk => X0.arraylength hx (by rw [e0]; exact Ar12.1) (State.isArrayOf_alike hZ.alike Ar12.2.1) (g := (mkF m 1 #[.val (.ref a), .val (.ref b), .unset] [(.ref a)])) rfl rfl (hb hby d19_1) _ gk) ?_
      rw [len_of S12 M12]
      show Go _ _ _ _ s₁ (mkF m 2 #[.val (.ref a), .val (.ref b), .unset] [(.int (0 : Int32))])
      refine Go.by (fun _ gk => XS.aloadN X0.here hx rfl (hb hby d19_2) rfl rfl gk) ?_
      show Go _ _ _ _ s₁ (mkF m 3 #[.val (.ref a), .val (.ref b), .unset] [(.ref b), (.int (0 : Int32))])
      obtain ⟨cl13, Ar13, -, S13, M13, -, -⟩ := id Vl11
      refine Go.by (fun _ gk => X0.arraylength hx (by rw [e0]; exact Ar13.1) (State.isArrayOf_alike hZ.alike Ar13.2.1) (g := (mkF m 3 #[.val (.ref a), .val (.ref b), .unset] [(.ref b), (.int (0 : Int32))])) rfl rfl (hb hby d19_3) _ gk) ?_
      rw [len_of S13 M13]
      show Go _ _ _ _ s₁ (mkF m 4 #[.val (.ref a), .val (.ref b), .unset] [(.int (2 : Int32)), (.int (0 : Int32))])
      refine Go.by (fun _ gk => XS.icmpYes X0.here hx rfl (pc0 := 4) (pc' := 34) rfl (hb hby d19_4) rfl (XT.ii_ne_t (by decide)) (by decide) (by decide) gk) ?_
      show Go _ _ _ _ s₁ (mkF m 34 #[.val (.ref a), .val (.ref b), .unset] [])
      refine Go.by (fun _ gk => XT.iconstV X0.here hx rfl (0 : Int32) (hb hby d19_34) (by decide) gk) ?_
      show Go _ _ _ _ s₁ (mkF m 35 #[.val (.ref a), .val (.ref b), .unset] [(.int (0 : Int32))])
      exact Go.retI X0 hx Bd.notSynchronized Bd.returns rfl (by simp) (hb hby d19_35) (by rw [e0]; exact ⟨(0 : Int32), rfl, N0, rfl, by simp [own_eq]⟩) (by decide) (by decide)
  · rcases hn2 with rfl | rfl | rfl
    · show Go _ _ _ _ s₁ (mkF m 0 #[.val (.ref a), .val (.ref b), .unset] [])
      show Go _ _ _ _ s₁ (mkF m 0 #[.val (.ref a), .val (.ref b), .unset] [])
      have Vl14 : Arv Z h0 a ka .byte (1 : Int32) [(.int (own_b xa))] (.int (0 : Int32)) := own_str_1 xa xb ▸ V_a
      have Vl15 : Arv Z h0 b kb .byte (0 : Int32) [] (.int (0 : Int32)) := own_str_0 ya yb ▸ V_b
      refine Go.by (fun _ gk => XS.aloadN X0.here hx rfl (hb hby d19_0) rfl rfl gk) ?_
      show Go _ _ _ _ s₁ (mkF m 1 #[.val (.ref a), .val (.ref b), .unset] [(.ref a)])
      obtain ⟨cl16, Ar16, -, S16, M16, -, -⟩ := id Vl14
      refine Go.by (fun _ gk => X0.arraylength hx (by rw [e0]; exact Ar16.1) (State.isArrayOf_alike hZ.alike Ar16.2.1) (g := (mkF m 1 #[.val (.ref a), .val (.ref b), .unset] [(.ref a)])) rfl rfl (hb hby d19_1) _ gk) ?_
      rw [len_of S16 M16]
      show Go _ _ _ _ s₁ (mkF m 2 #[.val (.ref a), .val (.ref b), .unset] [(.int (1 : Int32))])
      refine Go.by (fun _ gk => XS.aloadN X0.here hx rfl (hb hby d19_2) rfl rfl gk) ?_
      show Go _ _ _ _ s₁ (mkF m 3 #[.val (.ref a), .val (.ref b), .unset] [(.ref b), (.int (1 : Int32))])
      obtain ⟨cl17, Ar17, -, S17, M17, -, -⟩ := id Vl15
      refine Go.by (fun _ gk => X0.arraylength hx (by rw [e0]; exact Ar17.1) (State.isArrayOf_alike hZ.alike Ar17.2.1) (g := (mkF m 3 #[.val (.ref a), .val (.ref b), .unset] [(.ref b), (.int (1 : Int32))])) rfl rfl (hb hby d19_3) _ gk) ?_
      rw [len_of S17 M17]
      show Go _ _ _ _ s₁ (mkF m 4 #[.val (.ref a), .val (.ref b), .unset] [(.int (0 : Int32)), (.int (1 : Int32))])
      refine Go.by (fun _ gk => XS.icmpYes X0.here hx rfl (pc0 := 4) (pc' := 34) rfl (hb hby d19_4) rfl (XT.ii_ne_t (by decide)) (by decide) (by decide) gk) ?_
      show Go _ _ _ _ s₁ (mkF m 34 #[.val (.ref a), .val (.ref b), .unset] [])
      refine Go.by (fun _ gk => XT.iconstV X0.here hx rfl (0 : Int32) (hb hby d19_34) (by decide) gk) ?_
      show Go _ _ _ _ s₁ (mkF m 35 #[.val (.ref a), .val (.ref b), .unset] [(.int (0 : Int32))])
      exact Go.retI X0 hx Bd.notSynchronized Bd.returns rfl (by simp) (hb hby d19_35) (by rw [e0]; exact ⟨(0 : Int32), rfl, N0, rfl, by simp [own_eq]⟩) (by decide) (by decide)
    · show Go _ _ _ _ s₁ (mkF m 0 #[.val (.ref a), .val (.ref b), .unset] [])
      show Go _ _ _ _ s₁ (mkF m 0 #[.val (.ref a), .val (.ref b), .unset] [])
      have Vl18 : Arv Z h0 a ka .byte (1 : Int32) [(.int (own_b xa))] (.int (0 : Int32)) := own_str_1 xa xb ▸ V_a
      have Vl19 : Arv Z h0 b kb .byte (1 : Int32) [(.int (own_b ya))] (.int (0 : Int32)) := own_str_1 ya yb ▸ V_b
      refine Go.by (fun _ gk => XS.aloadN X0.here hx rfl (hb hby d19_0) rfl rfl gk) ?_
      show Go _ _ _ _ s₁ (mkF m 1 #[.val (.ref a), .val (.ref b), .unset] [(.ref a)])
      obtain ⟨cl20, Ar20, -, S20, M20, -, -⟩ := id Vl18
      refine Go.by (fun _ gk => X0.arraylength hx (by rw [e0]; exact Ar20.1) (State.isArrayOf_alike hZ.alike Ar20.2.1) (g := (mkF m 1 #[.val (.ref a), .val (.ref b), .unset] [(.ref a)])) rfl rfl (hb hby d19_1) _ gk) ?_
      rw [len_of S20 M20]
      show Go _ _ _ _ s₁ (mkF m 2 #[.val (.ref a), .val (.ref b), .unset] [(.int (1 : Int32))])
      refine Go.by (fun _ gk => XS.aloadN X0.here hx rfl (hb hby d19_2) rfl rfl gk) ?_
      show Go _ _ _ _ s₁ (mkF m 3 #[.val (.ref a), .val (.ref b), .unset] [(.ref b), (.int (1 : Int32))])
      obtain ⟨cl21, Ar21, -, S21, M21, -, -⟩ := id Vl19
      refine Go.by (fun _ gk => X0.arraylength hx (by rw [e0]; exact Ar21.1) (State.isArrayOf_alike hZ.alike Ar21.2.1) (g := (mkF m 3 #[.val (.ref a), .val (.ref b), .unset] [(.ref b), (.int (1 : Int32))])) rfl rfl (hb hby d19_3) _ gk) ?_
      rw [len_of S21 M21]
      show Go _ _ _ _ s₁ (mkF m 4 #[.val (.ref a), .val (.ref b), .unset] [(.int (1 : Int32)), (.int (1 : Int32))])
      refine Go.by (fun _ gk => XS.icmpNo X0.here hx rfl (hb hby d19_4) rfl (XT.ii_ne_f rfl) gk) ?_
      show Go _ _ _ _ s₁ (mkF m 7 #[.val (.ref a), .val (.ref b), .unset] [])
      refine Go.by (fun _ gk => XT.iconstV X0.here hx rfl (0 : Int32) (hb hby d19_7) (by decide) gk) ?_
      show Go _ _ _ _ s₁ (mkF m 8 #[.val (.ref a), .val (.ref b), .unset] [(.int (0 : Int32))])
      refine Go.by (fun _ gk => XS.istoreN X0.here hx rfl (hb hby d19_8) rfl (l' := #[.val (.ref a), .val (.ref b), .val (.int (0 : Int32))]) rfl gk) ?_
      show Go _ _ _ _ s₁ (mkF m 9 #[.val (.ref a), .val (.ref b), .val (.int (0 : Int32))] [])
      refine Go.by (fun _ gk => XS.iloadN X0.here hx rfl (hb hby d19_9) rfl gk) ?_
      show Go _ _ _ _ s₁ (mkF m 10 #[.val (.ref a), .val (.ref b), .val (.int (0 : Int32))] [(.int (0 : Int32))])
      refine Go.by (fun _ gk => XS.aloadN X0.here hx rfl (hb hby d19_10) rfl rfl gk) ?_
      show Go _ _ _ _ s₁ (mkF m 11 #[.val (.ref a), .val (.ref b), .val (.int (0 : Int32))] [(.ref a), (.int (0 : Int32))])
      obtain ⟨cl22, Ar22, -, S22, M22, -, -⟩ := id Vl18
      refine Go.by (fun _ gk => X0.arraylength hx (by rw [e0]; exact Ar22.1) (State.isArrayOf_alike hZ.alike Ar22.2.1) (g := (mkF m 11 #[.val (.ref a), .val (.ref b), .val (.int (0 : Int32))] [(.ref a), (.int (0 : Int32))])) rfl rfl (hb hby d19_11) _ gk) ?_
      rw [len_of S22 M22]
      show Go _ _ _ _ s₁ (mkF m 12 #[.val (.ref a), .val (.ref b), .val (.int (0 : Int32))] [(.int (1 : Int32)), (.int (0 : Int32))])
      refine Go.by (fun _ gk => XS.icmpNo X0.here hx rfl (hb hby d19_12) rfl (XT.ii_ge_f (by decide)) gk) ?_
      show Go _ _ _ _ s₁ (mkF m 15 #[.val (.ref a), .val (.ref b), .val (.int (0 : Int32))] [])
      refine Go.by (fun _ gk => XS.aloadN X0.here hx rfl (hb hby d19_15) rfl rfl gk) ?_
      show Go _ _ _ _ s₁ (mkF m 16 #[.val (.ref a), .val (.ref b), .val (.int (0 : Int32))] [(.ref a)])
      refine Go.by (fun _ gk => XS.iloadN X0.here hx rfl (hb hby d19_16) rfl gk) ?_
      show Go _ _ _ _ s₁ (mkF m 17 #[.val (.ref a), .val (.ref b), .val (.int (0 : Int32))] [(.int (0 : Int32)), (.ref a)])
      obtain ⟨cl23, Ar23, -, S23, M23, H23, -⟩ := id Vl18
      have hin23 : ¬ ((0 : Int32) < 0 ∨ cl23.slots.size ≤ (0 : Int32).toNatClampNeg) := inb_of S23 ⟨by decide, by decide⟩
      refine Go.by (fun _ gk => X0.baloadBytes hx (j := (0 : Int32)) (v := (.int (own_b xa))) (by rw [e0]; exact Ar23.1) (State.isArrayOf_alike hZ.alike Ar23.2.1) Ar23.2.2 hin23 (Has.at H23 hin23 rfl) (g := (mkF m 17 #[.val (.ref a), .val (.ref b), .val (.int (0 : Int32))] [(.int (0 : Int32)), (.ref a)])) rfl rfl (hb hby d19_17) _ gk) ?_
      show Go _ _ _ _ s₁ (mkF m 18 #[.val (.ref a), .val (.ref b), .val (.int (0 : Int32))] [(.int (own_b xa))])
      refine Go.by (fun _ gk => XS.aloadN X0.here hx rfl (hb hby d19_18) rfl rfl gk) ?_
      show Go _ _ _ _ s₁ (mkF m 19 #[.val (.ref a), .val (.ref b), .val (.int (0 : Int32))] [(.ref b), (.int (own_b xa))])
      refine Go.by (fun _ gk => XS.iloadN X0.here hx rfl (hb hby d19_19) rfl gk) ?_
      show Go _ _ _ _ s₁ (mkF m 20 #[.val (.ref a), .val (.ref b), .val (.int (0 : Int32))] [(.int (0 : Int32)), (.ref b), (.int (own_b xa))])
      obtain ⟨cl24, Ar24, -, S24, M24, H24, -⟩ := id Vl19
      have hin24 : ¬ ((0 : Int32) < 0 ∨ cl24.slots.size ≤ (0 : Int32).toNatClampNeg) := inb_of S24 ⟨by decide, by decide⟩
      refine Go.by (fun _ gk => X0.baloadBytes hx (j := (0 : Int32)) (v := (.int (own_b ya))) (by rw [e0]; exact Ar24.1) (State.isArrayOf_alike hZ.alike Ar24.2.1) Ar24.2.2 hin24 (Has.at H24 hin24 rfl) (g := (mkF m 20 #[.val (.ref a), .val (.ref b), .val (.int (0 : Int32))] [(.int (0 : Int32)), (.ref b), (.int (own_b xa))])) rfl rfl (hb hby d19_20) _ gk) ?_
      show Go _ _ _ _ s₁ (mkF m 21 #[.val (.ref a), .val (.ref b), .val (.int (0 : Int32))] [(.int (own_b ya)), (.int (own_b xa))])
      by_cases hb25 : (own_b xa) = (own_b ya)
      · refine Go.by (fun _ gk => XS.icmpYes X0.here hx rfl (pc0 := 21) (pc' := 26) rfl (hb hby d19_21) rfl (XT.ii_eq_t hb25) (by decide) (by decide) gk) ?_
        show Go _ _ _ _ s₁ (mkF m 26 #[.val (.ref a), .val (.ref b), .val (.int (0 : Int32))] [])
        refine Go.by (fun _ gk => XT.iincV X0.here hx rfl (1 : Int32) (hb hby d19_26) (by decide) rfl (l' := #[.val (.ref a), .val (.ref b), .val (.int (1 : Int32))]) rfl gk) ?_
        show Go _ _ _ _ s₁ (mkF m 29 #[.val (.ref a), .val (.ref b), .val (.int (1 : Int32))] [])
        refine Go.by (fun _ gk => XS.goto X0.here hx rfl (pc0 := 29) (pc' := 9) rfl (hb hby d19_29) (by decide) (by decide) gk) ?_
        show Go _ _ _ _ s₁ (mkF m 9 #[.val (.ref a), .val (.ref b), .val (.int (1 : Int32))] [])
        refine Go.by (fun _ gk => XS.iloadN X0.here hx rfl (hb hby d19_9) rfl gk) ?_
        show Go _ _ _ _ s₁ (mkF m 10 #[.val (.ref a), .val (.ref b), .val (.int (1 : Int32))] [(.int (1 : Int32))])
        refine Go.by (fun _ gk => XS.aloadN X0.here hx rfl (hb hby d19_10) rfl rfl gk) ?_
        show Go _ _ _ _ s₁ (mkF m 11 #[.val (.ref a), .val (.ref b), .val (.int (1 : Int32))] [(.ref a), (.int (1 : Int32))])
        obtain ⟨cl26, Ar26, -, S26, M26, -, -⟩ := id Vl18
        refine Go.by (fun _ gk => X0.arraylength hx (by rw [e0]; exact Ar26.1) (State.isArrayOf_alike hZ.alike Ar26.2.1) (g := (mkF m 11 #[.val (.ref a), .val (.ref b), .val (.int (1 : Int32))] [(.ref a), (.int (1 : Int32))])) rfl rfl (hb hby d19_11) _ gk) ?_
        rw [len_of S26 M26]
        show Go _ _ _ _ s₁ (mkF m 12 #[.val (.ref a), .val (.ref b), .val (.int (1 : Int32))] [(.int (1 : Int32)), (.int (1 : Int32))])
        refine Go.by (fun _ gk => XS.icmpYes X0.here hx rfl (pc0 := 12) (pc' := 32) rfl (hb hby d19_12) rfl (XT.ii_ge_t (by decide)) (by decide) (by decide) gk) ?_
        show Go _ _ _ _ s₁ (mkF m 32 #[.val (.ref a), .val (.ref b), .val (.int (1 : Int32))] [])
        refine Go.by (fun _ gk => XT.iconstV X0.here hx rfl (1 : Int32) (hb hby d19_32) (by decide) gk) ?_
        show Go _ _ _ _ s₁ (mkF m 33 #[.val (.ref a), .val (.ref b), .val (.int (1 : Int32))] [(.int (1 : Int32))])
        exact Go.retI X0 hx Bd.notSynchronized Bd.returns rfl (by simp) (hb hby d19_33) (by rw [e0]; exact ⟨(1 : Int32), rfl, N0, rfl, by simp [own_eq, hb25]⟩) (by decide) (by decide)
      · refine Go.by (fun _ gk => XS.icmpNo X0.here hx rfl (hb hby d19_21) rfl (XT.ii_eq_f hb25) gk) ?_
        show Go _ _ _ _ s₁ (mkF m 24 #[.val (.ref a), .val (.ref b), .val (.int (0 : Int32))] [])
        refine Go.by (fun _ gk => XT.iconstV X0.here hx rfl (0 : Int32) (hb hby d19_24) (by decide) gk) ?_
        show Go _ _ _ _ s₁ (mkF m 25 #[.val (.ref a), .val (.ref b), .val (.int (0 : Int32))] [(.int (0 : Int32))])
        exact Go.retI X0 hx Bd.notSynchronized Bd.returns rfl (by simp) (hb hby d19_25) (by rw [e0]; exact ⟨(0 : Int32), rfl, N0, rfl, by simp [own_eq, hb25]⟩) (by decide) (by decide)
    · show Go _ _ _ _ s₁ (mkF m 0 #[.val (.ref a), .val (.ref b), .unset] [])
      show Go _ _ _ _ s₁ (mkF m 0 #[.val (.ref a), .val (.ref b), .unset] [])
      have Vl27 : Arv Z h0 a ka .byte (1 : Int32) [(.int (own_b xa))] (.int (0 : Int32)) := own_str_1 xa xb ▸ V_a
      have Vl28 : Arv Z h0 b kb .byte (2 : Int32) [(.int (own_b ya)), (.int (own_b yb))] (.int (0 : Int32)) := own_str_2 ya yb ▸ V_b
      refine Go.by (fun _ gk => XS.aloadN X0.here hx rfl (hb hby d19_0) rfl rfl gk) ?_
      show Go _ _ _ _ s₁ (mkF m 1 #[.val (.ref a), .val (.ref b), .unset] [(.ref a)])
      obtain ⟨cl29, Ar29, -, S29, M29, -, -⟩ := id Vl27
      refine Go.by (fun _ gk => X0.arraylength hx (by rw [e0]; exact Ar29.1) (State.isArrayOf_alike hZ.alike Ar29.2.1) (g := (mkF m 1 #[.val (.ref a), .val (.ref b), .unset] [(.ref a)])) rfl rfl (hb hby d19_1) _ gk) ?_
      rw [len_of S29 M29]
      show Go _ _ _ _ s₁ (mkF m 2 #[.val (.ref a), .val (.ref b), .unset] [(.int (1 : Int32))])
      refine Go.by (fun _ gk => XS.aloadN X0.here hx rfl (hb hby d19_2) rfl rfl gk) ?_
      show Go _ _ _ _ s₁ (mkF m 3 #[.val (.ref a), .val (.ref b), .unset] [(.ref b), (.int (1 : Int32))])
      obtain ⟨cl30, Ar30, -, S30, M30, -, -⟩ := id Vl28
      refine Go.by (fun _ gk => X0.arraylength hx (by rw [e0]; exact Ar30.1) (State.isArrayOf_alike hZ.alike Ar30.2.1) (g := (mkF m 3 #[.val (.ref a), .val (.ref b), .unset] [(.ref b), (.int (1 : Int32))])) rfl rfl (hb hby d19_3) _ gk) ?_
      rw [len_of S30 M30]
      show Go _ _ _ _ s₁ (mkF m 4 #[.val (.ref a), .val (.ref b), .unset] [(.int (2 : Int32)), (.int (1 : Int32))])
      refine Go.by (fun _ gk => XS.icmpYes X0.here hx rfl (pc0 := 4) (pc' := 34) rfl (hb hby d19_4) rfl (XT.ii_ne_t (by decide)) (by decide) (by decide) gk) ?_
      show Go _ _ _ _ s₁ (mkF m 34 #[.val (.ref a), .val (.ref b), .unset] [])
      refine Go.by (fun _ gk => XT.iconstV X0.here hx rfl (0 : Int32) (hb hby d19_34) (by decide) gk) ?_
      show Go _ _ _ _ s₁ (mkF m 35 #[.val (.ref a), .val (.ref b), .unset] [(.int (0 : Int32))])
      exact Go.retI X0 hx Bd.notSynchronized Bd.returns rfl (by simp) (hb hby d19_35) (by rw [e0]; exact ⟨(0 : Int32), rfl, N0, rfl, by simp [own_eq]⟩) (by decide) (by decide)
  · rcases hn2 with rfl | rfl | rfl
    · show Go _ _ _ _ s₁ (mkF m 0 #[.val (.ref a), .val (.ref b), .unset] [])
      show Go _ _ _ _ s₁ (mkF m 0 #[.val (.ref a), .val (.ref b), .unset] [])
      have Vl31 : Arv Z h0 a ka .byte (2 : Int32) [(.int (own_b xa)), (.int (own_b xb))] (.int (0 : Int32)) := own_str_2 xa xb ▸ V_a
      have Vl32 : Arv Z h0 b kb .byte (0 : Int32) [] (.int (0 : Int32)) := own_str_0 ya yb ▸ V_b
      refine Go.by (fun _ gk => XS.aloadN X0.here hx rfl (hb hby d19_0) rfl rfl gk) ?_
      show Go _ _ _ _ s₁ (mkF m 1 #[.val (.ref a), .val (.ref b), .unset] [(.ref a)])
      obtain ⟨cl33, Ar33, -, S33, M33, -, -⟩ := id Vl31
      refine Go.by (fun _ gk => X0.arraylength hx (by rw [e0]; exact Ar33.1) (State.isArrayOf_alike hZ.alike Ar33.2.1) (g := (mkF m 1 #[.val (.ref a), .val (.ref b), .unset] [(.ref a)])) rfl rfl (hb hby d19_1) _ gk) ?_
      rw [len_of S33 M33]
      show Go _ _ _ _ s₁ (mkF m 2 #[.val (.ref a), .val (.ref b), .unset] [(.int (2 : Int32))])
      refine Go.by (fun _ gk => XS.aloadN X0.here hx rfl (hb hby d19_2) rfl rfl gk) ?_
      show Go _ _ _ _ s₁ (mkF m 3 #[.val (.ref a), .val (.ref b), .unset] [(.ref b), (.int (2 : Int32))])
      obtain ⟨cl34, Ar34, -, S34, M34, -, -⟩ := id Vl32
      refine Go.by (fun _ gk => X0.arraylength hx (by rw [e0]; exact Ar34.1) (State.isArrayOf_alike hZ.alike Ar34.2.1) (g := (mkF m 3 #[.val (.ref a), .val (.ref b), .unset] [(.ref b), (.int (2 : Int32))])) rfl rfl (hb hby d19_3) _ gk) ?_
      rw [len_of S34 M34]
      show Go _ _ _ _ s₁ (mkF m 4 #[.val (.ref a), .val (.ref b), .unset] [(.int (0 : Int32)), (.int (2 : Int32))])
      refine Go.by (fun _ gk => XS.icmpYes X0.here hx rfl (pc0 := 4) (pc' := 34) rfl (hb hby d19_4) rfl (XT.ii_ne_t (by decide)) (by decide) (by decide) gk) ?_
      show Go _ _ _ _ s₁ (mkF m 34 #[.val (.ref a), .val (.ref b), .unset] [])
      refine Go.by (fun _ gk => XT.iconstV X0.here hx rfl (0 : Int32) (hb hby d19_34) (by decide) gk) ?_
      show Go _ _ _ _ s₁ (mkF m 35 #[.val (.ref a), .val (.ref b), .unset] [(.int (0 : Int32))])
      exact Go.retI X0 hx Bd.notSynchronized Bd.returns rfl (by simp) (hb hby d19_35) (by rw [e0]; exact ⟨(0 : Int32), rfl, N0, rfl, by simp [own_eq]⟩) (by decide) (by decide)
    · show Go _ _ _ _ s₁ (mkF m 0 #[.val (.ref a), .val (.ref b), .unset] [])
      show Go _ _ _ _ s₁ (mkF m 0 #[.val (.ref a), .val (.ref b), .unset] [])
      have Vl35 : Arv Z h0 a ka .byte (2 : Int32) [(.int (own_b xa)), (.int (own_b xb))] (.int (0 : Int32)) := own_str_2 xa xb ▸ V_a
      have Vl36 : Arv Z h0 b kb .byte (1 : Int32) [(.int (own_b ya))] (.int (0 : Int32)) := own_str_1 ya yb ▸ V_b
      refine Go.by (fun _ gk => XS.aloadN X0.here hx rfl (hb hby d19_0) rfl rfl gk) ?_
      show Go _ _ _ _ s₁ (mkF m 1 #[.val (.ref a), .val (.ref b), .unset] [(.ref a)])
      obtain ⟨cl37, Ar37, -, S37, M37, -, -⟩ := id Vl35
      refine Go.by (fun _ gk => X0.arraylength hx (by rw [e0]; exact Ar37.1) (State.isArrayOf_alike hZ.alike Ar37.2.1) (g := (mkF m 1 #[.val (.ref a), .val (.ref b), .unset] [(.ref a)])) rfl rfl (hb hby d19_1) _ gk) ?_
      rw [len_of S37 M37]
      show Go _ _ _ _ s₁ (mkF m 2 #[.val (.ref a), .val (.ref b), .unset] [(.int (2 : Int32))])
      refine Go.by (fun _ gk => XS.aloadN X0.here hx rfl (hb hby d19_2) rfl rfl gk) ?_
      show Go _ _ _ _ s₁ (mkF m 3 #[.val (.ref a), .val (.ref b), .unset] [(.ref b), (.int (2 : Int32))])
      obtain ⟨cl38, Ar38, -, S38, M38, -, -⟩ := id Vl36
      refine Go.by (fun _ gk => X0.arraylength hx (by rw [e0]; exact Ar38.1) (State.isArrayOf_alike hZ.alike Ar38.2.1) (g := (mkF m 3 #[.val (.ref a), .val (.ref b), .unset] [(.ref b), (.int (2 : Int32))])) rfl rfl (hb hby d19_3) _ gk) ?_
      rw [len_of S38 M38]
      show Go _ _ _ _ s₁ (mkF m 4 #[.val (.ref a), .val (.ref b), .unset] [(.int (1 : Int32)), (.int (2 : Int32))])
      refine Go.by (fun _ gk => XS.icmpYes X0.here hx rfl (pc0 := 4) (pc' := 34) rfl (hb hby d19_4) rfl (XT.ii_ne_t (by decide)) (by decide) (by decide) gk) ?_
      show Go _ _ _ _ s₁ (mkF m 34 #[.val (.ref a), .val (.ref b), .unset] [])
      refine Go.by (fun _ gk => XT.iconstV X0.here hx rfl (0 : Int32) (hb hby d19_34) (by decide) gk) ?_
      show Go _ _ _ _ s₁ (mkF m 35 #[.val (.ref a), .val (.ref b), .unset] [(.int (0 : Int32))])
      exact Go.retI X0 hx Bd.notSynchronized Bd.returns rfl (by simp) (hb hby d19_35) (by rw [e0]; exact ⟨(0 : Int32), rfl, N0, rfl, by simp [own_eq]⟩) (by decide) (by decide)
    · show Go _ _ _ _ s₁ (mkF m 0 #[.val (.ref a), .val (.ref b), .unset] [])
      show Go _ _ _ _ s₁ (mkF m 0 #[.val (.ref a), .val (.ref b), .unset] [])
      have Vl39 : Arv Z h0 a ka .byte (2 : Int32) [(.int (own_b xa)), (.int (own_b xb))] (.int (0 : Int32)) := own_str_2 xa xb ▸ V_a
      have Vl40 : Arv Z h0 b kb .byte (2 : Int32) [(.int (own_b ya)), (.int (own_b yb))] (.int (0 : Int32)) := own_str_2 ya yb ▸ V_b
      refine Go.by (fun _ gk => XS.aloadN X0.here hx rfl (hb hby d19_0) rfl rfl gk) ?_
      show Go _ _ _ _ s₁ (mkF m 1 #[.val (.ref a), .val (.ref b), .unset] [(.ref a)])
      obtain ⟨cl41, Ar41, -, S41, M41, -, -⟩ := id Vl39
      refine Go.by (fun _ gk => X0.arraylength hx (by rw [e0]; exact Ar41.1) (State.isArrayOf_alike hZ.alike Ar41.2.1) (g := (mkF m 1 #[.val (.ref a), .val (.ref b), .unset] [(.ref a)])) rfl rfl (hb hby d19_1) _ gk) ?_
      rw [len_of S41 M41]
      show Go _ _ _ _ s₁ (mkF m 2 #[.val (.ref a), .val (.ref b), .unset] [(.int (2 : Int32))])
      refine Go.by (fun _ gk => XS.aloadN X0.here hx rfl (hb hby d19_2) rfl rfl gk) ?_
      show Go _ _ _ _ s₁ (mkF m 3 #[.val (.ref a), .val (.ref b), .unset] [(.ref b), (.int (2 : Int32))])
      obtain ⟨cl42, Ar42, -, S42, M42, -, -⟩ := id Vl40
      refine Go.by (fun _ gk => X0.arraylength hx (by rw [e0]; exact Ar42.1) (State.isArrayOf_alike hZ.alike Ar42.2.1) (g := (mkF m 3 #[.val (.ref a), .val (.ref b), .unset] [(.ref b), (.int (2 : Int32))])) rfl rfl (hb hby d19_3) _ gk) ?_
      rw [len_of S42 M42]
      show Go _ _ _ _ s₁ (mkF m 4 #[.val (.ref a), .val (.ref b), .unset] [(.int (2 : Int32)), (.int (2 : Int32))])
      refine Go.by (fun _ gk => XS.icmpNo X0.here hx rfl (hb hby d19_4) rfl (XT.ii_ne_f rfl) gk) ?_
      show Go _ _ _ _ s₁ (mkF m 7 #[.val (.ref a), .val (.ref b), .unset] [])
      refine Go.by (fun _ gk => XT.iconstV X0.here hx rfl (0 : Int32) (hb hby d19_7) (by decide) gk) ?_
      show Go _ _ _ _ s₁ (mkF m 8 #[.val (.ref a), .val (.ref b), .unset] [(.int (0 : Int32))])
      refine Go.by (fun _ gk => XS.istoreN X0.here hx rfl (hb hby d19_8) rfl (l' := #[.val (.ref a), .val (.ref b), .val (.int (0 : Int32))]) rfl gk) ?_
      show Go _ _ _ _ s₁ (mkF m 9 #[.val (.ref a), .val (.ref b), .val (.int (0 : Int32))] [])
      refine Go.by (fun _ gk => XS.iloadN X0.here hx rfl (hb hby d19_9) rfl gk) ?_
      show Go _ _ _ _ s₁ (mkF m 10 #[.val (.ref a), .val (.ref b), .val (.int (0 : Int32))] [(.int (0 : Int32))])
      refine Go.by (fun _ gk => XS.aloadN X0.here hx rfl (hb hby d19_10) rfl rfl gk) ?_
      show Go _ _ _ _ s₁ (mkF m 11 #[.val (.ref a), .val (.ref b), .val (.int (0 : Int32))] [(.ref a), (.int (0 : Int32))])
      obtain ⟨cl43, Ar43, -, S43, M43, -, -⟩ := id Vl39
      refine Go.by (fun _ gk => X0.arraylength hx (by rw [e0]; exact Ar43.1) (State.isArrayOf_alike hZ.alike Ar43.2.1) (g := (mkF m 11 #[.val (.ref a), .val (.ref b), .val (.int (0 : Int32))] [(.ref a), (.int (0 : Int32))])) rfl rfl (hb hby d19_11) _ gk) ?_
      rw [len_of S43 M43]
      show Go _ _ _ _ s₁ (mkF m 12 #[.val (.ref a), .val (.ref b), .val (.int (0 : Int32))] [(.int (2 : Int32)), (.int (0 : Int32))])
      refine Go.by (fun _ gk => XS.icmpNo X0.here hx rfl (hb hby d19_12) rfl (XT.ii_ge_f (by decide)) gk) ?_
      show Go _ _ _ _ s₁ (mkF m 15 #[.val (.ref a), .val (.ref b), .val (.int (0 : Int32))] [])
      refine Go.by (fun _ gk => XS.aloadN X0.here hx rfl (hb hby d19_15) rfl rfl gk) ?_
      show Go _ _ _ _ s₁ (mkF m 16 #[.val (.ref a), .val (.ref b), .val (.int (0 : Int32))] [(.ref a)])
      refine Go.by (fun _ gk => XS.iloadN X0.here hx rfl (hb hby d19_16) rfl gk) ?_
      show Go _ _ _ _ s₁ (mkF m 17 #[.val (.ref a), .val (.ref b), .val (.int (0 : Int32))] [(.int (0 : Int32)), (.ref a)])
      obtain ⟨cl44, Ar44, -, S44, M44, H44, -⟩ := id Vl39
      have hin44 : ¬ ((0 : Int32) < 0 ∨ cl44.slots.size ≤ (0 : Int32).toNatClampNeg) := inb_of S44 ⟨by decide, by decide⟩
      refine Go.by (fun _ gk => X0.baloadBytes hx (j := (0 : Int32)) (v := (.int (own_b xa))) (by rw [e0]; exact Ar44.1) (State.isArrayOf_alike hZ.alike Ar44.2.1) Ar44.2.2 hin44 (Has.at H44 hin44 rfl) (g := (mkF m 17 #[.val (.ref a), .val (.ref b), .val (.int (0 : Int32))] [(.int (0 : Int32)), (.ref a)])) rfl rfl (hb hby d19_17) _ gk) ?_
      show Go _ _ _ _ s₁ (mkF m 18 #[.val (.ref a), .val (.ref b), .val (.int (0 : Int32))] [(.int (own_b xa))])
      refine Go.by (fun _ gk => XS.aloadN X0.here hx rfl (hb hby d19_18) rfl rfl gk) ?_
      show Go _ _ _ _ s₁ (mkF m 19 #[.val (.ref a), .val (.ref b), .val (.int (0 : Int32))] [(.ref b), (.int (own_b xa))])
      refine Go.by (fun _ gk => XS.iloadN X0.here hx rfl (hb hby d19_19) rfl gk) ?_
      show Go _ _ _ _ s₁ (mkF m 20 #[.val (.ref a), .val (.ref b), .val (.int (0 : Int32))] [(.int (0 : Int32)), (.ref b), (.int (own_b xa))])
      obtain ⟨cl45, Ar45, -, S45, M45, H45, -⟩ := id Vl40
      have hin45 : ¬ ((0 : Int32) < 0 ∨ cl45.slots.size ≤ (0 : Int32).toNatClampNeg) := inb_of S45 ⟨by decide, by decide⟩
      refine Go.by (fun _ gk => X0.baloadBytes hx (j := (0 : Int32)) (v := (.int (own_b ya))) (by rw [e0]; exact Ar45.1) (State.isArrayOf_alike hZ.alike Ar45.2.1) Ar45.2.2 hin45 (Has.at H45 hin45 rfl) (g := (mkF m 20 #[.val (.ref a), .val (.ref b), .val (.int (0 : Int32))] [(.int (0 : Int32)), (.ref b), (.int (own_b xa))])) rfl rfl (hb hby d19_20) _ gk) ?_
      show Go _ _ _ _ s₁ (mkF m 21 #[.val (.ref a), .val (.ref b), .val (.int (0 : Int32))] [(.int (own_b ya)), (.int (own_b xa))])
      by_cases hb46 : (own_b xa) = (own_b ya)
      · refine Go.by (fun _ gk => XS.icmpYes X0.here hx rfl (pc0 := 21) (pc' := 26) rfl (hb hby d19_21) rfl (XT.ii_eq_t hb46) (by decide) (by decide) gk) ?_
        show Go _ _ _ _ s₁ (mkF m 26 #[.val (.ref a), .val (.ref b), .val (.int (0 : Int32))] [])
        refine Go.by (fun _ gk => XT.iincV X0.here hx rfl (1 : Int32) (hb hby d19_26) (by decide) rfl (l' := #[.val (.ref a), .val (.ref b), .val (.int (1 : Int32))]) rfl gk) ?_
        show Go _ _ _ _ s₁ (mkF m 29 #[.val (.ref a), .val (.ref b), .val (.int (1 : Int32))] [])
        refine Go.by (fun _ gk => XS.goto X0.here hx rfl (pc0 := 29) (pc' := 9) rfl (hb hby d19_29) (by decide) (by decide) gk) ?_
        show Go _ _ _ _ s₁ (mkF m 9 #[.val (.ref a), .val (.ref b), .val (.int (1 : Int32))] [])
        refine Go.by (fun _ gk => XS.iloadN X0.here hx rfl (hb hby d19_9) rfl gk) ?_
        show Go _ _ _ _ s₁ (mkF m 10 #[.val (.ref a), .val (.ref b), .val (.int (1 : Int32))] [(.int (1 : Int32))])
        refine Go.by (fun _ gk => XS.aloadN X0.here hx rfl (hb hby d19_10) rfl rfl gk) ?_
        show Go _ _ _ _ s₁ (mkF m 11 #[.val (.ref a), .val (.ref b), .val (.int (1 : Int32))] [(.ref a), (.int (1 : Int32))])
        obtain ⟨cl47, Ar47, -, S47, M47, -, -⟩ := id Vl39
        refine Go.by (fun _ gk => X0.arraylength hx (by rw [e0]; exact Ar47.1) (State.isArrayOf_alike hZ.alike Ar47.2.1) (g := (mkF m 11 #[.val (.ref a), .val (.ref b), .val (.int (1 : Int32))] [(.ref a), (.int (1 : Int32))])) rfl rfl (hb hby d19_11) _ gk) ?_
        rw [len_of S47 M47]
        show Go _ _ _ _ s₁ (mkF m 12 #[.val (.ref a), .val (.ref b), .val (.int (1 : Int32))] [(.int (2 : Int32)), (.int (1 : Int32))])
        refine Go.by (fun _ gk => XS.icmpNo X0.here hx rfl (hb hby d19_12) rfl (XT.ii_ge_f (by decide)) gk) ?_
        show Go _ _ _ _ s₁ (mkF m 15 #[.val (.ref a), .val (.ref b), .val (.int (1 : Int32))] [])
        refine Go.by (fun _ gk => XS.aloadN X0.here hx rfl (hb hby d19_15) rfl rfl gk) ?_
        show Go _ _ _ _ s₁ (mkF m 16 #[.val (.ref a), .val (.ref b), .val (.int (1 : Int32))] [(.ref a)])
        refine Go.by (fun _ gk => XS.iloadN X0.here hx rfl (hb hby d19_16) rfl gk) ?_
        show Go _ _ _ _ s₁ (mkF m 17 #[.val (.ref a), .val (.ref b), .val (.int (1 : Int32))] [(.int (1 : Int32)), (.ref a)])
        obtain ⟨cl48, Ar48, -, S48, M48, H48, -⟩ := id Vl39
        have hin48 : ¬ ((1 : Int32) < 0 ∨ cl48.slots.size ≤ (1 : Int32).toNatClampNeg) := inb_of S48 ⟨by decide, by decide⟩
        refine Go.by (fun _ gk => X0.baloadBytes hx (j := (1 : Int32)) (v := (.int (own_b xb))) (by rw [e0]; exact Ar48.1) (State.isArrayOf_alike hZ.alike Ar48.2.1) Ar48.2.2 hin48 (Has.at H48 hin48 rfl) (g := (mkF m 17 #[.val (.ref a), .val (.ref b), .val (.int (1 : Int32))] [(.int (1 : Int32)), (.ref a)])) rfl rfl (hb hby d19_17) _ gk) ?_
        show Go _ _ _ _ s₁ (mkF m 18 #[.val (.ref a), .val (.ref b), .val (.int (1 : Int32))] [(.int (own_b xb))])
        refine Go.by (fun _ gk => XS.aloadN X0.here hx rfl (hb hby d19_18) rfl rfl gk) ?_
        show Go _ _ _ _ s₁ (mkF m 19 #[.val (.ref a), .val (.ref b), .val (.int (1 : Int32))] [(.ref b), (.int (own_b xb))])
        refine Go.by (fun _ gk => XS.iloadN X0.here hx rfl (hb hby d19_19) rfl gk) ?_
        show Go _ _ _ _ s₁ (mkF m 20 #[.val (.ref a), .val (.ref b), .val (.int (1 : Int32))] [(.int (1 : Int32)), (.ref b), (.int (own_b xb))])
        obtain ⟨cl49, Ar49, -, S49, M49, H49, -⟩ := id Vl40
        have hin49 : ¬ ((1 : Int32) < 0 ∨ cl49.slots.size ≤ (1 : Int32).toNatClampNeg) := inb_of S49 ⟨by decide, by decide⟩
        refine Go.by (fun _ gk => X0.baloadBytes hx (j := (1 : Int32)) (v := (.int (own_b yb))) (by rw [e0]; exact Ar49.1) (State.isArrayOf_alike hZ.alike Ar49.2.1) Ar49.2.2 hin49 (Has.at H49 hin49 rfl) (g := (mkF m 20 #[.val (.ref a), .val (.ref b), .val (.int (1 : Int32))] [(.int (1 : Int32)), (.ref b), (.int (own_b xb))])) rfl rfl (hb hby d19_20) _ gk) ?_
        show Go _ _ _ _ s₁ (mkF m 21 #[.val (.ref a), .val (.ref b), .val (.int (1 : Int32))] [(.int (own_b yb)), (.int (own_b xb))])
        by_cases hb50 : (own_b xb) = (own_b yb)
        · refine Go.by (fun _ gk => XS.icmpYes X0.here hx rfl (pc0 := 21) (pc' := 26) rfl (hb hby d19_21) rfl (XT.ii_eq_t hb50) (by decide) (by decide) gk) ?_
          show Go _ _ _ _ s₁ (mkF m 26 #[.val (.ref a), .val (.ref b), .val (.int (1 : Int32))] [])
          refine Go.by (fun _ gk => XT.iincV X0.here hx rfl (1 : Int32) (hb hby d19_26) (by decide) rfl (l' := #[.val (.ref a), .val (.ref b), .val (.int (2 : Int32))]) rfl gk) ?_
          show Go _ _ _ _ s₁ (mkF m 29 #[.val (.ref a), .val (.ref b), .val (.int (2 : Int32))] [])
          refine Go.by (fun _ gk => XS.goto X0.here hx rfl (pc0 := 29) (pc' := 9) rfl (hb hby d19_29) (by decide) (by decide) gk) ?_
          show Go _ _ _ _ s₁ (mkF m 9 #[.val (.ref a), .val (.ref b), .val (.int (2 : Int32))] [])
          refine Go.by (fun _ gk => XS.iloadN X0.here hx rfl (hb hby d19_9) rfl gk) ?_
          show Go _ _ _ _ s₁ (mkF m 10 #[.val (.ref a), .val (.ref b), .val (.int (2 : Int32))] [(.int (2 : Int32))])
          refine Go.by (fun _ gk => XS.aloadN X0.here hx rfl (hb hby d19_10) rfl rfl gk) ?_
          show Go _ _ _ _ s₁ (mkF m 11 #[.val (.ref a), .val (.ref b), .val (.int (2 : Int32))] [(.ref a), (.int (2 : Int32))])
          obtain ⟨cl51, Ar51, -, S51, M51, -, -⟩ := id Vl39
          refine Go.by (fun _ gk => X0.arraylength hx (by rw [e0]; exact Ar51.1) (State.isArrayOf_alike hZ.alike Ar51.2.1) (g := (mkF m 11 #[.val (.ref a), .val (.ref b), .val (.int (2 : Int32))] [(.ref a), (.int (2 : Int32))])) rfl rfl (hb hby d19_11) _ gk) ?_
          rw [len_of S51 M51]
          show Go _ _ _ _ s₁ (mkF m 12 #[.val (.ref a), .val (.ref b), .val (.int (2 : Int32))] [(.int (2 : Int32)), (.int (2 : Int32))])
          refine Go.by (fun _ gk => XS.icmpYes X0.here hx rfl (pc0 := 12) (pc' := 32) rfl (hb hby d19_12) rfl (XT.ii_ge_t (by decide)) (by decide) (by decide) gk) ?_
          show Go _ _ _ _ s₁ (mkF m 32 #[.val (.ref a), .val (.ref b), .val (.int (2 : Int32))] [])
          refine Go.by (fun _ gk => XT.iconstV X0.here hx rfl (1 : Int32) (hb hby d19_32) (by decide) gk) ?_
          show Go _ _ _ _ s₁ (mkF m 33 #[.val (.ref a), .val (.ref b), .val (.int (2 : Int32))] [(.int (1 : Int32))])
          exact Go.retI X0 hx Bd.notSynchronized Bd.returns rfl (by simp) (hb hby d19_33) (by rw [e0]; exact ⟨(1 : Int32), rfl, N0, rfl, by simp [own_eq, hb46, hb50]⟩) (by decide) (by decide)
        · refine Go.by (fun _ gk => XS.icmpNo X0.here hx rfl (hb hby d19_21) rfl (XT.ii_eq_f hb50) gk) ?_
          show Go _ _ _ _ s₁ (mkF m 24 #[.val (.ref a), .val (.ref b), .val (.int (1 : Int32))] [])
          refine Go.by (fun _ gk => XT.iconstV X0.here hx rfl (0 : Int32) (hb hby d19_24) (by decide) gk) ?_
          show Go _ _ _ _ s₁ (mkF m 25 #[.val (.ref a), .val (.ref b), .val (.int (1 : Int32))] [(.int (0 : Int32))])
          exact Go.retI X0 hx Bd.notSynchronized Bd.returns rfl (by simp) (hb hby d19_25) (by rw [e0]; exact ⟨(0 : Int32), rfl, N0, rfl, by simp [own_eq, hb46, hb50]⟩) (by decide) (by decide)
      · refine Go.by (fun _ gk => XS.icmpNo X0.here hx rfl (hb hby d19_21) rfl (XT.ii_eq_f hb46) gk) ?_
        show Go _ _ _ _ s₁ (mkF m 24 #[.val (.ref a), .val (.ref b), .val (.int (0 : Int32))] [])
        refine Go.by (fun _ gk => XT.iconstV X0.here hx rfl (0 : Int32) (hb hby d19_24) (by decide) gk) ?_
        show Go _ _ _ _ s₁ (mkF m 25 #[.val (.ref a), .val (.ref b), .val (.int (0 : Int32))] [(.int (0 : Int32))])
        exact Go.retI X0 hx Bd.notSynchronized Bd.returns rfl (by simp) (hb hby d19_25) (by rw [e0]; exact ⟨(0 : Int32), rfl, N0, rfl, by simp [own_eq, hb46]⟩) (by decide) (by decide)
theorem d18_0 : decode jdk_42_method_66_code 0 = .ok (.aload_n 0, 1) := by decide +kernel
theorem d18_1 : decode jdk_42_method_66_code 1 = .ok (.aload_n 1, 1) := by decide +kernel
theorem d18_2 : decode jdk_42_method_66_code 2 = .ok (.if_acmp .ne 5, 3) := by decide +kernel
theorem d18_7 : decode jdk_42_method_66_code 7 = .ok (.aload_n 1, 1) := by decide +kernel
theorem d18_8 : decode jdk_42_method_66_code 8 = .ok (.instanceof 10, 3) := by decide +kernel
theorem d18_11 : decode jdk_42_method_66_code 11 = .ok (.ifCond .eq 43, 3) := by decide +kernel
theorem d18_14 : decode jdk_42_method_66_code 14 = .ok (.aload_n 1, 1) := by decide +kernel
theorem d18_15 : decode jdk_42_method_66_code 15 = .ok (.checkcast 10, 3) := by decide +kernel
theorem d18_18 : decode jdk_42_method_66_code 18 = .ok (.astore_n 2, 1) := by decide +kernel
theorem d18_19 : decode jdk_42_method_66_code 19 = .ok (.getstatic 38, 3) := by decide +kernel
theorem d18_22 : decode jdk_42_method_66_code 22 = .ok (.ifCond .eq 14, 3) := by decide +kernel
theorem d18_25 : decode jdk_42_method_66_code 25 = .ok (.aload_n 0, 1) := by decide +kernel
theorem d18_26 : decode jdk_42_method_66_code 26 = .ok (.getfield 15, 3) := by decide +kernel
theorem d18_29 : decode jdk_42_method_66_code 29 = .ok (.aload_n 2, 1) := by decide +kernel
theorem d18_30 : decode jdk_42_method_66_code 30 = .ok (.getfield 15, 3) := by decide +kernel
theorem d18_33 : decode jdk_42_method_66_code 33 = .ok (.if_icmp .ne 21, 3) := by decide +kernel
theorem d18_36 : decode jdk_42_method_66_code 36 = .ok (.aload_n 0, 1) := by decide +kernel
theorem d18_37 : decode jdk_42_method_66_code 37 = .ok (.getfield 9, 3) := by decide +kernel
theorem d18_40 : decode jdk_42_method_66_code 40 = .ok (.aload_n 2, 1) := by decide +kernel
theorem d18_41 : decode jdk_42_method_66_code 41 = .ok (.getfield 9, 3) := by decide +kernel
theorem pd_286 : parseMethodDescriptor "([B[B)Z" = some ⟨[(.array .byte), (.array .byte)], some .boolean⟩ := by decide +kernel
theorem d18_44 : decode jdk_42_method_66_code 44 = .ok (.invokestatic 541, 3) := by decide +kernel
theorem d18_47 : decode jdk_42_method_66_code 47 = .ok (.ifCond .eq 7, 3) := by decide +kernel
theorem d18_50 : decode jdk_42_method_66_code 50 = .ok (.iconst 1, 1) := by decide +kernel
theorem d18_51 : decode jdk_42_method_66_code 51 = .ok (.goto 4, 3) := by decide +kernel
theorem d18_55 : decode jdk_42_method_66_code 55 = .ok (.ireturn, 1) := by decide +kernel
theorem d18_54 : decode jdk_42_method_66_code 54 = .ok (.iconst 0, 1) := by decide +kernel
def Q_rmSeq (Z : State) (a : Addr) (b : Addr) (av : Addr) (bv : Addr) (ka : ClassId) (kb : ClassId) (n : Int32) (xa : Int32) (xb : Int32) (n2 : Int32) (ya : Int32) (yb : Int32) (cs : Int32) (h0 : Heap) (n0 : Nat) (v : Option Value) (h : Heap) (L : List Loc) : Prop := ∃ r : Int32, v = some (.int r) ∧ Fr n0 L ∧ h = h0 ∧ ((r = 1 ∧ own_eq n xa xb n2 ya yb) ∨ (r = 0 ∧ ¬ own_eq n xa xb n2 ya yb))
set_option maxRecDepth 65536 in
set_option maxHeartbeats 40000000 in
theorem rmSeq (l : Launch) (Z : State) (a0 : Array Value) (hw : ∀ d ∈ tables_1, d.before a0 Z = true) (ws : List Jvm.Cond) (a : Addr) (b : Addr) (av : Addr) (bv : Addr) (ka : ClassId) (kb : ClassId) (n : Int32) (xa : Int32) (xb : Int32) (n2 : Int32) (ya : Int32) (yb : Int32) (cs : Int32) (h0 : Heap) (n0 : Nat) (Z0 : n0 ≤ h0.size) (O0 : Old Z n0 h0) (E_a : Exa Z h0 a "java/lang/String") (F_a_coder : Fld Z h0 a "java/lang/String" "coder" "B" (.int (0 : Int32))) (F_a_value : Fld Z h0 a "java/lang/String" "value" "[B" (.ref av)) (V_av : Arv Z h0 av ka .byte n (own_str n xa xb) (.int (0 : Int32))) (E_b : Exa Z h0 b "java/lang/String") (F_b_coder : Fld Z h0 b "java/lang/String" "coder" "B" (.int (0 : Int32))) (F_b_value : Fld Z h0 b "java/lang/String" "value" "[B" (.ref bv)) (V_bv : Arv Z h0 bv kb .byte n2 (own_str n2 ya yb) (.int (0 : Int32))) (hn1 : (n = 0 ∨ n = 1 ∨ n = 2)) (hn2 : (n2 = 0 ∨ n2 = 1 ∨ n2 = 2)) (ne_a_b : a ≠ b) (S_cs : Sta Z Z.heap "java/lang/String" "COMPACT_STRINGS" "Z" (.int cs)) (n_cs : ¬ cs = 0) :
    MetFree l (⟨"java/lang/String", "equals", "(Ljava/lang/Object;)Z"⟩ : MethodName) (head1 (Jvm.Cond.code (⟨"java/lang/String", "equals", "(Ljava/lang/Object;)Z"⟩ : MethodName) jdk_42_method_66_code 3 (some .boolean) :: ws) ({ frames := 1, cells := 0, slots := 0, locals := 14 } : Room)) (fun as' U => as' = #[(.ref a), (.ref b)] ∧ Z.Warmed39 U.vm ∧ U.heap = h0) (fun _ _ _ _ _ => True) (fun _ U o U' => ∃ v L, o = .returned v ∧ Q_rmSeq Z a b av bv ka kb n xa xb n2 ya yb cs h0 n0 v U'.heap L ∧ FrameEnd U o U' L ({ frames := 1, cells := 0, slots := 0, locals := 14 } : Room).cells ({ frames := 1, cells := 0, slots := 0, locals := 14 } : Room).slots) := by
  refine MetFree.of_bodySF (plainFor_of_name pn_38) hisR ?_
  intro p e s m args below meth c s₁ Bd hml0 hP hK
  obtain ⟨rfl, hZ, hh⟩ := hP
  have hx := Bd.exec
  have hby := Bd.bytes
  have hml : c.maxLocals = 3 := hml0
  have hown : s.vm.findClass "java/lang/String" = some m.cls := findClass_of_methodNamed Bd.named
  have hnm := (name_of_methodNamed Bd.named Bd.method).1
  have X0 : Stand p l e ({ frames := 1, cells := 0, slots := 0, locals := 14 } : Room) s m #[(.ref a), (.ref b)] below meth c s₁ [] 0 0 := Stand.of_body Bd
  have e0 : s₁.heap = h0 := by rw [← hh, Bd.state]; rfl
  have N0 := Fr.nil n0
  refine Go.enter (F := EndN s (Q_rmSeq Z a b av bv ka kb n xa xb n2 ya yb cs h0 n0) ({ frames := 1, cells := 0, slots := 0, locals := 14 } : Room).cells ({ frames := 1, cells := 0, slots := 0, locals := 14 } : Room).slots) (ef_239 m a b) ?_
  show Go _ _ _ _ s₁ (mkF m 0 #[.val (.ref a), .val (.ref b), .unset] [])
  refine Go.by (fun _ gk => XS.aloadN X0.here hx rfl (hb hby d18_0) rfl rfl gk) ?_
  show Go _ _ _ _ s₁ (mkF m 1 #[.val (.ref a), .val (.ref b), .unset] [(.ref a)])
  refine Go.by (fun _ gk => XS.aloadN X0.here hx rfl (hb hby d18_1) rfl rfl gk) ?_
  show Go _ _ _ _ s₁ (mkF m 2 #[.val (.ref a), .val (.ref b), .unset] [(.ref b), (.ref a)])
  refine Go.by (fun _ gk => XT.acmpYes X0.here hx rfl (pc0 := 2) (pc' := 7) rfl (hb hby d18_2) rfl rfl rfl (XT.aa_ne_t (fun q => ne_a_b (Value.ref.inj q))) (by decide) (by decide) gk) ?_
  show Go _ _ _ _ s₁ (mkF m 7 #[.val (.ref a), .val (.ref b), .unset] [])
  refine Go.by (fun _ gk => XS.aloadN X0.here hx rfl (hb hby d18_7) rfl rfl gk) ?_
  show Go _ _ _ _ s₁ (mkF m 8 #[.val (.ref a), .val (.ref b), .unset] [(.ref b)])
  obtain ⟨T1, X1, e1, st1⟩ := instY X0 hx hZ hown (hw _ (List.mem_of_getElem? (i := 64) rfl)) e0 (Ins.self E_b) (g := (mkF m 8 #[.val (.ref a), .val (.ref b), .unset] [(.ref b)])) rfl rfl (hb hby d18_8)
  refine Go.by st1 ?_
  show Go _ _ _ _ T1 (mkF m 11 #[.val (.ref a), .val (.ref b), .unset] [(.int (1 : Int32))])
  refine Go.by (fun _ gk => XS.ifNo X1.here hx rfl (hb hby d18_11) rfl (XT.i0_eq_f (by decide)) gk) ?_
  show Go _ _ _ _ T1 (mkF m 14 #[.val (.ref a), .val (.ref b), .unset] [])
  refine Go.by (fun _ gk => XS.aloadN X1.here hx rfl (hb hby d18_14) rfl rfl gk) ?_
  show Go _ _ _ _ T1 (mkF m 15 #[.val (.ref a), .val (.ref b), .unset] [(.ref b)])
  obtain ⟨T2, X2, e2, st2⟩ := castY X1 hx hZ hown (hw _ (List.mem_of_getElem? (i := 64) rfl)) e1 (Ins.self E_b) (g := (mkF m 15 #[.val (.ref a), .val (.ref b), .unset] [(.ref b)])) rfl rfl (hb hby d18_15)
  refine Go.by st2 ?_
  show Go _ _ _ _ T2 (mkF m 18 #[.val (.ref a), .val (.ref b), .unset] [(.ref b)])
  refine Go.by (fun _ gk => XS.astoreN X2.here hx rfl (hb hby d18_18) rfl rfl (l' := #[.val (.ref a), .val (.ref b), .val (.ref b)]) rfl gk) ?_
  show Go _ _ _ _ T2 (mkF m 19 #[.val (.ref a), .val (.ref b), .val (.ref b)] [])
  have F3 : Sta Z h0 "java/lang/String" "COMPACT_STRINGS" "Z" (.int cs) := S_cs.ext O0.2
  obtain ⟨T4, X4, e4, st4⟩ := getS2 X2 hx hZ hown (host := "") (Or.inl (hw _ (List.mem_of_getElem? (i := 46) rfl))) Via.refl e2 F3 (g := (mkF m 19 #[.val (.ref a), .val (.ref b), .val (.ref b)] [])) rfl (hb hby d18_19)
  refine Go.by st4 ?_
  show Go _ _ _ _ T4 (mkF m 22 #[.val (.ref a), .val (.ref b), .val (.ref b)] [(.int cs)])
  refine Go.by (fun _ gk => XS.ifNo X4.here hx rfl (hb hby d18_22) rfl (XT.i0_eq_f n_cs) gk) ?_
  show Go _ _ _ _ T4 (mkF m 25 #[.val (.ref a), .val (.ref b), .val (.ref b)] [])
  refine Go.by (fun _ gk => XS.aloadN X4.here hx rfl (hb hby d18_25) rfl rfl gk) ?_
  show Go _ _ _ _ T4 (mkF m 26 #[.val (.ref a), .val (.ref b), .val (.ref b)] [(.ref a)])
  obtain ⟨T5, X5, e5, st5⟩ := getF X4 hx hZ hown (host := "") (Or.inl (hw _ (List.mem_of_getElem? (i := 31) rfl))) Via.refl e4 F_a_coder (g := (mkF m 26 #[.val (.ref a), .val (.ref b), .val (.ref b)] [(.ref a)])) rfl rfl (hb hby d18_26)
  refine Go.by st5 ?_
  show Go _ _ _ _ T5 (mkF m 29 #[.val (.ref a), .val (.ref b), .val (.ref b)] [(.int (0 : Int32))])
  refine Go.by (fun _ gk => XS.aloadN X5.here hx rfl (hb hby d18_29) rfl rfl gk) ?_
  show Go _ _ _ _ T5 (mkF m 30 #[.val (.ref a), .val (.ref b), .val (.ref b)] [(.ref b), (.int (0 : Int32))])
  obtain ⟨T6, X6, e6, st6⟩ := getF X5 hx hZ hown (host := "") (Or.inl (hw _ (List.mem_of_getElem? (i := 31) rfl))) Via.refl e5 F_b_coder (g := (mkF m 30 #[.val (.ref a), .val (.ref b), .val (.ref b)] [(.ref b), (.int (0 : Int32))])) rfl rfl (hb hby d18_30)
  refine Go.by st6 ?_
  show Go _ _ _ _ T6 (mkF m 33 #[.val (.ref a), .val (.ref b), .val (.ref b)] [(.int (0 : Int32)), (.int (0 : Int32))])
  refine Go.by (fun _ gk => XS.icmpNo X6.here hx rfl (hb hby d18_33) rfl (XT.ii_ne_f rfl) gk) ?_
  show Go _ _ _ _ T6 (mkF m 36 #[.val (.ref a), .val (.ref b), .val (.ref b)] [])
  refine Go.by (fun _ gk => XS.aloadN X6.here hx rfl (hb hby d18_36) rfl rfl gk) ?_
  show Go _ _ _ _ T6 (mkF m 37 #[.val (.ref a), .val (.ref b), .val (.ref b)] [(.ref a)])
  obtain ⟨T7, X7, e7, st7⟩ := getF X6 hx hZ hown (host := "") (Or.inl (hw _ (List.mem_of_getElem? (i := 30) rfl))) Via.refl e6 F_a_value (g := (mkF m 37 #[.val (.ref a), .val (.ref b), .val (.ref b)] [(.ref a)])) rfl rfl (hb hby d18_37)
  refine Go.by st7 ?_
  show Go _ _ _ _ T7 (mkF m 40 #[.val (.ref a), .val (.ref b), .val (.ref b)] [(.ref av)])
  refine Go.by (fun _ gk => XS.aloadN X7.here hx rfl (hb hby d18_40) rfl rfl gk) ?_
  show Go _ _ _ _ T7 (mkF m 41 #[.val (.ref a), .val (.ref b), .val (.ref b)] [(.ref b), (.ref av)])
  obtain ⟨T8, X8, e8, st8⟩ := getF X7 hx hZ hown (host := "") (Or.inl (hw _ (List.mem_of_getElem? (i := 30) rfl))) Via.refl e7 F_b_value (g := (mkF m 41 #[.val (.ref a), .val (.ref b), .val (.ref b)] [(.ref b), (.ref av)])) rfl rfl (hb hby d18_41)
  refine Go.by st8 ?_
  show Go _ _ _ _ T8 (mkF m 44 #[.val (.ref a), .val (.ref b), .val (.ref b)] [(.ref bv), (.ref av)])
  obtain ⟨_, _, ⟨T9, L9, k9, n9⟩, -, X9, ⟨Lc9, hQ9, l9, y9, z9⟩, st9⟩ := Jvm.LawKit.callS X8 hx (y := (⟨"java/lang/StringLatin1", "equals", "([B[B)Z"⟩ : MethodName)) hown (mvT hZ (hw _ (List.mem_of_getElem? (i := 86) rfl))) (mvT hZ (hw _ (List.mem_of_getElem? (i := 87) rfl))) (mvT hZ (hw _ (List.mem_of_getElem? (i := 62) rfl))) (mvT hZ (hw _ (List.mem_of_getElem? (i := 88) rfl))) (by decide) (backOf (W := 0) (rmLeq l Z a0 hw [] av bv ka kb n xa xb n2 ya yb h0 n0 Z0 V_av V_bv hn1 hn2) hZ (hw _ (List.mem_of_getElem? (i := 88) rfl)) (hw _ (List.mem_of_getElem? (i := 62) rfl)) (by decide) (by decide)) (g := (mkF m 44 #[.val (.ref a), .val (.ref b), .val (.ref b)] [(.ref bv), (.ref av)])) rfl (by rw [hml]; rfl) (argsL := [(.ref av), (.ref bv)]) (rest := []) (lenOf pd_286 rfl) rfl (by show 2 * 0 + _ ≤ _; exact Nat.le_of_eq rfl) (hb hby d18_44) (fun _ _ => ⟨rfl, e8, (by decide : 0 + 0 ≤ _), (by decide : 0 + 0 ≤ _)⟩)
  dsimp only [Pt.U, Pt.locs, Pt.cells, Pt.slots] at X9 l9 y9 z9 st9 hQ9
  subst l9 y9 z9
  obtain ⟨r, rfl, N9q, e9, Q9_0⟩ := hQ9
  have N9 := Fr.app N0 N9q
  refine Go.by st9 ?_
  show Go _ _ _ _ T9 (mkF m 47 #[.val (.ref a), .val (.ref b), .val (.ref b)] [(.int r)])
  rcases Q9_0 with ⟨rfl, hE⟩ | ⟨rfl, hE⟩
  · show Go _ _ _ _ T9 (mkF m 47 #[.val (.ref a), .val (.ref b), .val (.ref b)] [(.int (1 : Int32))])
    refine Go.by (fun _ gk => XS.ifNo X9.here hx rfl (hb hby d18_47) rfl (XT.i0_eq_f (by decide)) gk) ?_
    show Go _ _ _ _ T9 (mkF m 50 #[.val (.ref a), .val (.ref b), .val (.ref b)] [])
    refine Go.by (fun _ gk => XT.iconstV X9.here hx rfl (1 : Int32) (hb hby d18_50) (by decide) gk) ?_
    show Go _ _ _ _ T9 (mkF m 51 #[.val (.ref a), .val (.ref b), .val (.ref b)] [(.int (1 : Int32))])
    refine Go.by (fun _ gk => XS.goto X9.here hx rfl (pc0 := 51) (pc' := 55) rfl (hb hby d18_51) (by decide) (by decide) gk) ?_
    show Go _ _ _ _ T9 (mkF m 55 #[.val (.ref a), .val (.ref b), .val (.ref b)] [(.int (1 : Int32))])
    exact Go.retI X9 hx Bd.notSynchronized Bd.returns rfl (by simp) (hb hby d18_55) (by rw [e9]; exact ⟨(1 : Int32), rfl, N9, rfl, Or.inl ⟨rfl, hE⟩⟩) (by decide) (by decide)
  · show Go _ _ _ _ T9 (mkF m 47 #[.val (.ref a), .val (.ref b), .val (.ref b)] [(.int (0 : Int32))])
    refine Go.by (fun _ gk => XS.ifYes X9.here hx rfl (pc0 := 47) (pc' := 54) rfl (hb hby d18_47) rfl (XT.i0_eq_t rfl) (by decide) (by decide) gk) ?_
    show Go _ _ _ _ T9 (mkF m 54 #[.val (.ref a), .val (.ref b), .val (.ref b)] [])
    refine Go.by (fun _ gk => XT.iconstV X9.here hx rfl (0 : Int32) (hb hby d18_54) (by decide) gk) ?_
    show Go _ _ _ _ T9 (mkF m 55 #[.val (.ref a), .val (.ref b), .val (.ref b)] [(.int (0 : Int32))])
    exact Go.retI X9 hx Bd.notSynchronized Bd.returns rfl (by simp) (hb hby d18_55) (by rw [e9]; exact ⟨(0 : Int32), rfl, N9, rfl, Or.inr ⟨rfl, hE⟩⟩) (by decide) (by decide)
theorem d18_5 : decode jdk_42_method_66_code 5 = .ok (.iconst 1, 1) := by decide +kernel
theorem d18_6 : decode jdk_42_method_66_code 6 = .ok (.ireturn, 1) := by decide +kernel
def Q_rmSeqS (Z : State) (a : Addr) (h0 : Heap) (n0 : Nat) (v : Option Value) (h : Heap) (L : List Loc) : Prop := v = some (.int (1 : Int32)) ∧ Fr n0 L ∧ h = h0
set_option maxRecDepth 65536 in
set_option maxHeartbeats 40000000 in
theorem rmSeqS (l : Launch) (Z : State) (a0 : Array Value) (hw : ∀ d ∈ tables_1, d.before a0 Z = true) (ws : List Jvm.Cond) (a : Addr) (h0 : Heap) (n0 : Nat) (Z0 : n0 ≤ h0.size)  :
    MetFree l (⟨"java/lang/String", "equals", "(Ljava/lang/Object;)Z"⟩ : MethodName) (head1 (Jvm.Cond.code (⟨"java/lang/String", "equals", "(Ljava/lang/Object;)Z"⟩ : MethodName) jdk_42_method_66_code 3 (some .boolean) :: ws) ({ frames := 0, cells := 0, slots := 0, locals := 0 } : Room)) (fun as' U => as' = #[(.ref a), (.ref a)] ∧ Z.Warmed39 U.vm ∧ U.heap = h0) (fun _ _ _ _ _ => True) (fun _ U o U' => ∃ v L, o = .returned v ∧ Q_rmSeqS Z a h0 n0 v U'.heap L ∧ FrameEnd U o U' L ({ frames := 0, cells := 0, slots := 0, locals := 0 } : Room).cells ({ frames := 0, cells := 0, slots := 0, locals := 0 } : Room).slots) := by
  refine MetFree.of_bodySF (plainFor_of_name pn_38) hisR ?_
  intro p e s m args below meth c s₁ Bd hml0 hP hK
  obtain ⟨rfl, hZ, hh⟩ := hP
  have hx := Bd.exec
  have hby := Bd.bytes
  have hml : c.maxLocals = 3 := hml0
  have hown : s.vm.findClass "java/lang/String" = some m.cls := findClass_of_methodNamed Bd.named
  have hnm := (name_of_methodNamed Bd.named Bd.method).1
  have X0 : Stand p l e ({ frames := 0, cells := 0, slots := 0, locals := 0 } : Room) s m #[(.ref a), (.ref a)] below meth c s₁ [] 0 0 := Stand.of_body Bd
  have e0 : s₁.heap = h0 := by rw [← hh, Bd.state]; rfl
  have N0 := Fr.nil n0
  refine Go.enter (F := EndN s (Q_rmSeqS Z a h0 n0) ({ frames := 0, cells := 0, slots := 0, locals := 0 } : Room).cells ({ frames := 0, cells := 0, slots := 0, locals := 0 } : Room).slots) (ef_239 m a a) ?_
  show Go _ _ _ _ s₁ (mkF m 0 #[.val (.ref a), .val (.ref a), .unset] [])
  refine Go.by (fun _ gk => XS.aloadN X0.here hx rfl (hb hby d18_0) rfl rfl gk) ?_
  show Go _ _ _ _ s₁ (mkF m 1 #[.val (.ref a), .val (.ref a), .unset] [(.ref a)])
  refine Go.by (fun _ gk => XS.aloadN X0.here hx rfl (hb hby d18_1) rfl rfl gk) ?_
  show Go _ _ _ _ s₁ (mkF m 2 #[.val (.ref a), .val (.ref a), .unset] [(.ref a), (.ref a)])
  refine Go.by (fun _ gk => XT.acmpNo X0.here hx rfl (hb hby d18_2) rfl rfl rfl (XT.aa_ne_f rfl) gk) ?_
  show Go _ _ _ _ s₁ (mkF m 5 #[.val (.ref a), .val (.ref a), .unset] [])
  refine Go.by (fun _ gk => XT.iconstV X0.here hx rfl (1 : Int32) (hb hby d18_5) (by decide) gk) ?_
  show Go _ _ _ _ s₁ (mkF m 6 #[.val (.ref a), .val (.ref a), .unset] [(.int (1 : Int32))])
  exact Go.retI X0 hx Bd.notSynchronized Bd.returns rfl (by simp) (hb hby d18_6) (by rw [e0]; exact ⟨rfl, N0, rfl⟩) (by decide) (by decide)
theorem ef_295 (m : MethodId) (x0 : Addr) : entryFrame m #[(.ref x0), .null] 3 = mkF m 0 #[.val (.ref x0), .val .null, .unset] [] := by (first | (simp [entryFrame, mkF, argsToLocals, Value.category]; done) | rfl)
theorem d17_0 : decode prog_13_method_4_code 0 = .ok (.aload_n 1, 1) := by decide +kernel
theorem d17_1 : decode prog_13_method_4_code 1 = .ok (.instanceof 8, 3) := by decide +kernel
theorem d17_4 : decode prog_13_method_4_code 4 = .ok (.ifCond .ne 5, 3) := by decide +kernel
theorem d17_7 : decode prog_13_method_4_code 7 = .ok (.iconst 0, 1) := by decide +kernel
theorem d17_8 : decode prog_13_method_4_code 8 = .ok (.ireturn, 1) := by decide +kernel
def Q_rmMeN (Z : State) (a : Addr) (h0 : Heap) (n0 : Nat) (v : Option Value) (h : Heap) (L : List Loc) : Prop := v = some (.int (0 : Int32)) ∧ Fr n0 L ∧ h = h0
set_option maxRecDepth 65536 in
set_option maxHeartbeats 40000000 in
theorem rmMeN (l : Launch) (Z : State) (a0 : Array Value) (hw : ∀ d ∈ tables_1, d.before a0 Z = true) (ws : List Jvm.Cond) (a : Addr) (h0 : Heap) (n0 : Nat) (Z0 : n0 ≤ h0.size)  :
    MetFree l (⟨"com/example/muster/muster/model/Member", "equals", "(Ljava/lang/Object;)Z"⟩ : MethodName) (head1 (Jvm.Cond.code (⟨"com/example/muster/muster/model/Member", "equals", "(Ljava/lang/Object;)Z"⟩ : MethodName) prog_13_method_4_code 3 (some .boolean) :: ws) ({ frames := 0, cells := 0, slots := 0, locals := 0 } : Room)) (fun as' U => as' = #[(.ref a), .null] ∧ Z.Warmed39 U.vm ∧ U.heap = h0) (fun _ _ _ _ _ => True) (fun _ U o U' => ∃ v L, o = .returned v ∧ Q_rmMeN Z a h0 n0 v U'.heap L ∧ FrameEnd U o U' L ({ frames := 0, cells := 0, slots := 0, locals := 0 } : Room).cells ({ frames := 0, cells := 0, slots := 0, locals := 0 } : Room).slots) := by
  refine MetFree.of_bodySF (plainFor_of_name pn_228) hisR ?_
  intro p e s m args below meth c s₁ Bd hml0 hP hK
  obtain ⟨rfl, hZ, hh⟩ := hP
  have hx := Bd.exec
  have hby := Bd.bytes
  have hml : c.maxLocals = 3 := hml0
  have hown : s.vm.findClass "com/example/muster/muster/model/Member" = some m.cls := findClass_of_methodNamed Bd.named
  have hnm := (name_of_methodNamed Bd.named Bd.method).1
  have X0 : Stand p l e ({ frames := 0, cells := 0, slots := 0, locals := 0 } : Room) s m #[(.ref a), .null] below meth c s₁ [] 0 0 := Stand.of_body Bd
  have e0 : s₁.heap = h0 := by rw [← hh, Bd.state]; rfl
  have N0 := Fr.nil n0
  refine Go.enter (F := EndN s (Q_rmMeN Z a h0 n0) ({ frames := 0, cells := 0, slots := 0, locals := 0 } : Room).cells ({ frames := 0, cells := 0, slots := 0, locals := 0 } : Room).slots) (ef_295 m a) ?_
  show Go _ _ _ _ s₁ (mkF m 0 #[.val (.ref a), .val .null, .unset] [])
  refine Go.by (fun _ gk => XS.aloadN X0.here hx rfl (hb hby d17_0) rfl rfl gk) ?_
  show Go _ _ _ _ s₁ (mkF m 1 #[.val (.ref a), .val .null, .unset] [.null])
  refine Go.by (fun _ gk => X0.instanceofNull hx (g := (mkF m 1 #[.val (.ref a), .val .null, .unset] [.null])) rfl rfl (hb hby d17_1) _ gk) ?_
  show Go _ _ _ _ s₁ (mkF m 4 #[.val (.ref a), .val .null, .unset] [(.int (0 : Int32))])
  refine Go.by (fun _ gk => XS.ifNo X0.here hx rfl (hb hby d17_4) rfl (XT.i0_ne_f rfl) gk) ?_
  show Go _ _ _ _ s₁ (mkF m 7 #[.val (.ref a), .val .null, .unset] [])
  refine Go.by (fun _ gk => XT.iconstV X0.here hx rfl (0 : Int32) (hb hby d17_7) (by decide) gk) ?_
  show Go _ _ _ _ s₁ (mkF m 8 #[.val (.ref a), .val .null, .unset] [(.int (0 : Int32))])
  exact Go.retI X0 hx Bd.notSynchronized Bd.returns rfl (by simp) (hb hby d17_8) (by rw [e0]; exact ⟨rfl, N0, rfl⟩) (by decide) (by decide)
def Q_rmMeS (Z : State) (a : Addr) (b : Addr) (h0 : Heap) (n0 : Nat) (v : Option Value) (h : Heap) (L : List Loc) : Prop := v = some (.int (0 : Int32)) ∧ Fr n0 L ∧ h = h0
set_option maxRecDepth 65536 in
set_option maxHeartbeats 40000000 in
theorem rmMeS (l : Launch) (Z : State) (a0 : Array Value) (hw : ∀ d ∈ tables_1, d.before a0 Z = true) (ws : List Jvm.Cond) (a : Addr) (b : Addr) (h0 : Heap) (n0 : Nat) (Z0 : n0 ≤ h0.size) (E_b : Exa Z h0 b "java/lang/String") :
    MetFree l (⟨"com/example/muster/muster/model/Member", "equals", "(Ljava/lang/Object;)Z"⟩ : MethodName) (head1 (Jvm.Cond.code (⟨"com/example/muster/muster/model/Member", "equals", "(Ljava/lang/Object;)Z"⟩ : MethodName) prog_13_method_4_code 3 (some .boolean) :: ws) ({ frames := 0, cells := 0, slots := 0, locals := 0 } : Room)) (fun as' U => as' = #[(.ref a), (.ref b)] ∧ Z.Warmed39 U.vm ∧ U.heap = h0) (fun _ _ _ _ _ => True) (fun _ U o U' => ∃ v L, o = .returned v ∧ Q_rmMeS Z a b h0 n0 v U'.heap L ∧ FrameEnd U o U' L ({ frames := 0, cells := 0, slots := 0, locals := 0 } : Room).cells ({ frames := 0, cells := 0, slots := 0, locals := 0 } : Room).slots) := by
  refine MetFree.of_bodySF (plainFor_of_name pn_228) hisR ?_
  intro p e s m args below meth c s₁ Bd hml0 hP hK
  obtain ⟨rfl, hZ, hh⟩ := hP
  have hx := Bd.exec
  have hby := Bd.bytes
  have hml : c.maxLocals = 3 := hml0
  have hown : s.vm.findClass "com/example/muster/muster/model/Member" = some m.cls := findClass_of_methodNamed Bd.named
  have hnm := (name_of_methodNamed Bd.named Bd.method).1
  have X0 : Stand p l e ({ frames := 0, cells := 0, slots := 0, locals := 0 } : Room) s m #[(.ref a), (.ref b)] below meth c s₁ [] 0 0 := Stand.of_body Bd
  have e0 : s₁.heap = h0 := by rw [← hh, Bd.state]; rfl
  have N0 := Fr.nil n0
  refine Go.enter (F := EndN s (Q_rmMeS Z a b h0 n0) ({ frames := 0, cells := 0, slots := 0, locals := 0 } : Room).cells ({ frames := 0, cells := 0, slots := 0, locals := 0 } : Room).slots) (ef_239 m a b) ?_
  show Go _ _ _ _ s₁ (mkF m 0 #[.val (.ref a), .val (.ref b), .unset] [])
  refine Go.by (fun _ gk => XS.aloadN X0.here hx rfl (hb hby d17_0) rfl rfl gk) ?_
  show Go _ _ _ _ s₁ (mkF m 1 #[.val (.ref a), .val (.ref b), .unset] [(.ref b)])
  obtain ⟨T1, X1, e1, st1⟩ := instNo X0 hx hZ hown (hw _ (List.mem_of_getElem? (i := 79) rfl)) e0 E_b (own_ns_no (hw _ (List.mem_of_getElem? (i := 89) rfl)) (hw _ (List.mem_of_getElem? (i := 1) rfl)) (NS.step (hw _ (List.mem_of_getElem? (i := 89) rfl)) (own_ns_root (hw _ (List.mem_of_getElem? (i := 90) rfl)) (hw _ (List.mem_of_getElem? (i := 1) rfl)) (by decide)) (by decide)) (by decide)) (g := (mkF m 1 #[.val (.ref a), .val (.ref b), .unset] [(.ref b)])) rfl rfl (hb hby d17_1)
  refine Go.by st1 ?_
  show Go _ _ _ _ T1 (mkF m 4 #[.val (.ref a), .val (.ref b), .unset] [(.int (0 : Int32))])
  refine Go.by (fun _ gk => XS.ifNo X1.here hx rfl (hb hby d17_4) rfl (XT.i0_ne_f rfl) gk) ?_
  show Go _ _ _ _ T1 (mkF m 7 #[.val (.ref a), .val (.ref b), .unset] [])
  refine Go.by (fun _ gk => XT.iconstV X1.here hx rfl (0 : Int32) (hb hby d17_7) (by decide) gk) ?_
  show Go _ _ _ _ T1 (mkF m 8 #[.val (.ref a), .val (.ref b), .unset] [(.int (0 : Int32))])
  exact Go.retI X1 hx Bd.notSynchronized Bd.returns rfl (by simp) (hb hby d17_8) (by rw [e1]; exact ⟨rfl, N0, rfl⟩) (by decide) (by decide)
theorem d17_9 : decode prog_13_method_4_code 9 = .ok (.aload_n 1, 1) := by decide +kernel
theorem d17_10 : decode prog_13_method_4_code 10 = .ok (.checkcast 8, 3) := by decide +kernel
theorem d17_13 : decode prog_13_method_4_code 13 = .ok (.astore_n 2, 1) := by decide +kernel
theorem d17_14 : decode prog_13_method_4_code 14 = .ok (.aload_n 0, 1) := by decide +kernel
theorem d17_15 : decode prog_13_method_4_code 15 = .ok (.getfield 7, 3) := by decide +kernel
theorem d17_18 : decode prog_13_method_4_code 18 = .ok (.aload_n 2, 1) := by decide +kernel
theorem d17_19 : decode prog_13_method_4_code 19 = .ok (.getfield 7, 3) := by decide +kernel
theorem pd_308 : parseMethodDescriptor "(Ljava/lang/Object;)Z" = some ⟨[(.object "java/lang/Object")], some .boolean⟩ := by decide +kernel
theorem d17_22 : decode prog_13_method_4_code 22 = .ok (.invokevirtual 16, 3) := by decide +kernel
theorem d17_25 : decode prog_13_method_4_code 25 = .ok (.ifCond .eq 21, 3) := by decide +kernel
theorem d17_28 : decode prog_13_method_4_code 28 = .ok (.aload_n 0, 1) := by decide +kernel
theorem d17_29 : decode prog_13_method_4_code 29 = .ok (.getfield 13, 3) := by decide +kernel
theorem d17_32 : decode prog_13_method_4_code 32 = .ok (.aload_n 2, 1) := by decide +kernel
theorem d17_33 : decode prog_13_method_4_code 33 = .ok (.getfield 13, 3) := by decide +kernel
theorem d17_36 : decode prog_13_method_4_code 36 = .ok (.invokevirtual 16, 3) := by decide +kernel
theorem d17_39 : decode prog_13_method_4_code 39 = .ok (.ifCond .eq 7, 3) := by decide +kernel
theorem d17_42 : decode prog_13_method_4_code 42 = .ok (.iconst 1, 1) := by decide +kernel
theorem d17_43 : decode prog_13_method_4_code 43 = .ok (.goto 4, 3) := by decide +kernel
theorem d17_47 : decode prog_13_method_4_code 47 = .ok (.ireturn, 1) := by decide +kernel
def Q_rmMeI (Z : State) (a : Addr) (b : Addr) (d : Addr) (h0 : Heap) (n0 : Nat) (v : Option Value) (h : Heap) (L : List Loc) : Prop := v = some (.int (1 : Int32)) ∧ Fr n0 L ∧ h = h0
set_option maxRecDepth 65536 in
set_option maxHeartbeats 40000000 in
theorem rmMeI (l : Launch) (Z : State) (a0 : Array Value) (hw : ∀ d ∈ tables_1, d.before a0 Z = true) (ws : List Jvm.Cond) (a : Addr) (b : Addr) (d : Addr) (h0 : Heap) (n0 : Nat) (Z0 : n0 ≤ h0.size) (E_a : Exa Z h0 a "com/example/muster/muster/model/Member") (F_a_conversation : Fld Z h0 a "com/example/muster/muster/model/Member" "conversation" "Ljava/lang/String;" (.ref b)) (F_a_user : Fld Z h0 a "com/example/muster/muster/model/Member" "user" "Ljava/lang/String;" (.ref d)) (E_b : Exa Z h0 b "java/lang/String") (E_d : Exa Z h0 d "java/lang/String") :
    MetFree l (⟨"com/example/muster/muster/model/Member", "equals", "(Ljava/lang/Object;)Z"⟩ : MethodName) (head1 (Jvm.Cond.code (⟨"com/example/muster/muster/model/Member", "equals", "(Ljava/lang/Object;)Z"⟩ : MethodName) prog_13_method_4_code 3 (some .boolean) :: ws) ({ frames := 1, cells := 0, slots := 0, locals := 14 } : Room)) (fun as' U => as' = #[(.ref a), (.ref a)] ∧ Z.Warmed39 U.vm ∧ U.heap = h0) (fun _ _ _ _ _ => True) (fun _ U o U' => ∃ v L, o = .returned v ∧ Q_rmMeI Z a b d h0 n0 v U'.heap L ∧ FrameEnd U o U' L ({ frames := 1, cells := 0, slots := 0, locals := 14 } : Room).cells ({ frames := 1, cells := 0, slots := 0, locals := 14 } : Room).slots) := by
  refine MetFree.of_bodySF (plainFor_of_name pn_228) hisR ?_
  intro p e s m args below meth c s₁ Bd hml0 hP hK
  obtain ⟨rfl, hZ, hh⟩ := hP
  have hx := Bd.exec
  have hby := Bd.bytes
  have hml : c.maxLocals = 3 := hml0
  have hown : s.vm.findClass "com/example/muster/muster/model/Member" = some m.cls := findClass_of_methodNamed Bd.named
  have hnm := (name_of_methodNamed Bd.named Bd.method).1
  have X0 : Stand p l e ({ frames := 1, cells := 0, slots := 0, locals := 14 } : Room) s m #[(.ref a), (.ref a)] below meth c s₁ [] 0 0 := Stand.of_body Bd
  have e0 : s₁.heap = h0 := by rw [← hh, Bd.state]; rfl
  have N0 := Fr.nil n0
  refine Go.enter (F := EndN s (Q_rmMeI Z a b d h0 n0) ({ frames := 1, cells := 0, slots := 0, locals := 14 } : Room).cells ({ frames := 1, cells := 0, slots := 0, locals := 14 } : Room).slots) (ef_239 m a a) ?_
  show Go _ _ _ _ s₁ (mkF m 0 #[.val (.ref a), .val (.ref a), .unset] [])
  refine Go.by (fun _ gk => XS.aloadN X0.here hx rfl (hb hby d17_0) rfl rfl gk) ?_
  show Go _ _ _ _ s₁ (mkF m 1 #[.val (.ref a), .val (.ref a), .unset] [(.ref a)])
  obtain ⟨T1, X1, e1, st1⟩ := instY X0 hx hZ hown (hw _ (List.mem_of_getElem? (i := 79) rfl)) e0 (Ins.self E_a) (g := (mkF m 1 #[.val (.ref a), .val (.ref a), .unset] [(.ref a)])) rfl rfl (hb hby d17_1)
  refine Go.by st1 ?_
  show Go _ _ _ _ T1 (mkF m 4 #[.val (.ref a), .val (.ref a), .unset] [(.int (1 : Int32))])
  refine Go.by (fun _ gk => XS.ifYes X1.here hx rfl (pc0 := 4) (pc' := 9) rfl (hb hby d17_4) rfl (XT.i0_ne_t (by decide)) (by decide) (by decide) gk) ?_
  show Go _ _ _ _ T1 (mkF m 9 #[.val (.ref a), .val (.ref a), .unset] [])
  refine Go.by (fun _ gk => XS.aloadN X1.here hx rfl (hb hby d17_9) rfl rfl gk) ?_
  show Go _ _ _ _ T1 (mkF m 10 #[.val (.ref a), .val (.ref a), .unset] [(.ref a)])
  obtain ⟨T2, X2, e2, st2⟩ := castY X1 hx hZ hown (hw _ (List.mem_of_getElem? (i := 79) rfl)) e1 (Ins.self E_a) (g := (mkF m 10 #[.val (.ref a), .val (.ref a), .unset] [(.ref a)])) rfl rfl (hb hby d17_10)
  refine Go.by st2 ?_
  show Go _ _ _ _ T2 (mkF m 13 #[.val (.ref a), .val (.ref a), .unset] [(.ref a)])
  refine Go.by (fun _ gk => XS.astoreN X2.here hx rfl (hb hby d17_13) rfl rfl (l' := #[.val (.ref a), .val (.ref a), .val (.ref a)]) rfl gk) ?_
  show Go _ _ _ _ T2 (mkF m 14 #[.val (.ref a), .val (.ref a), .val (.ref a)] [])
  refine Go.by (fun _ gk => XS.aloadN X2.here hx rfl (hb hby d17_14) rfl rfl gk) ?_
  show Go _ _ _ _ T2 (mkF m 15 #[.val (.ref a), .val (.ref a), .val (.ref a)] [(.ref a)])
  obtain ⟨T3, X3, e3, st3⟩ := getF X2 hx hZ hown (host := "") (Or.inl (hw _ (List.mem_of_getElem? (i := 36) rfl))) Via.refl e2 F_a_conversation (g := (mkF m 15 #[.val (.ref a), .val (.ref a), .val (.ref a)] [(.ref a)])) rfl rfl (hb hby d17_15)
  refine Go.by st3 ?_
  show Go _ _ _ _ T3 (mkF m 18 #[.val (.ref a), .val (.ref a), .val (.ref a)] [(.ref b)])
  refine Go.by (fun _ gk => XS.aloadN X3.here hx rfl (hb hby d17_18) rfl rfl gk) ?_
  show Go _ _ _ _ T3 (mkF m 19 #[.val (.ref a), .val (.ref a), .val (.ref a)] [(.ref a), (.ref b)])
  obtain ⟨T4, X4, e4, st4⟩ := getF X3 hx hZ hown (host := "") (Or.inl (hw _ (List.mem_of_getElem? (i := 36) rfl))) Via.refl e3 F_a_conversation (g := (mkF m 19 #[.val (.ref a), .val (.ref a), .val (.ref a)] [(.ref a), (.ref b)])) rfl rfl (hb hby d17_19)
  refine Go.by st4 ?_
  show Go _ _ _ _ T4 (mkF m 22 #[.val (.ref a), .val (.ref a), .val (.ref a)] [(.ref b), (.ref b)])
  obtain ⟨cq5, kq5, q5a, q5b, q5c⟩ := isOf hZ e4 E_b
  obtain ⟨_, _, ⟨T5, L5, k5, n5⟩, -, X5, ⟨Lc5, hQ5, l5, y5, z5⟩, st5⟩ := X4.virtualBack hx (y := (⟨"java/lang/String", "equals", "(Ljava/lang/Object;)Z"⟩ : MethodName)) (z := (⟨"java/lang/String", "equals", "(Ljava/lang/Object;)Z"⟩ : MethodName)) hown (mvT hZ (hw _ (List.mem_of_getElem? (i := 81) rfl))) (mvT hZ (hw _ (List.mem_of_getElem? (i := 82) rfl))) (notFace_of_selects (args := #[]) (mvT hZ (hw _ (List.mem_of_getElem? (i := 84) rfl)))) (mvT hZ (hw _ (List.mem_of_getElem? (i := 84) rfl))) (mvT hZ (hw _ (List.mem_of_getElem? (i := 83) rfl))) (by decide) (backOf (W := 0) (rmSeqS l Z a0 hw [] b h0 n0 Z0 ) hZ (hw _ (List.mem_of_getElem? (i := 85) rfl)) (hw _ (List.mem_of_getElem? (i := 12) rfl)) (by decide) (by decide)) q5a q5c (g := (mkF m 22 #[.val (.ref a), .val (.ref a), .val (.ref a)] [(.ref b), (.ref b)])) rfl (by rw [hml]; rfl) (Steps.refl _) (argsL := [(.ref b)]) (rest := []) (lenOf pd_308 rfl) rfl (by show 2 * 0 + _ ≤ _; exact Nat.le_of_eq rfl) (hb hby d17_22) (fun _ _ => ⟨rfl, e4, (by decide : 0 + 0 ≤ _), (by decide : 0 + 0 ≤ _)⟩)
  dsimp only [Pt.U, Pt.locs, Pt.cells, Pt.slots] at X5 l5 y5 z5 st5 hQ5
  subst l5 y5 z5
  obtain ⟨rfl, N5q, e5⟩ := hQ5
  have N5 := Fr.app N0 N5q
  refine Go.to st5 ?_
  show Go _ _ _ _ T5 (mkF m 25 #[.val (.ref a), .val (.ref a), .val (.ref a)] [(.int (1 : Int32))])
  refine Go.by (fun _ gk => XS.ifNo X5.here hx rfl (hb hby d17_25) rfl (XT.i0_eq_f (by decide)) gk) ?_
  show Go _ _ _ _ T5 (mkF m 28 #[.val (.ref a), .val (.ref a), .val (.ref a)] [])
  refine Go.by (fun _ gk => XS.aloadN X5.here hx rfl (hb hby d17_28) rfl rfl gk) ?_
  show Go _ _ _ _ T5 (mkF m 29 #[.val (.ref a), .val (.ref a), .val (.ref a)] [(.ref a)])
  obtain ⟨T6, X6, e6, st6⟩ := getF X5 hx hZ hown (host := "") (Or.inl (hw _ (List.mem_of_getElem? (i := 38) rfl))) Via.refl e5 F_a_user (g := (mkF m 29 #[.val (.ref a), .val (.ref a), .val (.ref a)] [(.ref a)])) rfl rfl (hb hby d17_29)
  refine Go.by st6 ?_
  show Go _ _ _ _ T6 (mkF m 32 #[.val (.ref a), .val (.ref a), .val (.ref a)] [(.ref d)])
  refine Go.by (fun _ gk => XS.aloadN X6.here hx rfl (hb hby d17_32) rfl rfl gk) ?_
  show Go _ _ _ _ T6 (mkF m 33 #[.val (.ref a), .val (.ref a), .val (.ref a)] [(.ref a), (.ref d)])
  obtain ⟨T7, X7, e7, st7⟩ := getF X6 hx hZ hown (host := "") (Or.inl (hw _ (List.mem_of_getElem? (i := 38) rfl))) Via.refl e6 F_a_user (g := (mkF m 33 #[.val (.ref a), .val (.ref a), .val (.ref a)] [(.ref a), (.ref d)])) rfl rfl (hb hby d17_33)
  refine Go.by st7 ?_
  show Go _ _ _ _ T7 (mkF m 36 #[.val (.ref a), .val (.ref a), .val (.ref a)] [(.ref d), (.ref d)])
  obtain ⟨cq8, kq8, q8a, q8b, q8c⟩ := isOf hZ e7 E_d
  obtain ⟨_, _, ⟨T8, L8, k8, n8⟩, -, X8, ⟨Lc8, hQ8, l8, y8, z8⟩, st8⟩ := X7.virtualBack hx (y := (⟨"java/lang/String", "equals", "(Ljava/lang/Object;)Z"⟩ : MethodName)) (z := (⟨"java/lang/String", "equals", "(Ljava/lang/Object;)Z"⟩ : MethodName)) hown (mvT hZ (hw _ (List.mem_of_getElem? (i := 81) rfl))) (mvT hZ (hw _ (List.mem_of_getElem? (i := 82) rfl))) (notFace_of_selects (args := #[]) (mvT hZ (hw _ (List.mem_of_getElem? (i := 84) rfl)))) (mvT hZ (hw _ (List.mem_of_getElem? (i := 84) rfl))) (mvT hZ (hw _ (List.mem_of_getElem? (i := 83) rfl))) (by decide) (backOf (W := 0) (rmSeqS l Z a0 hw [] d h0 n0 Z0 ) hZ (hw _ (List.mem_of_getElem? (i := 85) rfl)) (hw _ (List.mem_of_getElem? (i := 12) rfl)) (by decide) (by decide)) q8a q8c (g := (mkF m 36 #[.val (.ref a), .val (.ref a), .val (.ref a)] [(.ref d), (.ref d)])) rfl (by rw [hml]; rfl) (Steps.refl _) (argsL := [(.ref d)]) (rest := []) (lenOf pd_308 rfl) rfl (by show 2 * 0 + _ ≤ _; exact Nat.le_of_eq rfl) (hb hby d17_36) (fun _ _ => ⟨rfl, e7, (by decide : 0 + 0 ≤ _), (by decide : 0 + 0 ≤ _)⟩)
  dsimp only [Pt.U, Pt.locs, Pt.cells, Pt.slots] at X8 l8 y8 z8 st8 hQ8
  subst l8 y8 z8
  obtain ⟨rfl, N8q, e8⟩ := hQ8
  have N8 := Fr.app N5 N8q
  refine Go.to st8 ?_
  show Go _ _ _ _ T8 (mkF m 39 #[.val (.ref a), .val (.ref a), .val (.ref a)] [(.int (1 : Int32))])
  refine Go.by (fun _ gk => XS.ifNo X8.here hx rfl (hb hby d17_39) rfl (XT.i0_eq_f (by decide)) gk) ?_
  show Go _ _ _ _ T8 (mkF m 42 #[.val (.ref a), .val (.ref a), .val (.ref a)] [])
  refine Go.by (fun _ gk => XT.iconstV X8.here hx rfl (1 : Int32) (hb hby d17_42) (by decide) gk) ?_
  show Go _ _ _ _ T8 (mkF m 43 #[.val (.ref a), .val (.ref a), .val (.ref a)] [(.int (1 : Int32))])
  refine Go.by (fun _ gk => XS.goto X8.here hx rfl (pc0 := 43) (pc' := 47) rfl (hb hby d17_43) (by decide) (by decide) gk) ?_
  show Go _ _ _ _ T8 (mkF m 47 #[.val (.ref a), .val (.ref a), .val (.ref a)] [(.int (1 : Int32))])
  exact Go.retI X8 hx Bd.notSynchronized Bd.returns rfl (by simp) (hb hby d17_47) (by rw [e8]; exact ⟨rfl, N8, rfl⟩) (by decide) (by decide)
theorem d17_46 : decode prog_13_method_4_code 46 = .ok (.iconst 0, 1) := by decide +kernel
def Q_rmMeM (Z : State) (a : Addr) (b : Addr) (sa : Addr) (sc : Addr) (ta : Addr) (tc : Addr) (v_sa : Addr) (v_sc : Addr) (v_ta : Addr) (v_tc : Addr) (k_sa : ClassId) (k_sc : ClassId) (k_ta : ClassId) (k_tc : ClassId) (x1 : Int32) (x2 : Int32) (y1 : Int32) (y2 : Int32) (cs : Int32) (h0 : Heap) (n0 : Nat) (v : Option Value) (h : Heap) (L : List Loc) : Prop := ∃ r : Int32, v = some (.int r) ∧ Fr n0 L ∧ h = h0 ∧ ((r = 1 ∧ own_se x1 y1 ∧ own_se x2 y2) ∨ (r = 0 ∧ ¬ (own_se x1 y1 ∧ own_se x2 y2)))
set_option maxRecDepth 65536 in
set_option maxHeartbeats 40000000 in
theorem rmMeM (l : Launch) (Z : State) (a0 : Array Value) (hw : ∀ d ∈ tables_1, d.before a0 Z = true) (ws : List Jvm.Cond) (a : Addr) (b : Addr) (sa : Addr) (sc : Addr) (ta : Addr) (tc : Addr) (v_sa : Addr) (v_sc : Addr) (v_ta : Addr) (v_tc : Addr) (k_sa : ClassId) (k_sc : ClassId) (k_ta : ClassId) (k_tc : ClassId) (x1 : Int32) (x2 : Int32) (y1 : Int32) (y2 : Int32) (cs : Int32) (h0 : Heap) (n0 : Nat) (Z0 : n0 ≤ h0.size) (O0 : Old Z n0 h0) (E_a : Exa Z h0 a "com/example/muster/muster/model/Member") (F_a_conversation : Fld Z h0 a "com/example/muster/muster/model/Member" "conversation" "Ljava/lang/String;" (.ref sa)) (F_a_user : Fld Z h0 a "com/example/muster/muster/model/Member" "user" "Ljava/lang/String;" (.ref sc)) (E_b : Exa Z h0 b "com/example/muster/muster/model/Member") (F_b_conversation : Fld Z h0 b "com/example/muster/muster/model/Member" "conversation" "Ljava/lang/String;" (.ref ta)) (F_b_user : Fld Z h0 b "com/example/muster/muster/model/Member" "user" "Ljava/lang/String;" (.ref tc)) (E_sa : Exa Z h0 sa "java/lang/String") (F_sa_coder : Fld Z h0 sa "java/lang/String" "coder" "B" (.int (0 : Int32))) (F_sa_value : Fld Z h0 sa "java/lang/String" "value" "[B" (.ref v_sa)) (V_v_sa : Arv Z h0 v_sa k_sa .byte (own_ln x1) (own_str (own_ln x1) (own_ca x1) (own_cb x1)) (.int (0 : Int32))) (E_sc : Exa Z h0 sc "java/lang/String") (F_sc_coder : Fld Z h0 sc "java/lang/String" "coder" "B" (.int (0 : Int32))) (F_sc_value : Fld Z h0 sc "java/lang/String" "value" "[B" (.ref v_sc)) (V_v_sc : Arv Z h0 v_sc k_sc .byte (own_ln x2) (own_str (own_ln x2) (own_ca x2) (own_cb x2)) (.int (0 : Int32))) (E_ta : Exa Z h0 ta "java/lang/String") (F_ta_coder : Fld Z h0 ta "java/lang/String" "coder" "B" (.int (0 : Int32))) (F_ta_value : Fld Z h0 ta "java/lang/String" "value" "[B" (.ref v_ta)) (V_v_ta : Arv Z h0 v_ta k_ta .byte (own_ln y1) (own_str (own_ln y1) (own_ca y1) (own_cb y1)) (.int (0 : Int32))) (E_tc : Exa Z h0 tc "java/lang/String") (F_tc_coder : Fld Z h0 tc "java/lang/String" "coder" "B" (.int (0 : Int32))) (F_tc_value : Fld Z h0 tc "java/lang/String" "value" "[B" (.ref v_tc)) (V_v_tc : Arv Z h0 v_tc k_tc .byte (own_ln y2) (own_str (own_ln y2) (own_ca y2) (own_cb y2)) (.int (0 : Int32))) (ne_sa_ta : sa ≠ ta) (ne_sc_tc : sc ≠ tc) (S_cs : Sta Z Z.heap "java/lang/String" "COMPACT_STRINGS" "Z" (.int cs)) (n_cs : ¬ cs = 0) :
    MetFree l (⟨"com/example/muster/muster/model/Member", "equals", "(Ljava/lang/Object;)Z"⟩ : MethodName) (head1 (Jvm.Cond.code (⟨"com/example/muster/muster/model/Member", "equals", "(Ljava/lang/Object;)Z"⟩ : MethodName) prog_13_method_4_code 3 (some .boolean) :: ws) ({ frames := 2, cells := 0, slots := 0, locals := 28 } : Room)) (fun as' U => as' = #[(.ref a), (.ref b)] ∧ Z.Warmed39 U.vm ∧ U.heap = h0) (fun _ _ _ _ _ => True) (fun _ U o U' => ∃ v L, o = .returned v ∧ Q_rmMeM Z a b sa sc ta tc v_sa v_sc v_ta v_tc k_sa k_sc k_ta k_tc x1 x2 y1 y2 cs h0 n0 v U'.heap L ∧ FrameEnd U o U' L ({ frames := 2, cells := 0, slots := 0, locals := 28 } : Room).cells ({ frames := 2, cells := 0, slots := 0, locals := 28 } : Room).slots) := by
  refine MetFree.of_bodySF (plainFor_of_name pn_228) hisR ?_
  intro p e s m args below meth c s₁ Bd hml0 hP hK
  obtain ⟨rfl, hZ, hh⟩ := hP
  have hx := Bd.exec
  have hby := Bd.bytes
  have hml : c.maxLocals = 3 := hml0
  have hown : s.vm.findClass "com/example/muster/muster/model/Member" = some m.cls := findClass_of_methodNamed Bd.named
  have hnm := (name_of_methodNamed Bd.named Bd.method).1
  have X0 : Stand p l e ({ frames := 2, cells := 0, slots := 0, locals := 28 } : Room) s m #[(.ref a), (.ref b)] below meth c s₁ [] 0 0 := Stand.of_body Bd
  have e0 : s₁.heap = h0 := by rw [← hh, Bd.state]; rfl
  have N0 := Fr.nil n0
  refine Go.enter (F := EndN s (Q_rmMeM Z a b sa sc ta tc v_sa v_sc v_ta v_tc k_sa k_sc k_ta k_tc x1 x2 y1 y2 cs h0 n0) ({ frames := 2, cells := 0, slots := 0, locals := 28 } : Room).cells ({ frames := 2, cells := 0, slots := 0, locals := 28 } : Room).slots) (ef_239 m a b) ?_
  show Go _ _ _ _ s₁ (mkF m 0 #[.val (.ref a), .val (.ref b), .unset] [])
  refine Go.by (fun _ gk => XS.aloadN X0.here hx rfl (hb hby d17_0) rfl rfl gk) ?_
  show Go _ _ _ _ s₁ (mkF m 1 #[.val (.ref a), .val (.ref b), .unset] [(.ref b)])
  obtain ⟨T1, X1, e1, st1⟩ := instY X0 hx hZ hown (hw _ (List.mem_of_getElem? (i := 79) rfl)) e0 (Ins.self E_b) (g := (mkF m 1 #[.val (.ref a), .val (.ref b), .unset] [(.ref b)])) rfl rfl (hb hby d17_1)
  refine Go.by st1 ?_
  show Go _ _ _ _ T1 (mkF m 4 #[.val (.ref a), .val (.ref b), .unset] [(.int (1 : Int32))])
  refine Go.by (fun _ gk => XS.ifYes X1.here hx rfl (pc0 := 4) (pc' := 9) rfl (hb hby d17_4) rfl (XT.i0_ne_t (by decide)) (by decide) (by decide) gk) ?_
  show Go _ _ _ _ T1 (mkF m 9 #[.val (.ref a), .val (.ref b), .unset] [])
  refine Go.by (fun _ gk => XS.aloadN X1.here hx rfl (hb hby d17_9) rfl rfl gk) ?_
  show Go _ _ _ _ T1 (mkF m 10 #[.val (.ref a), .val (.ref b), .unset] [(.ref b)])
  obtain ⟨T2, X2, e2, st2⟩ := castY X1 hx hZ hown (hw _ (List.mem_of_getElem? (i := 79) rfl)) e1 (Ins.self E_b) (g := (mkF m 10 #[.val (.ref a), .val (.ref b), .unset] [(.ref b)])) rfl rfl (hb hby d17_10)
  refine Go.by st2 ?_
  show Go _ _ _ _ T2 (mkF m 13 #[.val (.ref a), .val (.ref b), .unset] [(.ref b)])
  refine Go.by (fun _ gk => XS.astoreN X2.here hx rfl (hb hby d17_13) rfl rfl (l' := #[.val (.ref a), .val (.ref b), .val (.ref b)]) rfl gk) ?_
  show Go _ _ _ _ T2 (mkF m 14 #[.val (.ref a), .val (.ref b), .val (.ref b)] [])
  refine Go.by (fun _ gk => XS.aloadN X2.here hx rfl (hb hby d17_14) rfl rfl gk) ?_
  show Go _ _ _ _ T2 (mkF m 15 #[.val (.ref a), .val (.ref b), .val (.ref b)] [(.ref a)])
  obtain ⟨T3, X3, e3, st3⟩ := getF X2 hx hZ hown (host := "") (Or.inl (hw _ (List.mem_of_getElem? (i := 36) rfl))) Via.refl e2 F_a_conversation (g := (mkF m 15 #[.val (.ref a), .val (.ref b), .val (.ref b)] [(.ref a)])) rfl rfl (hb hby d17_15)
  refine Go.by st3 ?_
  show Go _ _ _ _ T3 (mkF m 18 #[.val (.ref a), .val (.ref b), .val (.ref b)] [(.ref sa)])
  refine Go.by (fun _ gk => XS.aloadN X3.here hx rfl (hb hby d17_18) rfl rfl gk) ?_
  show Go _ _ _ _ T3 (mkF m 19 #[.val (.ref a), .val (.ref b), .val (.ref b)] [(.ref b), (.ref sa)])
  obtain ⟨T4, X4, e4, st4⟩ := getF X3 hx hZ hown (host := "") (Or.inl (hw _ (List.mem_of_getElem? (i := 36) rfl))) Via.refl e3 F_b_conversation (g := (mkF m 19 #[.val (.ref a), .val (.ref b), .val (.ref b)] [(.ref b), (.ref sa)])) rfl rfl (hb hby d17_19)
  refine Go.by st4 ?_
  show Go _ _ _ _ T4 (mkF m 22 #[.val (.ref a), .val (.ref b), .val (.ref b)] [(.ref ta), (.ref sa)])
  obtain ⟨cq5, kq5, q5a, q5b, q5c⟩ := isOf hZ e4 E_sa
  obtain ⟨_, _, ⟨T5, L5, k5, n5⟩, -, X5, ⟨Lc5, hQ5, l5, y5, z5⟩, st5⟩ := X4.virtualBack hx (y := (⟨"java/lang/String", "equals", "(Ljava/lang/Object;)Z"⟩ : MethodName)) (z := (⟨"java/lang/String", "equals", "(Ljava/lang/Object;)Z"⟩ : MethodName)) hown (mvT hZ (hw _ (List.mem_of_getElem? (i := 81) rfl))) (mvT hZ (hw _ (List.mem_of_getElem? (i := 82) rfl))) (notFace_of_selects (args := #[]) (mvT hZ (hw _ (List.mem_of_getElem? (i := 84) rfl)))) (mvT hZ (hw _ (List.mem_of_getElem? (i := 84) rfl))) (mvT hZ (hw _ (List.mem_of_getElem? (i := 83) rfl))) (by decide) (backOf (W := 0) (rmSeq l Z a0 hw [] sa ta v_sa v_ta k_sa k_ta (own_ln x1) (own_ca x1) (own_cb x1) (own_ln y1) (own_ca y1) (own_cb y1) cs h0 n0 Z0 O0 E_sa F_sa_coder F_sa_value V_v_sa E_ta F_ta_coder F_ta_value V_v_ta (own_ln3 x1) (own_ln3 y1) ne_sa_ta S_cs n_cs) hZ (hw _ (List.mem_of_getElem? (i := 85) rfl)) (hw _ (List.mem_of_getElem? (i := 12) rfl)) (by decide) (by decide)) q5a q5c (g := (mkF m 22 #[.val (.ref a), .val (.ref b), .val (.ref b)] [(.ref ta), (.ref sa)])) rfl (by rw [hml]; rfl) (Steps.refl _) (argsL := [(.ref ta)]) (rest := []) (lenOf pd_308 rfl) rfl (by show 2 * 0 + _ ≤ _; exact Nat.le_of_eq rfl) (hb hby d17_22) (fun _ _ => ⟨rfl, e4, (by decide : 0 + 0 ≤ _), (by decide : 0 + 0 ≤ _)⟩)
  dsimp only [Pt.U, Pt.locs, Pt.cells, Pt.slots] at X5 l5 y5 z5 st5 hQ5
  subst l5 y5 z5
  obtain ⟨r1, rfl, N5q, e5, Q5_0⟩ := hQ5
  have N5 := Fr.app N0 N5q
  refine Go.to st5 ?_
  show Go _ _ _ _ T5 (mkF m 25 #[.val (.ref a), .val (.ref b), .val (.ref b)] [(.int r1)])
  rcases Q5_0 with ⟨rfl, hE⟩ | ⟨rfl, hE⟩
  · show Go _ _ _ _ T5 (mkF m 25 #[.val (.ref a), .val (.ref b), .val (.ref b)] [(.int (1 : Int32))])
    refine Go.by (fun _ gk => XS.ifNo X5.here hx rfl (hb hby d17_25) rfl (XT.i0_eq_f (by decide)) gk) ?_
    show Go _ _ _ _ T5 (mkF m 28 #[.val (.ref a), .val (.ref b), .val (.ref b)] [])
    refine Go.by (fun _ gk => XS.aloadN X5.here hx rfl (hb hby d17_28) rfl rfl gk) ?_
    show Go _ _ _ _ T5 (mkF m 29 #[.val (.ref a), .val (.ref b), .val (.ref b)] [(.ref a)])
    obtain ⟨T6, X6, e6, st6⟩ := getF X5 hx hZ hown (host := "") (Or.inl (hw _ (List.mem_of_getElem? (i := 38) rfl))) Via.refl e5 F_a_user (g := (mkF m 29 #[.val (.ref a), .val (.ref b), .val (.ref b)] [(.ref a)])) rfl rfl (hb hby d17_29)
    refine Go.by st6 ?_
    show Go _ _ _ _ T6 (mkF m 32 #[.val (.ref a), .val (.ref b), .val (.ref b)] [(.ref sc)])
    refine Go.by (fun _ gk => XS.aloadN X6.here hx rfl (hb hby d17_32) rfl rfl gk) ?_
    show Go _ _ _ _ T6 (mkF m 33 #[.val (.ref a), .val (.ref b), .val (.ref b)] [(.ref b), (.ref sc)])
    obtain ⟨T7, X7, e7, st7⟩ := getF X6 hx hZ hown (host := "") (Or.inl (hw _ (List.mem_of_getElem? (i := 38) rfl))) Via.refl e6 F_b_user (g := (mkF m 33 #[.val (.ref a), .val (.ref b), .val (.ref b)] [(.ref b), (.ref sc)])) rfl rfl (hb hby d17_33)
    refine Go.by st7 ?_
    show Go _ _ _ _ T7 (mkF m 36 #[.val (.ref a), .val (.ref b), .val (.ref b)] [(.ref tc), (.ref sc)])
    obtain ⟨cq8, kq8, q8a, q8b, q8c⟩ := isOf hZ e7 E_sc
    obtain ⟨_, _, ⟨T8, L8, k8, n8⟩, -, X8, ⟨Lc8, hQ8, l8, y8, z8⟩, st8⟩ := X7.virtualBack hx (y := (⟨"java/lang/String", "equals", "(Ljava/lang/Object;)Z"⟩ : MethodName)) (z := (⟨"java/lang/String", "equals", "(Ljava/lang/Object;)Z"⟩ : MethodName)) hown (mvT hZ (hw _ (List.mem_of_getElem? (i := 81) rfl))) (mvT hZ (hw _ (List.mem_of_getElem? (i := 82) rfl))) (notFace_of_selects (args := #[]) (mvT hZ (hw _ (List.mem_of_getElem? (i := 84) rfl)))) (mvT hZ (hw _ (List.mem_of_getElem? (i := 84) rfl))) (mvT hZ (hw _ (List.mem_of_getElem? (i := 83) rfl))) (by decide) (backOf (W := 0) (rmSeq l Z a0 hw [] sc tc v_sc v_tc k_sc k_tc (own_ln x2) (own_ca x2) (own_cb x2) (own_ln y2) (own_ca y2) (own_cb y2) cs h0 n0 Z0 O0 E_sc F_sc_coder F_sc_value V_v_sc E_tc F_tc_coder F_tc_value V_v_tc (own_ln3 x2) (own_ln3 y2) ne_sc_tc S_cs n_cs) hZ (hw _ (List.mem_of_getElem? (i := 85) rfl)) (hw _ (List.mem_of_getElem? (i := 12) rfl)) (by decide) (by decide)) q8a q8c (g := (mkF m 36 #[.val (.ref a), .val (.ref b), .val (.ref b)] [(.ref tc), (.ref sc)])) rfl (by rw [hml]; rfl) (Steps.refl _) (argsL := [(.ref tc)]) (rest := []) (lenOf pd_308 rfl) rfl (by show 2 * 0 + _ ≤ _; exact Nat.le_of_eq rfl) (hb hby d17_36) (fun _ _ => ⟨rfl, e7, (by decide : 0 + 0 ≤ _), (by decide : 0 + 0 ≤ _)⟩)
    dsimp only [Pt.U, Pt.locs, Pt.cells, Pt.slots] at X8 l8 y8 z8 st8 hQ8
    subst l8 y8 z8
    obtain ⟨r2, rfl, N8q, e8, Q8_0⟩ := hQ8
    have N8 := Fr.app N5 N8q
    refine Go.to st8 ?_
    show Go _ _ _ _ T8 (mkF m 39 #[.val (.ref a), .val (.ref b), .val (.ref b)] [(.int r2)])
    rcases Q8_0 with ⟨rfl, hF⟩ | ⟨rfl, hF⟩
    · show Go _ _ _ _ T8 (mkF m 39 #[.val (.ref a), .val (.ref b), .val (.ref b)] [(.int (1 : Int32))])
      refine Go.by (fun _ gk => XS.ifNo X8.here hx rfl (hb hby d17_39) rfl (XT.i0_eq_f (by decide)) gk) ?_
      show Go _ _ _ _ T8 (mkF m 42 #[.val (.ref a), .val (.ref b), .val (.ref b)] [])
      refine Go.by (fun _ gk => XT.iconstV X8.here hx rfl (1 : Int32) (hb hby d17_42) (by decide) gk) ?_
      show Go _ _ _ _ T8 (mkF m 43 #[.val (.ref a), .val (.ref b), .val (.ref b)] [(.int (1 : Int32))])
      refine Go.by (fun _ gk => XS.goto X8.here hx rfl (pc0 := 43) (pc' := 47) rfl (hb hby d17_43) (by decide) (by decide) gk) ?_
      show Go _ _ _ _ T8 (mkF m 47 #[.val (.ref a), .val (.ref b), .val (.ref b)] [(.int (1 : Int32))])
      exact Go.retI X8 hx Bd.notSynchronized Bd.returns rfl (by simp) (hb hby d17_47) (by rw [e8]; exact ⟨(1 : Int32), rfl, N8, rfl, Or.inl ⟨rfl, hE, hF⟩⟩) (by decide) (by decide)
    · show Go _ _ _ _ T8 (mkF m 39 #[.val (.ref a), .val (.ref b), .val (.ref b)] [(.int (0 : Int32))])
      refine Go.by (fun _ gk => XS.ifYes X8.here hx rfl (pc0 := 39) (pc' := 46) rfl (hb hby d17_39) rfl (XT.i0_eq_t rfl) (by decide) (by decide) gk) ?_
      show Go _ _ _ _ T8 (mkF m 46 #[.val (.ref a), .val (.ref b), .val (.ref b)] [])
      refine Go.by (fun _ gk => XT.iconstV X8.here hx rfl (0 : Int32) (hb hby d17_46) (by decide) gk) ?_
      show Go _ _ _ _ T8 (mkF m 47 #[.val (.ref a), .val (.ref b), .val (.ref b)] [(.int (0 : Int32))])
      exact Go.retI X8 hx Bd.notSynchronized Bd.returns rfl (by simp) (hb hby d17_47) (by rw [e8]; exact ⟨(0 : Int32), rfl, N8, rfl, Or.inr ⟨rfl, fun q => hF q.2⟩⟩) (by decide) (by decide)
  · show Go _ _ _ _ T5 (mkF m 25 #[.val (.ref a), .val (.ref b), .val (.ref b)] [(.int (0 : Int32))])
    refine Go.by (fun _ gk => XS.ifYes X5.here hx rfl (pc0 := 25) (pc' := 46) rfl (hb hby d17_25) rfl (XT.i0_eq_t rfl) (by decide) (by decide) gk) ?_
    show Go _ _ _ _ T5 (mkF m 46 #[.val (.ref a), .val (.ref b), .val (.ref b)] [])
    refine Go.by (fun _ gk => XT.iconstV X5.here hx rfl (0 : Int32) (hb hby d17_46) (by decide) gk) ?_
    show Go _ _ _ _ T5 (mkF m 47 #[.val (.ref a), .val (.ref b), .val (.ref b)] [(.int (0 : Int32))])
    exact Go.retI X5 hx Bd.notSynchronized Bd.returns rfl (by simp) (hb hby d17_47) (by rw [e5]; exact ⟨(0 : Int32), rfl, N5, rfl, Or.inr ⟨rfl, fun q => hE q.1⟩⟩) (by decide) (by decide)
theorem ef_321 (m : MethodId) (x0 : Int32) (x1 : Int32) (x2 : Int32) (x3 : Int32) (x4 : Int32) : entryFrame m #[(.int x0), (.int x1), (.int x2), (.int x3), (.int x4)] 11 = mkF m 0 #[.val (.int x0), .val (.int x1), .val (.int x2), .val (.int x3), .val (.int x4), .unset, .unset, .unset, .unset, .unset, .unset] [] := by (first | (simp [entryFrame, mkF, argsToLocals, Value.category]; done) | rfl)
theorem pd_322 : parseMethodDescriptor "(I)Ljava/lang/String;" = some ⟨[.int], some (.object "java/lang/String")⟩ := by decide +kernel
theorem pd_323 : parseMethodDescriptor "(Ljava/lang/String;Ljava/lang/String;)V" = some ⟨[(.object "java/lang/String"), (.object "java/lang/String")], none⟩ := by decide +kernel
theorem pd_324 : parseMethodDescriptor "(II)Z" = some ⟨[.int, .int], some .boolean⟩ := by decide +kernel
def Q_rm0 (Z : State) (p0 : Int32) (p1 : Int32) (p2 : Int32) (p3 : Int32) (p4 : Int32) (cs : Int32) (h0 : Heap) (n0 : Nat) (v : Option Value) (h : Heap) (L : List Loc) : Prop := v = some (.int 1) ∧ Fr n0 L
set_option maxRecDepth 65536 in
set_option maxHeartbeats 40000000 in
theorem rm0 (l : Launch) (Z : State) (a0 : Array Value) (hw : ∀ d ∈ tables_1, d.before a0 Z = true) (ws : List Jvm.Cond) (p0 : Int32) (p1 : Int32) (p2 : Int32) (p3 : Int32) (p4 : Int32) (cs : Int32) (h0 : Heap) (n0 : Nat) (Z0 : n0 ≤ h0.size) (O0 : Old Z n0 h0) (S_cs : Sta Z Z.heap "java/lang/String" "COMPACT_STRINGS" "Z" (.int cs)) (n_cs : ¬ cs = 0) :
    MetFree l x (head1 (Jvm.Cond.code x code maxLocals ret :: ws) room_1) (fun as' U => as' = #[(.int p0), (.int p1), (.int p2), (.int p3), (.int p4)] ∧ Z.Warmed39 U.vm ∧ U.heap = h0 ∧ CHv Z own_EL U.vm h0) (fun _ _ _ _ _ => True) (fun _ U o U' => ∃ v L, o = .returned v ∧ Q_rm0 Z p0 p1 p2 p3 p4 cs h0 n0 v U'.heap L ∧ CHr Z own_EL U.vm U.heap U'.vm U'.heap ∧ ReturnedEndW U o U' L 26 52) := by
  refine MetFree.of_bodySF (plainFor_of_name pn_1) hisR ?_
  intro p e s m args below meth c s₁ Bd hml0 hP hK
  obtain ⟨rfl, hZ, hh, hH⟩ := hP
  have hx := Bd.exec
  have hby := Bd.bytes
  have hml : c.maxLocals = 11 := hml0
  have hown : s.vm.findClass "com/example/muster/muster/model/MemberEqualsPinLaw" = some m.cls := findClass_of_methodNamed Bd.named
  have hnm := (name_of_methodNamed Bd.named Bd.method).1
  have X0 : Stand p l e room_1 (s.setVm s.vm) m #[(.int p0), (.int p1), (.int p2), (.int p3), (.int p4)] below meth c s₁ [] 0 0 := Stand.of_body Bd
  have e0 : s₁.heap = h0 := by rw [← hh, Bd.state]; rfl
  have N0 := Fr.nil n0
  have hS0 : s.Since s.vm s.heap.size := (State.WarmedH.refl s).since _
  have hk0 : s.heap.size ≤ h0.size := Nat.le_of_eq (by rw [hh])
  have C0 : CHr Z own_EL s.vm h0 s.vm h0 := CHr.refl hH
  have hEL := own_EW hw
  have hSA := own_SA hw
  refine Go.enter (F := EndW Z own_EL s (Q_rm0 Z p0 p1 p2 p3 p4 cs h0 n0) 26 52) (ef_321 m p0 p1 p2 p3 p4) ?_
  show Go _ _ _ _ s₁ (mkF m 0 #[.val (.int p0), .val (.int p1), .val (.int p2), .val (.int p3), .val (.int p4), .unset, .unset, .unset, .unset, .unset, .unset] [])
  refine Go.by (fun _ gk => XS.iload X0.here hx rfl (hb hby at_0) rfl gk) ?_
  show Go _ _ _ _ s₁ (mkF m 2 #[.val (.int p0), .val (.int p1), .val (.int p2), .val (.int p3), .val (.int p4), .unset, .unset, .unset, .unset, .unset, .unset] [(.int p4)])
  refine Go.by (fun _ gk => XT.iconstV X0.here hx rfl (1 : Int32) (hb hby at_2) (by decide) gk) ?_
  show Go _ _ _ _ s₁ (mkF m 3 #[.val (.int p0), .val (.int p1), .val (.int p2), .val (.int p3), .val (.int p4), .unset, .unset, .unset, .unset, .unset, .unset] [(.int (1 : Int32)), (.int p4)])
  refine Go.by (fun _ gk => XS.iand X0.here hx rfl (hb hby at_3) rfl gk) ?_
  show Go _ _ _ _ s₁ (mkF m 4 #[.val (.int p0), .val (.int p1), .val (.int p2), .val (.int p3), .val (.int p4), .unset, .unset, .unset, .unset, .unset, .unset] [(.int (p4 &&& (1 : Int32)))])
  refine Go.join (α := Int32) (P := fun cc => True) (fr := fun cc => (mkF m 21 #[.val (.int p0), .val (.int p1), .val (.int p2), .val (.int p3), .val (.int p4), .unset, .unset, .unset, .unset, .unset, .unset] [(.int cc)])) ?_ ?_
  · intro cc h_cc
    show Go _ _ _ _ s₁ (mkF m 21 #[.val (.int p0), .val (.int p1), .val (.int p2), .val (.int p3), .val (.int p4), .unset, .unset, .unset, .unset, .unset, .unset] [(.int cc)])
    refine Go.by (fun _ gk => XS.istore X0.here hx rfl (hb hby at_21) rfl (l' := #[.val (.int p0), .val (.int p1), .val (.int p2), .val (.int p3), .val (.int p4), .val (.int cc), .unset, .unset, .unset, .unset, .unset]) rfl gk) ?_
    show Go _ _ _ _ s₁ (mkF m 23 #[.val (.int p0), .val (.int p1), .val (.int p2), .val (.int p3), .val (.int p4), .val (.int cc), .unset, .unset, .unset, .unset, .unset] [])
    refine Go.by (fun _ gk => XS.iload X0.here hx rfl (hb hby at_23) rfl gk) ?_
    show Go _ _ _ _ s₁ (mkF m 25 #[.val (.int p0), .val (.int p1), .val (.int p2), .val (.int p3), .val (.int p4), .val (.int cc), .unset, .unset, .unset, .unset, .unset] [(.int p4)])
    refine Go.by (fun _ gk => XT.iconstV X0.here hx rfl (2 : Int32) (hb hby at_25) (by decide) gk) ?_
    show Go _ _ _ _ s₁ (mkF m 26 #[.val (.int p0), .val (.int p1), .val (.int p2), .val (.int p3), .val (.int p4), .val (.int cc), .unset, .unset, .unset, .unset, .unset] [(.int (2 : Int32)), (.int p4)])
    refine Go.by (fun _ gk => XS.iand X0.here hx rfl (hb hby at_26) rfl gk) ?_
    show Go _ _ _ _ s₁ (mkF m 27 #[.val (.int p0), .val (.int p1), .val (.int p2), .val (.int p3), .val (.int p4), .val (.int cc), .unset, .unset, .unset, .unset, .unset] [(.int (p4 &&& (2 : Int32)))])
    refine Go.join (α := Int32) (P := fun dd => True) (fr := fun dd => (mkF m 44 #[.val (.int p0), .val (.int p1), .val (.int p2), .val (.int p3), .val (.int p4), .val (.int cc), .unset, .unset, .unset, .unset, .unset] [(.int dd)])) ?_ ?_
    · intro dd h_dd
      show Go _ _ _ _ s₁ (mkF m 44 #[.val (.int p0), .val (.int p1), .val (.int p2), .val (.int p3), .val (.int p4), .val (.int cc), .unset, .unset, .unset, .unset, .unset] [(.int dd)])
      refine Go.by (fun _ gk => XS.istore X0.here hx rfl (hb hby at_44) rfl (l' := #[.val (.int p0), .val (.int p1), .val (.int p2), .val (.int p3), .val (.int p4), .val (.int cc), .val (.int dd), .unset, .unset, .unset, .unset]) rfl gk) ?_
      show Go _ _ _ _ s₁ (mkF m 46 #[.val (.int p0), .val (.int p1), .val (.int p2), .val (.int p3), .val (.int p4), .val (.int cc), .val (.int dd), .unset, .unset, .unset, .unset] [])
      obtain ⟨mx, g3⟩ : ∃ z, z = h0.size := ⟨_, rfl⟩
      have ge_mx : n0 ≤ mx := Nat.le_trans Z0 (Nat.le_of_eq g3.symm)
      have sz_mx : h0.size ≤ mx := Nat.le_trans (Keep.refl h0 []).1 (Nat.le_of_eq g3.symm)
      obtain ⟨T3, h3, X3, e3, E3, A3, D3, -, st3⟩ := newO X0 hx hZ hown (hw _ (List.mem_of_getElem? (i := 0) rfl)) (hw _ (List.mem_of_getElem? (i := 1) rfl)) (hw _ (List.mem_of_getElem? (i := 2) rfl)) e0 (g := (mkF m 46 #[.val (.int p0), .val (.int p1), .val (.int p2), .val (.int p3), .val (.int p4), .val (.int cc), .val (.int dd), .unset, .unset, .unset, .unset] [])) rfl (hb hby at_46) (by decide) (by decide)
      rw [← g3] at A3 D3 st3
      have C4 : CHr Z own_EL s.vm h0 s.vm h3 := C0.trans (CHr.ext E3 C0.1)
      have Sf5 : Safe Z own_EL s.vm h3 mx := Safe.ext E3 C0.1 (Safe.new (Nat.le_of_eq g3.symm))
      have F_conversation_mx : Fld Z h3 mx "com/example/muster/muster/model/Member" "conversation" "Ljava/lang/String;" .null := D3 (Or.inr (hw _ (List.mem_of_getElem? (i := 37) rfl))) (ty := (.object "java/lang/String")) (by decide)
      have F_user_mx : Fld Z h3 mx "com/example/muster/muster/model/Member" "user" "Ljava/lang/String;" .null := D3 (Or.inr (hw _ (List.mem_of_getElem? (i := 39) rfl))) (ty := (.object "java/lang/String")) (by decide)
      refine Go.by st3 ?_
      show Go _ _ _ _ T3 (mkF m 49 #[.val (.int p0), .val (.int p1), .val (.int p2), .val (.int p3), .val (.int p4), .val (.int cc), .val (.int dd), .unset, .unset, .unset, .unset] [(.ref mx)])
      refine Go.by (fun _ gk => XS.dup X3.here hx rfl (hb hby at_49) rfl rfl gk) ?_
      show Go _ _ _ _ T3 (mkF m 50 #[.val (.int p0), .val (.int p1), .val (.int p2), .val (.int p3), .val (.int p4), .val (.int cc), .val (.int dd), .unset, .unset, .unset, .unset] [(.ref mx), (.ref mx)])
      refine Go.by (fun _ gk => XS.iloadN X3.here hx rfl (hb hby at_50) rfl gk) ?_
      show Go _ _ _ _ T3 (mkF m 51 #[.val (.int p0), .val (.int p1), .val (.int p2), .val (.int p3), .val (.int p4), .val (.int cc), .val (.int dd), .unset, .unset, .unset, .unset] [(.int p0), (.ref mx), (.ref mx)])
      have F6 : Old Z n0 h3 := O0.ext E3
      have F7 : n0 ≤ h3.size := Nat.le_trans Z0 E3.1
      have F8 : Keep h0 h3 [] := (Keep.refl h0 []).ext E3
      have F10 : s.heap.size ≤ h3.size := Nat.le_trans hk0 E3.1
      obtain ⟨_, _, ⟨T9, L9, k9, n9⟩, -, Xq9, hSq9, hgr9, ⟨Lc9, hQ9, l9, y9, z9, CH9⟩, st9⟩ := callSS X3 hx (y := (⟨"com/example/muster/muster/model/MemberEqualsPinLaw", "str", "(I)Ljava/lang/String;"⟩ : MethodName)) hown (mvT hZ (hw _ (List.mem_of_getElem? (i := 3) rfl))) (mvT hZ (hw _ (List.mem_of_getElem? (i := 4) rfl))) (mvT hZ (hw _ (List.mem_of_getElem? (i := 5) rfl))) (mvT hZ (hw _ (List.mem_of_getElem? (i := 6) rfl))) (by decide) (backOfSH (W := 2) (rmStr l Z a0 hw [] p0 cs h3 n0 F7 F6 S_cs n_cs) hZ (hw _ (List.mem_of_getElem? (i := 6) rfl)) (hw _ (List.mem_of_getElem? (i := 5) rfl)) (by decide) (by decide) hEL C4.1) (g := (mkF m 51 #[.val (.int p0), .val (.int p1), .val (.int p2), .val (.int p3), .val (.int p4), .val (.int cc), .val (.int dd), .unset, .unset, .unset, .unset] [(.int p0), (.ref mx), (.ref mx)])) rfl (by rw [hml]; rfl) (argsL := [(.int p0)]) (rest := [(.ref mx), (.ref mx)]) (lenOf pd_322 rfl) rfl (by show 2 * 0 + _ ≤ _; exact Nat.le_of_eq rfl) (hb hby at_51) (fun _ _ => ⟨rfl, e3, (by decide : 1 + 6 ≤ _), (by decide : 2 + 12 ≤ _)⟩)
      dsimp only [Pt.U, Pt.locs, Pt.cells, Pt.slots] at Xq9 hSq9 hgr9 l9 y9 z9 st9 hQ9 CH9
      subst l9 y9 z9
      obtain ⟨sa, sab, sak, rfl, N9q, K9, Q9_0, Q9_1, Q9_2, Q9_3, Q9_4⟩ := hQ9
      have N9 := Fr.app N0 N9q
      obtain ⟨X9, hS9, hZ9, hown9⟩ := rebS hS0 (by rw [e3]; exact F10) Xq9 hSq9 hgr9 hZ hown
      have C11 : CHr Z own_EL s.vm h0 T9.vm T9.heap := C4.trans CH9
      have Sf12 : Safe Z own_EL T9.vm T9.heap mx := CH9.safe A3.lt Sf5
      refine Go.to st9 ?_
      show Go _ _ _ _ T9 (mkF m 54 #[.val (.int p0), .val (.int p1), .val (.int p2), .val (.int p3), .val (.int p4), .val (.int cc), .val (.int dd), .unset, .unset, .unset, .unset] [(.ref sa), (.ref mx), (.ref mx)])
      have ge_sa : n0 ≤ sa := Nat.le_trans F7 Q9_4
      have sz_sa : h0.size ≤ sa := Nat.le_trans F8.1 Q9_4
      have ne_mx_sa : mx ≠ sa := Nat.ne_of_lt (Nat.lt_of_lt_of_le A3.lt Q9_4)
      refine Go.by (fun _ gk => XS.iloadN X9.here hx rfl (hb hby at_54) rfl gk) ?_
      show Go _ _ _ _ T9 (mkF m 55 #[.val (.int p0), .val (.int p1), .val (.int p2), .val (.int p3), .val (.int p4), .val (.int cc), .val (.int dd), .unset, .unset, .unset, .unset] [(.int p1), (.ref sa), (.ref mx), (.ref mx)])
      have F13 : Old Z n0 T9.heap := F6.keep K9 all0
      have F14 : n0 ≤ T9.heap.size := Nat.le_trans F7 K9.1
      have F15 : Keep h0 T9.heap [] := F8.trans K9 all0
      have F16 : Exa Z T9.heap mx "com/example/muster/muster/model/Member" := A3.keep K9
      obtain ⟨_, _, ⟨T17, L17, k17, n17⟩, -, Xq17, hSq17, hgr17, ⟨Lc17, hQ17, l17, y17, z17, CH17⟩, st17⟩ := callSS X9 hx (y := (⟨"com/example/muster/muster/model/MemberEqualsPinLaw", "str", "(I)Ljava/lang/String;"⟩ : MethodName)) hown9 (mvT hZ9 (hw _ (List.mem_of_getElem? (i := 3) rfl))) (mvT hZ9 (hw _ (List.mem_of_getElem? (i := 4) rfl))) (mvT hZ9 (hw _ (List.mem_of_getElem? (i := 5) rfl))) (mvT hZ9 (hw _ (List.mem_of_getElem? (i := 6) rfl))) (by decide) (backOfSH (W := 3) (rmStr l Z a0 hw [] p1 cs T9.heap n0 F14 F13 S_cs n_cs) hZ9 (hw _ (List.mem_of_getElem? (i := 6) rfl)) (hw _ (List.mem_of_getElem? (i := 5) rfl)) (by decide) (by decide) hEL C11.1) (g := (mkF m 55 #[.val (.int p0), .val (.int p1), .val (.int p2), .val (.int p3), .val (.int p4), .val (.int cc), .val (.int dd), .unset, .unset, .unset, .unset] [(.int p1), (.ref sa), (.ref mx), (.ref mx)])) rfl (by rw [hml]; rfl) (argsL := [(.int p1)]) (rest := [(.ref sa), (.ref mx), (.ref mx)]) (lenOf pd_322 rfl) rfl (by show 2 * 0 + _ ≤ _; exact Nat.le_of_eq rfl) (hb hby at_55) (fun _ _ => ⟨rfl, rfl, (by decide : 7 + 6 ≤ _), (by decide : 14 + 12 ≤ _)⟩)
      dsimp only [Pt.U, Pt.locs, Pt.cells, Pt.slots] at Xq17 hSq17 hgr17 l17 y17 z17 st17 hQ17 CH17
      subst l17 y17 z17
      obtain ⟨sc, scb, sck, rfl, N17q, K17, Q17_0, Q17_1, Q17_2, Q17_3, Q17_4⟩ := hQ17
      have N17 := Fr.app N9 N17q
      obtain ⟨X17, hS17, hZ17, hown17⟩ := rebS hS9 (by exact (Nat.le_refl T9.heap.size)) Xq17 hSq17 hgr17 hZ9 hown9
      have C18 : CHr Z own_EL s.vm h0 T17.vm T17.heap := C11.trans CH17
      have Sf19 : Safe Z own_EL T17.vm T17.heap mx := CH17.safe F16.lt Sf12
      refine Go.to st17 ?_
      show Go _ _ _ _ T17 (mkF m 58 #[.val (.int p0), .val (.int p1), .val (.int p2), .val (.int p3), .val (.int p4), .val (.int cc), .val (.int dd), .unset, .unset, .unset, .unset] [(.ref sc), (.ref sa), (.ref mx), (.ref mx)])
      have ge_sc : n0 ≤ sc := Nat.le_trans F14 Q17_4
      have sz_sc : h0.size ≤ sc := Nat.le_trans F15.1 Q17_4
      have ne_mx_sc : mx ≠ sc := Nat.ne_of_lt (Nat.lt_of_lt_of_le F16.lt Q17_4)
      have ne_sa_sc : sa ≠ sc := Nat.ne_of_lt (Nat.lt_of_lt_of_le Q9_0.lt Q17_4)
      have ne_sab_sc : sab ≠ sc := Nat.ne_of_lt (Nat.lt_of_lt_of_le Q9_3.lt Q17_4)
      have F20 : Exa Z T17.heap mx "com/example/muster/muster/model/Member" := F16.keep K17
      have F21 : Fld Z T9.heap mx "com/example/muster/muster/model/Member" "conversation" "Ljava/lang/String;" .null := F_conversation_mx.keep K9 nin0
      have F22 : Fld Z T17.heap mx "com/example/muster/muster/model/Member" "conversation" "Ljava/lang/String;" .null := F21.keep K17 nin0
      have F23 : Fld Z T9.heap mx "com/example/muster/muster/model/Member" "user" "Ljava/lang/String;" .null := F_user_mx.keep K9 nin0
      have F24 : Fld Z T17.heap mx "com/example/muster/muster/model/Member" "user" "Ljava/lang/String;" .null := F23.keep K17 nin0
      have F25 : n0 ≤ T17.heap.size := Nat.le_trans F14 K17.1
      obtain ⟨_, _, ⟨T26, L26, k26, n26⟩, -, X26, ⟨Lc26, hQ26, l26, y26, z26⟩, st26⟩ := X17.specialBack hx (y := (⟨"com/example/muster/muster/model/Member", "<init>", "(Ljava/lang/String;Ljava/lang/String;)V"⟩ : MethodName)) rfl hown17 (mvT hZ17 (hw _ (List.mem_of_getElem? (i := 32) rfl))) (mvT hZ17 (hw _ (List.mem_of_getElem? (i := 33) rfl))) (mvT hZ17 (hw _ (List.mem_of_getElem? (i := 34) rfl))) (by decide) (backOf (W := 1) (rmMember l Z a0 hw [] mx sa sc T17.heap n0 F25 F20 F22 F24 ge_mx) hZ17 (hw _ (List.mem_of_getElem? (i := 34) rfl)) (hw _ (List.mem_of_getElem? (i := 2) rfl)) (by decide) (by decide)) (g := (mkF m 58 #[.val (.int p0), .val (.int p1), .val (.int p2), .val (.int p3), .val (.int p4), .val (.int cc), .val (.int dd), .unset, .unset, .unset, .unset] [(.ref sc), (.ref sa), (.ref mx), (.ref mx)])) rfl (by rw [hml]; rfl) (Steps.refl _) (a := mx) (argsL := [(.ref sa), (.ref sc)]) (rest := [(.ref mx)]) (lenOf pd_323 rfl) rfl (by show 2 * 0 + _ ≤ _; exact Nat.le_of_eq rfl) (hb hby at_58) (fun _ _ => ⟨rfl, rfl, (by decide : 13 + 0 ≤ _), (by decide : 26 + 0 ≤ _)⟩)
      dsimp only [Pt.U, Pt.locs, Pt.cells, Pt.slots] at X26 l26 y26 z26 st26 hQ26
      subst l26 y26 z26
      obtain ⟨rfl, N26q, K26, Q26_0, Q26_1, Q26_2⟩ := hQ26
      have N26 := Fr.app N17 N26q
      have C27 : CHr Z own_EL s.vm h0 T17.vm T26.heap := C18.trans (CHr.keep K26 (sfS Sf19 sf0) C18.1)
      have Sf28 : Safe Z own_EL T17.vm T26.heap mx := Safe.keep K26 (sfS Sf19 sf0) C18.1 Sf19
      refine Go.to st26 ?_
      show Go _ _ _ _ T26 (mkF m 61 #[.val (.int p0), .val (.int p1), .val (.int p2), .val (.int p3), .val (.int p4), .val (.int cc), .val (.int dd), .unset, .unset, .unset, .unset] [(.ref mx)])
      refine Go.by (fun _ gk => XS.astore X26.here hx rfl (hb hby at_61) rfl rfl (l' := #[.val (.int p0), .val (.int p1), .val (.int p2), .val (.int p3), .val (.int p4), .val (.int cc), .val (.int dd), .val (.ref mx), .unset, .unset, .unset]) rfl gk) ?_
      show Go _ _ _ _ T26 (mkF m 63 #[.val (.int p0), .val (.int p1), .val (.int p2), .val (.int p3), .val (.int p4), .val (.int cc), .val (.int dd), .val (.ref mx), .unset, .unset, .unset] [])
      refine Go.by (fun _ gk => XS.iload X26.here hx rfl (hb hby at_63) rfl gk) ?_
      show Go _ _ _ _ T26 (mkF m 65 #[.val (.int p0), .val (.int p1), .val (.int p2), .val (.int p3), .val (.int p4), .val (.int cc), .val (.int dd), .val (.ref mx), .unset, .unset, .unset] [(.int p4)])
      refine Go.by (fun _ gk => XT.bipushV X26.here hx rfl (20 : Int32) (hb hby at_65) (by decide) gk) ?_
      show Go _ _ _ _ T26 (mkF m 67 #[.val (.int p0), .val (.int p1), .val (.int p2), .val (.int p3), .val (.int p4), .val (.int cc), .val (.int dd), .val (.ref mx), .unset, .unset, .unset] [(.int (20 : Int32)), (.int p4)])
      refine Go.by (fun _ gk => XT.iushr X26.here hx rfl (hb hby at_67) rfl gk) ?_
      show Go _ _ _ _ T26 (mkF m 68 #[.val (.int p0), .val (.int p1), .val (.int p2), .val (.int p3), .val (.int p4), .val (.int cc), .val (.int dd), .val (.ref mx), .unset, .unset, .unset] [(.int (XT.ushr p4 (20 : Int32)))])
      refine Go.by (fun _ gk => XT.iconstV X26.here hx rfl (3 : Int32) (hb hby at_68) (by decide) gk) ?_
      show Go _ _ _ _ T26 (mkF m 69 #[.val (.int p0), .val (.int p1), .val (.int p2), .val (.int p3), .val (.int p4), .val (.int cc), .val (.int dd), .val (.ref mx), .unset, .unset, .unset] [(.int (3 : Int32)), (.int (XT.ushr p4 (20 : Int32)))])
      refine Go.by (fun _ gk => XS.iand X26.here hx rfl (hb hby at_69) rfl gk) ?_
      show Go _ _ _ _ T26 (mkF m 70 #[.val (.int p0), .val (.int p1), .val (.int p2), .val (.int p3), .val (.int p4), .val (.int cc), .val (.int dd), .val (.ref mx), .unset, .unset, .unset] [(.int ((XT.ushr p4 (20 : Int32)) &&& (3 : Int32)))])
      refine Go.by (fun _ gk => XS.istore X26.here hx rfl (hb hby at_70) rfl (l' := #[.val (.int p0), .val (.int p1), .val (.int p2), .val (.int p3), .val (.int p4), .val (.int cc), .val (.int dd), .val (.ref mx), .val (.int ((XT.ushr p4 (20 : Int32)) &&& (3 : Int32))), .unset, .unset]) rfl gk) ?_
      show Go _ _ _ _ T26 (mkF m 72 #[.val (.int p0), .val (.int p1), .val (.int p2), .val (.int p3), .val (.int p4), .val (.int cc), .val (.int dd), .val (.ref mx), .val (.int ((XT.ushr p4 (20 : Int32)) &&& (3 : Int32))), .unset, .unset] [])
      obtain ⟨kd, h_kd⟩ : ∃ z, z = ((XT.ushr p4 (20 : Int32)) &&& (3 : Int32)) := ⟨_, rfl⟩
      rw [← h_kd]
      show Go _ _ _ _ T26 (mkF m 72 #[.val (.int p0), .val (.int p1), .val (.int p2), .val (.int p3), .val (.int p4), .val (.int cc), .val (.int dd), .val (.ref mx), .val (.int kd), .unset, .unset] [])
      refine Go.by (fun _ gk => XS.iload X26.here hx rfl (hb hby at_72) rfl gk) ?_
      show Go _ _ _ _ T26 (mkF m 74 #[.val (.int p0), .val (.int p1), .val (.int p2), .val (.int p3), .val (.int p4), .val (.int cc), .val (.int dd), .val (.ref mx), .val (.int kd), .unset, .unset] [(.int kd)])
      by_cases hb29 : kd = 0
      · refine Go.by (fun _ gk => XS.ifNo X26.here hx rfl (hb hby at_74) rfl (XT.i0_ne_f hb29) gk) ?_
        show Go _ _ _ _ T26 (mkF m 77 #[.val (.int p0), .val (.int p1), .val (.int p2), .val (.int p3), .val (.int p4), .val (.int cc), .val (.int dd), .val (.ref mx), .val (.int kd), .unset, .unset] [])
        have F31 : n0 ≤ T26.heap.size := Nat.le_trans F25 K26.1
        obtain ⟨my, g30⟩ : ∃ z, z = T26.heap.size := ⟨_, rfl⟩
        have ge_my : n0 ≤ my := Nat.le_trans F31 (Nat.le_of_eq g30.symm)
        have F32 : Keep h0 T17.heap [] := F15.trans K17 all0
        have F33 : Keep h0 T26.heap [] := F32.trans K26 (allS (Or.inr sz_mx) all0)
        have sz_my : h0.size ≤ my := Nat.le_trans F33.1 (Nat.le_of_eq g30.symm)
        have ne_mx_my : mx ≠ my := Nat.ne_of_lt (Nat.lt_of_lt_of_le Q26_0.lt (Nat.le_of_eq g30.symm))
        have F34 : Exa Z T17.heap sa "java/lang/String" := Q9_0.keep K17
        have F35 : Exa Z T26.heap sa "java/lang/String" := F34.keep K26
        have ne_sa_my : sa ≠ my := Nat.ne_of_lt (Nat.lt_of_lt_of_le F35.lt (Nat.le_of_eq g30.symm))
        have F36 : Arv Z T17.heap sab sak .byte (own_ln p0) (own_str (own_ln p0) (own_ca p0) (own_cb p0)) (.int (0 : Int32)) := Q9_3.keep K17 nin0
        have F37 : Arv Z T26.heap sab sak .byte (own_ln p0) (own_str (own_ln p0) (own_ca p0) (own_cb p0)) (.int (0 : Int32)) := F36.keep K26 (ninS (Ne.symm (Exa.neArv F20 F36 (hw _ (List.mem_of_getElem? (i := 1) rfl)))) nin0)
        have ne_sab_my : sab ≠ my := Nat.ne_of_lt (Nat.lt_of_lt_of_le F37.lt (Nat.le_of_eq g30.symm))
        have F38 : Exa Z T26.heap sc "java/lang/String" := Q17_0.keep K26
        have ne_sc_my : sc ≠ my := Nat.ne_of_lt (Nat.lt_of_lt_of_le F38.lt (Nat.le_of_eq g30.symm))
        have F39 : Arv Z T26.heap scb sck .byte (own_ln p1) (own_str (own_ln p1) (own_ca p1) (own_cb p1)) (.int (0 : Int32)) := Q17_3.keep K26 (ninS (Ne.symm (Exa.neArv F20 Q17_3 (hw _ (List.mem_of_getElem? (i := 1) rfl)))) nin0)
        have ne_scb_my : scb ≠ my := Nat.ne_of_lt (Nat.lt_of_lt_of_le F39.lt (Nat.le_of_eq g30.symm))
        obtain ⟨T30, h30, X30, e30, E30, A30, D30, -, st30⟩ := newO X26 hx hZ17 hown17 (hw _ (List.mem_of_getElem? (i := 0) rfl)) (hw _ (List.mem_of_getElem? (i := 1) rfl)) (hw _ (List.mem_of_getElem? (i := 2) rfl)) rfl (g := (mkF m 77 #[.val (.int p0), .val (.int p1), .val (.int p2), .val (.int p3), .val (.int p4), .val (.int cc), .val (.int dd), .val (.ref mx), .val (.int kd), .unset, .unset] [])) rfl (hb hby at_77) (by decide) (by decide)
        rw [← g30] at A30 D30 st30
        have C40 : CHr Z own_EL s.vm h0 T17.vm h30 := C27.trans (CHr.ext E30 C27.1)
        have Sf41 : Safe Z own_EL T17.vm h30 mx := Safe.ext E30 C27.1 Sf28
        have Sf42 : Safe Z own_EL T17.vm h30 my := Safe.ext E30 C27.1 (Safe.new (Nat.le_of_eq g30.symm))
        have F_conversation_my : Fld Z h30 my "com/example/muster/muster/model/Member" "conversation" "Ljava/lang/String;" .null := D30 (Or.inr (hw _ (List.mem_of_getElem? (i := 37) rfl))) (ty := (.object "java/lang/String")) (by decide)
        have F_user_my : Fld Z h30 my "com/example/muster/muster/model/Member" "user" "Ljava/lang/String;" .null := D30 (Or.inr (hw _ (List.mem_of_getElem? (i := 39) rfl))) (ty := (.object "java/lang/String")) (by decide)
        refine Go.by st30 ?_
        show Go _ _ _ _ T30 (mkF m 80 #[.val (.int p0), .val (.int p1), .val (.int p2), .val (.int p3), .val (.int p4), .val (.int cc), .val (.int dd), .val (.ref mx), .val (.int kd), .unset, .unset] [(.ref my)])
        refine Go.by (fun _ gk => XS.dup X30.here hx rfl (hb hby at_80) rfl rfl gk) ?_
        show Go _ _ _ _ T30 (mkF m 81 #[.val (.int p0), .val (.int p1), .val (.int p2), .val (.int p3), .val (.int p4), .val (.int cc), .val (.int dd), .val (.ref mx), .val (.int kd), .unset, .unset] [(.ref my), (.ref my)])
        refine Go.by (fun _ gk => XS.iload X30.here hx rfl (hb hby at_81) rfl gk) ?_
        show Go _ _ _ _ T30 (mkF m 83 #[.val (.int p0), .val (.int p1), .val (.int p2), .val (.int p3), .val (.int p4), .val (.int cc), .val (.int dd), .val (.ref mx), .val (.int kd), .unset, .unset] [(.int cc), (.ref my), (.ref my)])
        have F43 : Old Z n0 T17.heap := F13.keep K17 all0
        have F44 : Old Z n0 T26.heap := F43.keep K26 (allS ge_mx all0)
        have F45 : Old Z n0 h30 := F44.ext E30
        have F46 : n0 ≤ h30.size := Nat.le_trans F31 E30.1
        have F47 : Keep h0 h30 [] := F33.ext E30
        have F48 : Exa Z h30 mx "com/example/muster/muster/model/Member" := Q26_0.ext E30
        have F49 : Exa Z h30 sa "java/lang/String" := F35.ext E30
        have F50 : Arv Z h30 sab sak .byte (own_ln p0) (own_str (own_ln p0) (own_ca p0) (own_cb p0)) (.int (0 : Int32)) := F37.ext E30
        have F51 : Exa Z h30 sc "java/lang/String" := F38.ext E30
        have F52 : Arv Z h30 scb sck .byte (own_ln p1) (own_str (own_ln p1) (own_ca p1) (own_cb p1)) (.int (0 : Int32)) := F39.ext E30
        have F54 : T17.heap.size ≤ T26.heap.size := Nat.le_trans (Nat.le_refl T17.heap.size) K26.1
        have F55 : T17.heap.size ≤ h30.size := Nat.le_trans F54 E30.1
        obtain ⟨_, _, ⟨T53, L53, k53, n53⟩, -, Xq53, hSq53, hgr53, ⟨Lc53, hQ53, l53, y53, z53, CH53⟩, st53⟩ := callSS X30 hx (y := (⟨"com/example/muster/muster/model/MemberEqualsPinLaw", "str", "(I)Ljava/lang/String;"⟩ : MethodName)) hown17 (mvT hZ17 (hw _ (List.mem_of_getElem? (i := 3) rfl))) (mvT hZ17 (hw _ (List.mem_of_getElem? (i := 4) rfl))) (mvT hZ17 (hw _ (List.mem_of_getElem? (i := 5) rfl))) (mvT hZ17 (hw _ (List.mem_of_getElem? (i := 6) rfl))) (by decide) (backOfSH (W := 2) (rmStr l Z a0 hw [] cc cs h30 n0 F46 F45 S_cs n_cs) hZ17 (hw _ (List.mem_of_getElem? (i := 6) rfl)) (hw _ (List.mem_of_getElem? (i := 5) rfl)) (by decide) (by decide) hEL C40.1) (g := (mkF m 83 #[.val (.int p0), .val (.int p1), .val (.int p2), .val (.int p3), .val (.int p4), .val (.int cc), .val (.int dd), .val (.ref mx), .val (.int kd), .unset, .unset] [(.int cc), (.ref my), (.ref my)])) rfl (by rw [hml]; rfl) (argsL := [(.int cc)]) (rest := [(.ref my), (.ref my)]) (lenOf pd_322 rfl) rfl (by show 2 * 0 + _ ≤ _; exact Nat.le_of_eq rfl) (hb hby at_83) (fun _ _ => ⟨rfl, e30, (by decide : 14 + 6 ≤ _), (by decide : 28 + 12 ≤ _)⟩)
        dsimp only [Pt.U, Pt.locs, Pt.cells, Pt.slots] at Xq53 hSq53 hgr53 l53 y53 z53 st53 hQ53 CH53
        subst l53 y53 z53
        obtain ⟨ta, tab, tak, rfl, N53q, K53, Q53_0, Q53_1, Q53_2, Q53_3, Q53_4⟩ := hQ53
        have N53 := Fr.app N26 N53q
        obtain ⟨X53, hS53, hZ53, hown53⟩ := rebS hS17 (by rw [e30]; exact F55) Xq53 hSq53 hgr53 hZ17 hown17
        have C56 : CHr Z own_EL s.vm h0 T53.vm T53.heap := C40.trans CH53
        have Sf57 : Safe Z own_EL T53.vm T53.heap mx := CH53.safe F48.lt Sf41
        have Sf58 : Safe Z own_EL T53.vm T53.heap my := CH53.safe A30.lt Sf42
        refine Go.to st53 ?_
        show Go _ _ _ _ T53 (mkF m 86 #[.val (.int p0), .val (.int p1), .val (.int p2), .val (.int p3), .val (.int p4), .val (.int cc), .val (.int dd), .val (.ref mx), .val (.int kd), .unset, .unset] [(.ref ta), (.ref my), (.ref my)])
        have ge_ta : n0 ≤ ta := Nat.le_trans F46 Q53_4
        have sz_ta : h0.size ≤ ta := Nat.le_trans F47.1 Q53_4
        have ne_mx_ta : mx ≠ ta := Nat.ne_of_lt (Nat.lt_of_lt_of_le F48.lt Q53_4)
        have ne_my_ta : my ≠ ta := Nat.ne_of_lt (Nat.lt_of_lt_of_le A30.lt Q53_4)
        have ne_sa_ta : sa ≠ ta := Nat.ne_of_lt (Nat.lt_of_lt_of_le F49.lt Q53_4)
        have ne_sab_ta : sab ≠ ta := Nat.ne_of_lt (Nat.lt_of_lt_of_le F50.lt Q53_4)
        have ne_sc_ta : sc ≠ ta := Nat.ne_of_lt (Nat.lt_of_lt_of_le F51.lt Q53_4)
        have ne_scb_ta : scb ≠ ta := Nat.ne_of_lt (Nat.lt_of_lt_of_le F52.lt Q53_4)
        refine Go.by (fun _ gk => XS.iload X53.here hx rfl (hb hby at_86) rfl gk) ?_
        show Go _ _ _ _ T53 (mkF m 88 #[.val (.int p0), .val (.int p1), .val (.int p2), .val (.int p3), .val (.int p4), .val (.int cc), .val (.int dd), .val (.ref mx), .val (.int kd), .unset, .unset] [(.int dd), (.ref ta), (.ref my), (.ref my)])
        have F59 : Old Z n0 T53.heap := F45.keep K53 all0
        have F60 : n0 ≤ T53.heap.size := Nat.le_trans F46 K53.1
        have F61 : Keep h0 T53.heap [] := F47.trans K53 all0
        have F62 : Exa Z T53.heap mx "com/example/muster/muster/model/Member" := F48.keep K53
        have F63 : Exa Z T53.heap my "com/example/muster/muster/model/Member" := A30.keep K53
        have F64 : Exa Z T53.heap sa "java/lang/String" := F49.keep K53
        have F65 : Arv Z T53.heap sab sak .byte (own_ln p0) (own_str (own_ln p0) (own_ca p0) (own_cb p0)) (.int (0 : Int32)) := F50.keep K53 nin0
        have F66 : Exa Z T53.heap sc "java/lang/String" := F51.keep K53
        have F67 : Arv Z T53.heap scb sck .byte (own_ln p1) (own_str (own_ln p1) (own_ca p1) (own_cb p1)) (.int (0 : Int32)) := F52.keep K53 nin0
        obtain ⟨_, _, ⟨T68, L68, k68, n68⟩, -, Xq68, hSq68, hgr68, ⟨Lc68, hQ68, l68, y68, z68, CH68⟩, st68⟩ := callSS X53 hx (y := (⟨"com/example/muster/muster/model/MemberEqualsPinLaw", "str", "(I)Ljava/lang/String;"⟩ : MethodName)) hown53 (mvT hZ53 (hw _ (List.mem_of_getElem? (i := 3) rfl))) (mvT hZ53 (hw _ (List.mem_of_getElem? (i := 4) rfl))) (mvT hZ53 (hw _ (List.mem_of_getElem? (i := 5) rfl))) (mvT hZ53 (hw _ (List.mem_of_getElem? (i := 6) rfl))) (by decide) (backOfSH (W := 3) (rmStr l Z a0 hw [] dd cs T53.heap n0 F60 F59 S_cs n_cs) hZ53 (hw _ (List.mem_of_getElem? (i := 6) rfl)) (hw _ (List.mem_of_getElem? (i := 5) rfl)) (by decide) (by decide) hEL C56.1) (g := (mkF m 88 #[.val (.int p0), .val (.int p1), .val (.int p2), .val (.int p3), .val (.int p4), .val (.int cc), .val (.int dd), .val (.ref mx), .val (.int kd), .unset, .unset] [(.int dd), (.ref ta), (.ref my), (.ref my)])) rfl (by rw [hml]; rfl) (argsL := [(.int dd)]) (rest := [(.ref ta), (.ref my), (.ref my)]) (lenOf pd_322 rfl) rfl (by show 2 * 0 + _ ≤ _; exact Nat.le_of_eq rfl) (hb hby at_88) (fun _ _ => ⟨rfl, rfl, (by decide : 20 + 6 ≤ _), (by decide : 40 + 12 ≤ _)⟩)
        dsimp only [Pt.U, Pt.locs, Pt.cells, Pt.slots] at Xq68 hSq68 hgr68 l68 y68 z68 st68 hQ68 CH68
        subst l68 y68 z68
        obtain ⟨tc, tcb, tck, rfl, N68q, K68, Q68_0, Q68_1, Q68_2, Q68_3, Q68_4⟩ := hQ68
        have N68 := Fr.app N53 N68q
        obtain ⟨X68, hS68, hZ68, hown68⟩ := rebS hS53 (by exact (Nat.le_refl T53.heap.size)) Xq68 hSq68 hgr68 hZ53 hown53
        have C69 : CHr Z own_EL s.vm h0 T68.vm T68.heap := C56.trans CH68
        have Sf70 : Safe Z own_EL T68.vm T68.heap mx := CH68.safe F62.lt Sf57
        have Sf71 : Safe Z own_EL T68.vm T68.heap my := CH68.safe F63.lt Sf58
        refine Go.to st68 ?_
        show Go _ _ _ _ T68 (mkF m 91 #[.val (.int p0), .val (.int p1), .val (.int p2), .val (.int p3), .val (.int p4), .val (.int cc), .val (.int dd), .val (.ref mx), .val (.int kd), .unset, .unset] [(.ref tc), (.ref ta), (.ref my), (.ref my)])
        have ge_tc : n0 ≤ tc := Nat.le_trans F60 Q68_4
        have sz_tc : h0.size ≤ tc := Nat.le_trans F61.1 Q68_4
        have ne_mx_tc : mx ≠ tc := Nat.ne_of_lt (Nat.lt_of_lt_of_le F62.lt Q68_4)
        have ne_my_tc : my ≠ tc := Nat.ne_of_lt (Nat.lt_of_lt_of_le F63.lt Q68_4)
        have ne_sa_tc : sa ≠ tc := Nat.ne_of_lt (Nat.lt_of_lt_of_le F64.lt Q68_4)
        have ne_sab_tc : sab ≠ tc := Nat.ne_of_lt (Nat.lt_of_lt_of_le F65.lt Q68_4)
        have ne_sc_tc : sc ≠ tc := Nat.ne_of_lt (Nat.lt_of_lt_of_le F66.lt Q68_4)
        have ne_scb_tc : scb ≠ tc := Nat.ne_of_lt (Nat.lt_of_lt_of_le F67.lt Q68_4)
        have ne_ta_tc : ta ≠ tc := Nat.ne_of_lt (Nat.lt_of_lt_of_le Q53_0.lt Q68_4)
        have ne_tab_tc : tab ≠ tc := Nat.ne_of_lt (Nat.lt_of_lt_of_le Q53_3.lt Q68_4)
        have F72 : Exa Z T68.heap my "com/example/muster/muster/model/Member" := F63.keep K68
        have F73 : Fld Z T53.heap my "com/example/muster/muster/model/Member" "conversation" "Ljava/lang/String;" .null := F_conversation_my.keep K53 nin0
        have F74 : Fld Z T68.heap my "com/example/muster/muster/model/Member" "conversation" "Ljava/lang/String;" .null := F73.keep K68 nin0
        have F75 : Fld Z T53.heap my "com/example/muster/muster/model/Member" "user" "Ljava/lang/String;" .null := F_user_my.keep K53 nin0
        have F76 : Fld Z T68.heap my "com/example/muster/muster/model/Member" "user" "Ljava/lang/String;" .null := F75.keep K68 nin0
        have F77 : n0 ≤ T68.heap.size := Nat.le_trans F60 K68.1
        obtain ⟨_, _, ⟨T78, L78, k78, n78⟩, -, X78, ⟨Lc78, hQ78, l78, y78, z78⟩, st78⟩ := X68.specialBack hx (y := (⟨"com/example/muster/muster/model/Member", "<init>", "(Ljava/lang/String;Ljava/lang/String;)V"⟩ : MethodName)) rfl hown68 (mvT hZ68 (hw _ (List.mem_of_getElem? (i := 32) rfl))) (mvT hZ68 (hw _ (List.mem_of_getElem? (i := 33) rfl))) (mvT hZ68 (hw _ (List.mem_of_getElem? (i := 34) rfl))) (by decide) (backOf (W := 1) (rmMember l Z a0 hw [] my ta tc T68.heap n0 F77 F72 F74 F76 ge_my) hZ68 (hw _ (List.mem_of_getElem? (i := 34) rfl)) (hw _ (List.mem_of_getElem? (i := 2) rfl)) (by decide) (by decide)) (g := (mkF m 91 #[.val (.int p0), .val (.int p1), .val (.int p2), .val (.int p3), .val (.int p4), .val (.int cc), .val (.int dd), .val (.ref mx), .val (.int kd), .unset, .unset] [(.ref tc), (.ref ta), (.ref my), (.ref my)])) rfl (by rw [hml]; rfl) (Steps.refl _) (a := my) (argsL := [(.ref ta), (.ref tc)]) (rest := [(.ref my)]) (lenOf pd_323 rfl) rfl (by show 2 * 0 + _ ≤ _; exact Nat.le_of_eq rfl) (hb hby at_91) (fun _ _ => ⟨rfl, rfl, (by decide : 26 + 0 ≤ _), (by decide : 52 + 0 ≤ _)⟩)
        dsimp only [Pt.U, Pt.locs, Pt.cells, Pt.slots] at X78 l78 y78 z78 st78 hQ78
        subst l78 y78 z78
        obtain ⟨rfl, N78q, K78, Q78_0, Q78_1, Q78_2⟩ := hQ78
        have N78 := Fr.app N68 N78q
        have C79 : CHr Z own_EL s.vm h0 T68.vm T78.heap := C69.trans (CHr.keep K78 (sfS Sf71 sf0) C69.1)
        have Sf80 : Safe Z own_EL T68.vm T78.heap mx := Safe.keep K78 (sfS Sf71 sf0) C69.1 Sf70
        have Sf81 : Safe Z own_EL T68.vm T78.heap my := Safe.keep K78 (sfS Sf71 sf0) C69.1 Sf71
        refine Go.to st78 ?_
        show Go _ _ _ _ T78 (mkF m 94 #[.val (.int p0), .val (.int p1), .val (.int p2), .val (.int p3), .val (.int p4), .val (.int cc), .val (.int dd), .val (.ref mx), .val (.int kd), .unset, .unset] [(.ref my)])
        refine Go.by (fun _ gk => XS.astore X78.here hx rfl (hb hby at_94) rfl rfl (l' := #[.val (.int p0), .val (.int p1), .val (.int p2), .val (.int p3), .val (.int p4), .val (.int cc), .val (.int dd), .val (.ref mx), .val (.int kd), .val (.ref my), .unset]) rfl gk) ?_
        show Go _ _ _ _ T78 (mkF m 96 #[.val (.int p0), .val (.int p1), .val (.int p2), .val (.int p3), .val (.int p4), .val (.int cc), .val (.int dd), .val (.ref mx), .val (.int kd), .val (.ref my), .unset] [])
        refine Go.by (fun _ gk => XS.iloadN X78.here hx rfl (hb hby at_96) rfl gk) ?_
        show Go _ _ _ _ T78 (mkF m 97 #[.val (.int p0), .val (.int p1), .val (.int p2), .val (.int p3), .val (.int p4), .val (.int cc), .val (.int dd), .val (.ref mx), .val (.int kd), .val (.ref my), .unset] [(.int p0)])
        refine Go.by (fun _ gk => XS.iload X78.here hx rfl (hb hby at_97) rfl gk) ?_
        show Go _ _ _ _ T78 (mkF m 99 #[.val (.int p0), .val (.int p1), .val (.int p2), .val (.int p3), .val (.int p4), .val (.int cc), .val (.int dd), .val (.ref mx), .val (.int kd), .val (.ref my), .unset] [(.int cc), (.int p0)])
        have F82 : n0 ≤ T78.heap.size := Nat.le_trans F77 K78.1
        obtain ⟨_, _, ⟨T83, L83, k83, n83⟩, -, X83, ⟨Lc83, hQ83, l83, y83, z83⟩, st83⟩ := Jvm.LawKit.callS X78 hx (y := (⟨"com/example/muster/muster/model/MemberEqualsPinLaw", "same", "(II)Z"⟩ : MethodName)) hown68 (mvT hZ68 (hw _ (List.mem_of_getElem? (i := 71) rfl))) (mvT hZ68 (hw _ (List.mem_of_getElem? (i := 72) rfl))) (mvT hZ68 (hw _ (List.mem_of_getElem? (i := 5) rfl))) (mvT hZ68 (hw _ (List.mem_of_getElem? (i := 73) rfl))) (by decide) (backOf (W := 0) (rmSame l Z a0 hw [] p0 cc T78.heap n0 F82 ) hZ68 (hw _ (List.mem_of_getElem? (i := 73) rfl)) (hw _ (List.mem_of_getElem? (i := 5) rfl)) (by decide) (by decide)) (g := (mkF m 99 #[.val (.int p0), .val (.int p1), .val (.int p2), .val (.int p3), .val (.int p4), .val (.int cc), .val (.int dd), .val (.ref mx), .val (.int kd), .val (.ref my), .unset] [(.int cc), (.int p0)])) rfl (by rw [hml]; rfl) (argsL := [(.int p0), (.int cc)]) (rest := []) (lenOf pd_324 rfl) rfl (by show 2 * 0 + _ ≤ _; exact Nat.le_of_eq rfl) (hb hby at_99) (fun _ _ => ⟨rfl, rfl, (by decide : 26 + 0 ≤ _), (by decide : 52 + 0 ≤ _)⟩)
        dsimp only [Pt.U, Pt.locs, Pt.cells, Pt.slots] at X83 l83 y83 z83 st83 hQ83
        subst l83 y83 z83
        obtain ⟨r1, rfl, N83q, e83, Q83_0⟩ := hQ83
        have N83 := Fr.app N78 N83q
        refine Go.by st83 ?_
        show Go _ _ _ _ T83 (mkF m 102 #[.val (.int p0), .val (.int p1), .val (.int p2), .val (.int p3), .val (.int p4), .val (.int cc), .val (.int dd), .val (.ref mx), .val (.int kd), .val (.ref my), .unset] [(.int r1)])
        rcases Q83_0 with ⟨rfl, hA⟩ | ⟨rfl, hA⟩
        · show Go _ _ _ _ T83 (mkF m 102 #[.val (.int p0), .val (.int p1), .val (.int p2), .val (.int p3), .val (.int p4), .val (.int cc), .val (.int dd), .val (.ref mx), .val (.int kd), .val (.ref my), .unset] [(.int (1 : Int32))])
          refine Go.by (fun _ gk => XS.ifNo X83.here hx rfl (hb hby at_102) rfl (XT.i0_eq_f (by decide)) gk) ?_
          show Go _ _ _ _ T83 (mkF m 105 #[.val (.int p0), .val (.int p1), .val (.int p2), .val (.int p3), .val (.int p4), .val (.int cc), .val (.int dd), .val (.ref mx), .val (.int kd), .val (.ref my), .unset] [])
          refine Go.by (fun _ gk => XS.iloadN X83.here hx rfl (hb hby at_105) rfl gk) ?_
          show Go _ _ _ _ T83 (mkF m 106 #[.val (.int p0), .val (.int p1), .val (.int p2), .val (.int p3), .val (.int p4), .val (.int cc), .val (.int dd), .val (.ref mx), .val (.int kd), .val (.ref my), .unset] [(.int p1)])
          refine Go.by (fun _ gk => XS.iload X83.here hx rfl (hb hby at_106) rfl gk) ?_
          show Go _ _ _ _ T83 (mkF m 108 #[.val (.int p0), .val (.int p1), .val (.int p2), .val (.int p3), .val (.int p4), .val (.int cc), .val (.int dd), .val (.ref mx), .val (.int kd), .val (.ref my), .unset] [(.int dd), (.int p1)])
          obtain ⟨_, _, ⟨T84, L84, k84, n84⟩, -, X84, ⟨Lc84, hQ84, l84, y84, z84⟩, st84⟩ := Jvm.LawKit.callS X83 hx (y := (⟨"com/example/muster/muster/model/MemberEqualsPinLaw", "same", "(II)Z"⟩ : MethodName)) hown68 (mvT hZ68 (hw _ (List.mem_of_getElem? (i := 71) rfl))) (mvT hZ68 (hw _ (List.mem_of_getElem? (i := 72) rfl))) (mvT hZ68 (hw _ (List.mem_of_getElem? (i := 5) rfl))) (mvT hZ68 (hw _ (List.mem_of_getElem? (i := 73) rfl))) (by decide) (backOf (W := 0) (rmSame l Z a0 hw [] p1 dd T78.heap n0 F82 ) hZ68 (hw _ (List.mem_of_getElem? (i := 73) rfl)) (hw _ (List.mem_of_getElem? (i := 5) rfl)) (by decide) (by decide)) (g := (mkF m 108 #[.val (.int p0), .val (.int p1), .val (.int p2), .val (.int p3), .val (.int p4), .val (.int cc), .val (.int dd), .val (.ref mx), .val (.int kd), .val (.ref my), .unset] [(.int dd), (.int p1)])) rfl (by rw [hml]; rfl) (argsL := [(.int p1), (.int dd)]) (rest := []) (lenOf pd_324 rfl) rfl (by show 2 * 0 + _ ≤ _; exact Nat.le_of_eq rfl) (hb hby at_108) (fun _ _ => ⟨rfl, e83, (by decide : 26 + 0 ≤ _), (by decide : 52 + 0 ≤ _)⟩)
          dsimp only [Pt.U, Pt.locs, Pt.cells, Pt.slots] at X84 l84 y84 z84 st84 hQ84
          subst l84 y84 z84
          obtain ⟨r2, rfl, N84q, e84, Q84_0⟩ := hQ84
          have N84 := Fr.app N83 N84q
          refine Go.by st84 ?_
          show Go _ _ _ _ T84 (mkF m 111 #[.val (.int p0), .val (.int p1), .val (.int p2), .val (.int p3), .val (.int p4), .val (.int cc), .val (.int dd), .val (.ref mx), .val (.int kd), .val (.ref my), .unset] [(.int r2)])
          rcases Q84_0 with ⟨rfl, hB⟩ | ⟨rfl, hB⟩
          · show Go _ _ _ _ T84 (mkF m 111 #[.val (.int p0), .val (.int p1), .val (.int p2), .val (.int p3), .val (.int p4), .val (.int cc), .val (.int dd), .val (.ref mx), .val (.int kd), .val (.ref my), .unset] [(.int (1 : Int32))])
            refine Go.by (fun _ gk => XS.ifNo X84.here hx rfl (hb hby at_111) rfl (XT.i0_eq_f (by decide)) gk) ?_
            show Go _ _ _ _ T84 (mkF m 114 #[.val (.int p0), .val (.int p1), .val (.int p2), .val (.int p3), .val (.int p4), .val (.int cc), .val (.int dd), .val (.ref mx), .val (.int kd), .val (.ref my), .unset] [])
            refine Go.by (fun _ gk => XT.iconstV X84.here hx rfl (1 : Int32) (hb hby at_114) (by decide) gk) ?_
            show Go _ _ _ _ T84 (mkF m 115 #[.val (.int p0), .val (.int p1), .val (.int p2), .val (.int p3), .val (.int p4), .val (.int cc), .val (.int dd), .val (.ref mx), .val (.int kd), .val (.ref my), .unset] [(.int (1 : Int32))])
            refine Go.by (fun _ gk => XS.goto X84.here hx rfl (pc0 := 115) (pc' := 119) rfl (hb hby at_115) (by decide) (by decide) gk) ?_
            show Go _ _ _ _ T84 (mkF m 119 #[.val (.int p0), .val (.int p1), .val (.int p2), .val (.int p3), .val (.int p4), .val (.int cc), .val (.int dd), .val (.ref mx), .val (.int kd), .val (.ref my), .unset] [(.int (1 : Int32))])
            refine Go.by (fun _ gk => XS.istore X84.here hx rfl (hb hby at_119) rfl (l' := #[.val (.int p0), .val (.int p1), .val (.int p2), .val (.int p3), .val (.int p4), .val (.int cc), .val (.int dd), .val (.ref mx), .val (.int kd), .val (.ref my), .val (.int (1 : Int32))]) rfl gk) ?_
            show Go _ _ _ _ T84 (mkF m 121 #[.val (.int p0), .val (.int p1), .val (.int p2), .val (.int p3), .val (.int p4), .val (.int cc), .val (.int dd), .val (.ref mx), .val (.int kd), .val (.ref my), .val (.int (1 : Int32))] [])
            refine Go.by (fun _ gk => XS.goto X84.here hx rfl (pc0 := 121) (pc' := 164) rfl (hb hby at_121) (by decide) (by decide) gk) ?_
            show Go _ _ _ _ T84 (mkF m 164 #[.val (.int p0), .val (.int p1), .val (.int p2), .val (.int p3), .val (.int p4), .val (.int cc), .val (.int dd), .val (.ref mx), .val (.int kd), .val (.ref my), .val (.int (1 : Int32))] [])
            refine Go.by (fun _ gk => XS.aload X84.here hx rfl (hb hby at_164) rfl rfl gk) ?_
            show Go _ _ _ _ T84 (mkF m 166 #[.val (.int p0), .val (.int p1), .val (.int p2), .val (.int p3), .val (.int p4), .val (.int cc), .val (.int dd), .val (.ref mx), .val (.int kd), .val (.ref my), .val (.int (1 : Int32))] [(.ref mx)])
            refine Go.by (fun _ gk => XS.aload X84.here hx rfl (hb hby at_166) rfl rfl gk) ?_
            show Go _ _ _ _ T84 (mkF m 168 #[.val (.int p0), .val (.int p1), .val (.int p2), .val (.int p3), .val (.int p4), .val (.int cc), .val (.int dd), .val (.ref mx), .val (.int kd), .val (.ref my), .val (.int (1 : Int32))] [(.ref my), (.ref mx)])
            have F85 : Old Z n0 T68.heap := F59.keep K68 all0
            have F86 : Old Z n0 T78.heap := F85.keep K78 (allS ge_my all0)
            have F87 : Exa Z T68.heap mx "com/example/muster/muster/model/Member" := F62.keep K68
            have F88 : Exa Z T78.heap mx "com/example/muster/muster/model/Member" := F87.keep K78
            have F89 : Fld Z h30 mx "com/example/muster/muster/model/Member" "conversation" "Ljava/lang/String;" (.ref sa) := Q26_1.ext E30
            have F90 : Fld Z T53.heap mx "com/example/muster/muster/model/Member" "conversation" "Ljava/lang/String;" (.ref sa) := F89.keep K53 nin0
            have F91 : Fld Z T68.heap mx "com/example/muster/muster/model/Member" "conversation" "Ljava/lang/String;" (.ref sa) := F90.keep K68 nin0
            have F92 : Fld Z T78.heap mx "com/example/muster/muster/model/Member" "conversation" "Ljava/lang/String;" (.ref sa) := F91.keep K78 (ninS ne_mx_my nin0)
            have F93 : Fld Z h30 mx "com/example/muster/muster/model/Member" "user" "Ljava/lang/String;" (.ref sc) := Q26_2.ext E30
            have F94 : Fld Z T53.heap mx "com/example/muster/muster/model/Member" "user" "Ljava/lang/String;" (.ref sc) := F93.keep K53 nin0
            have F95 : Fld Z T68.heap mx "com/example/muster/muster/model/Member" "user" "Ljava/lang/String;" (.ref sc) := F94.keep K68 nin0
            have F96 : Fld Z T78.heap mx "com/example/muster/muster/model/Member" "user" "Ljava/lang/String;" (.ref sc) := F95.keep K78 (ninS ne_mx_my nin0)
            have F97 : Exa Z T68.heap sa "java/lang/String" := F64.keep K68
            have F98 : Exa Z T78.heap sa "java/lang/String" := F97.keep K78
            have F99 : Fld Z T17.heap sa "java/lang/String" "coder" "B" (.int (0 : Int32)) := Q9_1.keep K17 nin0
            have F100 : Fld Z T26.heap sa "java/lang/String" "coder" "B" (.int (0 : Int32)) := F99.keep K26 (ninS (Ne.symm ne_mx_sa) nin0)
            have F101 : Fld Z h30 sa "java/lang/String" "coder" "B" (.int (0 : Int32)) := F100.ext E30
            have F102 : Fld Z T53.heap sa "java/lang/String" "coder" "B" (.int (0 : Int32)) := F101.keep K53 nin0
            have F103 : Fld Z T68.heap sa "java/lang/String" "coder" "B" (.int (0 : Int32)) := F102.keep K68 nin0
            have F104 : Fld Z T78.heap sa "java/lang/String" "coder" "B" (.int (0 : Int32)) := F103.keep K78 (ninS ne_sa_my nin0)
            have F105 : Fld Z T17.heap sa "java/lang/String" "value" "[B" (.ref sab) := Q9_2.keep K17 nin0
            have F106 : Fld Z T26.heap sa "java/lang/String" "value" "[B" (.ref sab) := F105.keep K26 (ninS (Ne.symm ne_mx_sa) nin0)
            have F107 : Fld Z h30 sa "java/lang/String" "value" "[B" (.ref sab) := F106.ext E30
            have F108 : Fld Z T53.heap sa "java/lang/String" "value" "[B" (.ref sab) := F107.keep K53 nin0
            have F109 : Fld Z T68.heap sa "java/lang/String" "value" "[B" (.ref sab) := F108.keep K68 nin0
            have F110 : Fld Z T78.heap sa "java/lang/String" "value" "[B" (.ref sab) := F109.keep K78 (ninS ne_sa_my nin0)
            have F111 : Arv Z T68.heap sab sak .byte (own_ln p0) (own_str (own_ln p0) (own_ca p0) (own_cb p0)) (.int (0 : Int32)) := F65.keep K68 nin0
            have F112 : Arv Z T78.heap sab sak .byte (own_ln p0) (own_str (own_ln p0) (own_ca p0) (own_cb p0)) (.int (0 : Int32)) := F111.keep K78 (ninS ne_sab_my nin0)
            have F113 : Exa Z T68.heap sc "java/lang/String" := F66.keep K68
            have F114 : Exa Z T78.heap sc "java/lang/String" := F113.keep K78
            have F115 : Fld Z T26.heap sc "java/lang/String" "coder" "B" (.int (0 : Int32)) := Q17_1.keep K26 (ninS (Ne.symm ne_mx_sc) nin0)
            have F116 : Fld Z h30 sc "java/lang/String" "coder" "B" (.int (0 : Int32)) := F115.ext E30
            have F117 : Fld Z T53.heap sc "java/lang/String" "coder" "B" (.int (0 : Int32)) := F116.keep K53 nin0
            have F118 : Fld Z T68.heap sc "java/lang/String" "coder" "B" (.int (0 : Int32)) := F117.keep K68 nin0
            have F119 : Fld Z T78.heap sc "java/lang/String" "coder" "B" (.int (0 : Int32)) := F118.keep K78 (ninS ne_sc_my nin0)
            have F120 : Fld Z T26.heap sc "java/lang/String" "value" "[B" (.ref scb) := Q17_2.keep K26 (ninS (Ne.symm ne_mx_sc) nin0)
            have F121 : Fld Z h30 sc "java/lang/String" "value" "[B" (.ref scb) := F120.ext E30
            have F122 : Fld Z T53.heap sc "java/lang/String" "value" "[B" (.ref scb) := F121.keep K53 nin0
            have F123 : Fld Z T68.heap sc "java/lang/String" "value" "[B" (.ref scb) := F122.keep K68 nin0
            have F124 : Fld Z T78.heap sc "java/lang/String" "value" "[B" (.ref scb) := F123.keep K78 (ninS ne_sc_my nin0)
            have F125 : Arv Z T68.heap scb sck .byte (own_ln p1) (own_str (own_ln p1) (own_ca p1) (own_cb p1)) (.int (0 : Int32)) := F67.keep K68 nin0
            have F126 : Arv Z T78.heap scb sck .byte (own_ln p1) (own_str (own_ln p1) (own_ca p1) (own_cb p1)) (.int (0 : Int32)) := F125.keep K78 (ninS ne_scb_my nin0)
            have F127 : Exa Z T68.heap ta "java/lang/String" := Q53_0.keep K68
            have F128 : Exa Z T78.heap ta "java/lang/String" := F127.keep K78
            have F129 : Fld Z T68.heap ta "java/lang/String" "coder" "B" (.int (0 : Int32)) := Q53_1.keep K68 nin0
            have F130 : Fld Z T78.heap ta "java/lang/String" "coder" "B" (.int (0 : Int32)) := F129.keep K78 (ninS (Ne.symm ne_my_ta) nin0)
            have F131 : Fld Z T68.heap ta "java/lang/String" "value" "[B" (.ref tab) := Q53_2.keep K68 nin0
            have F132 : Fld Z T78.heap ta "java/lang/String" "value" "[B" (.ref tab) := F131.keep K78 (ninS (Ne.symm ne_my_ta) nin0)
            have F133 : Arv Z T68.heap tab tak .byte (own_ln cc) (own_str (own_ln cc) (own_ca cc) (own_cb cc)) (.int (0 : Int32)) := Q53_3.keep K68 nin0
            have F134 : Arv Z T78.heap tab tak .byte (own_ln cc) (own_str (own_ln cc) (own_ca cc) (own_cb cc)) (.int (0 : Int32)) := F133.keep K78 (ninS (Ne.symm (Exa.neArv F72 F133 (hw _ (List.mem_of_getElem? (i := 1) rfl)))) nin0)
            have F135 : Exa Z T78.heap tc "java/lang/String" := Q68_0.keep K78
            have F136 : Fld Z T78.heap tc "java/lang/String" "coder" "B" (.int (0 : Int32)) := Q68_1.keep K78 (ninS (Ne.symm ne_my_tc) nin0)
            have F137 : Fld Z T78.heap tc "java/lang/String" "value" "[B" (.ref tcb) := Q68_2.keep K78 (ninS (Ne.symm ne_my_tc) nin0)
            have F138 : Arv Z T78.heap tcb tck .byte (own_ln dd) (own_str (own_ln dd) (own_ca dd) (own_cb dd)) (.int (0 : Int32)) := Q68_3.keep K78 (ninS (Ne.symm (Exa.neArv F72 Q68_3 (hw _ (List.mem_of_getElem? (i := 1) rfl)))) nin0)
            obtain ⟨cq139, kq139, q139a, q139b, q139c⟩ := isOf hZ68 e84 F88
            obtain ⟨_, _, ⟨T139, L139, k139, n139⟩, -, X139, ⟨Lc139, hQ139, l139, y139, z139⟩, st139⟩ := X84.virtualBack hx (y := (⟨"com/example/muster/muster/model/Member", "equals", "(Ljava/lang/Object;)Z"⟩ : MethodName)) (z := (⟨"com/example/muster/muster/model/Member", "equals", "(Ljava/lang/Object;)Z"⟩ : MethodName)) hown68 (mvT hZ68 (hw _ (List.mem_of_getElem? (i := 74) rfl))) (mvT hZ68 (hw _ (List.mem_of_getElem? (i := 75) rfl))) (notFace_of_selects (args := #[]) (mvT hZ68 (hw _ (List.mem_of_getElem? (i := 77) rfl)))) (mvT hZ68 (hw _ (List.mem_of_getElem? (i := 77) rfl))) (mvT hZ68 (hw _ (List.mem_of_getElem? (i := 76) rfl))) (by decide) (backOf (W := 0) (rmMeM l Z a0 hw [] mx my sa sc ta tc sab scb tab tcb sak sck tak tck p0 p1 cc dd cs T78.heap n0 F82 F86 F88 F92 F96 Q78_0 Q78_1 Q78_2 F98 F104 F110 F112 F114 F119 F124 F126 F128 F130 F132 F134 F135 F136 F137 F138 ne_sa_ta ne_sc_tc S_cs n_cs) hZ68 (hw _ (List.mem_of_getElem? (i := 78) rfl)) (hw _ (List.mem_of_getElem? (i := 2) rfl)) (by decide) (by decide)) q139a q139c (g := (mkF m 168 #[.val (.int p0), .val (.int p1), .val (.int p2), .val (.int p3), .val (.int p4), .val (.int cc), .val (.int dd), .val (.ref mx), .val (.int kd), .val (.ref my), .val (.int (1 : Int32))] [(.ref my), (.ref mx)])) rfl (by rw [hml]; rfl) (Steps.refl _) (argsL := [(.ref my)]) (rest := []) (lenOf pd_308 rfl) rfl (by show 2 * 0 + _ ≤ _; exact Nat.le_of_eq rfl) (hb hby at_168) (fun _ _ => ⟨rfl, e84, (by decide : 26 + 0 ≤ _), (by decide : 52 + 0 ≤ _)⟩)
            dsimp only [Pt.U, Pt.locs, Pt.cells, Pt.slots] at X139 l139 y139 z139 st139 hQ139
            subst l139 y139 z139
            obtain ⟨rr, rfl, N139q, e139, Q139_0⟩ := hQ139
            have N139 := Fr.app N84 N139q
            refine Go.to st139 ?_
            show Go _ _ _ _ T139 (mkF m 171 #[.val (.int p0), .val (.int p1), .val (.int p2), .val (.int p3), .val (.int p4), .val (.int cc), .val (.int dd), .val (.ref mx), .val (.int kd), .val (.ref my), .val (.int (1 : Int32))] [(.int rr)])
            obtain rfl : rr = (1 : Int32) := by
              rcases Q139_0 with ⟨q, hq⟩ | ⟨q, hq⟩
              · exact q
              · exact absurd ⟨(own_se_iff _ _).mpr hA, (own_se_iff _ _).mpr hB⟩ hq
            show Go _ _ _ _ T139 (mkF m 171 #[.val (.int p0), .val (.int p1), .val (.int p2), .val (.int p3), .val (.int p4), .val (.int cc), .val (.int dd), .val (.ref mx), .val (.int kd), .val (.ref my), .val (.int (1 : Int32))] [(.int (1 : Int32))])
            refine Go.by (fun _ gk => XS.iload X139.here hx rfl (hb hby at_171) rfl gk) ?_
            show Go _ _ _ _ T139 (mkF m 173 #[.val (.int p0), .val (.int p1), .val (.int p2), .val (.int p3), .val (.int p4), .val (.int cc), .val (.int dd), .val (.ref mx), .val (.int kd), .val (.ref my), .val (.int (1 : Int32))] [(.int (1 : Int32)), (.int (1 : Int32))])
            refine Go.by (fun _ gk => XS.icmpNo X139.here hx rfl (hb hby at_173) rfl (XT.ii_ne_f rfl) gk) ?_
            show Go _ _ _ _ T139 (mkF m 176 #[.val (.int p0), .val (.int p1), .val (.int p2), .val (.int p3), .val (.int p4), .val (.int cc), .val (.int dd), .val (.ref mx), .val (.int kd), .val (.ref my), .val (.int (1 : Int32))] [])
            refine Go.by (fun _ gk => XT.iconstV X139.here hx rfl (1 : Int32) (hb hby at_176) (by decide) gk) ?_
            show Go _ _ _ _ T139 (mkF m 177 #[.val (.int p0), .val (.int p1), .val (.int p2), .val (.int p3), .val (.int p4), .val (.int cc), .val (.int dd), .val (.ref mx), .val (.int kd), .val (.ref my), .val (.int (1 : Int32))] [(.int (1 : Int32))])
            refine Go.by (fun _ gk => XS.goto X139.here hx rfl (pc0 := 177) (pc' := 181) rfl (hb hby at_177) (by decide) (by decide) gk) ?_
            show Go _ _ _ _ T139 (mkF m 181 #[.val (.int p0), .val (.int p1), .val (.int p2), .val (.int p3), .val (.int p4), .val (.int cc), .val (.int dd), .val (.ref mx), .val (.int kd), .val (.ref my), .val (.int (1 : Int32))] [(.int (1 : Int32))])
            have F140 : T68.heap.size ≤ T78.heap.size := Nat.le_trans (Nat.le_refl T68.heap.size) K78.1
            exact Go.retIW X139 hx Bd.notSynchronized hS68 (by rw [e139]; exact F140) hZ68 hEL (by rw [hh, e139]; exact C79) Bd.returns rfl (by simp) (hb hby at_181) (by rw [e139]; exact ⟨rfl, N139⟩) (by decide) (by decide)
          · show Go _ _ _ _ T84 (mkF m 111 #[.val (.int p0), .val (.int p1), .val (.int p2), .val (.int p3), .val (.int p4), .val (.int cc), .val (.int dd), .val (.ref mx), .val (.int kd), .val (.ref my), .unset] [(.int (0 : Int32))])
            refine Go.by (fun _ gk => XS.ifYes X84.here hx rfl (pc0 := 111) (pc' := 118) rfl (hb hby at_111) rfl (XT.i0_eq_t rfl) (by decide) (by decide) gk) ?_
            show Go _ _ _ _ T84 (mkF m 118 #[.val (.int p0), .val (.int p1), .val (.int p2), .val (.int p3), .val (.int p4), .val (.int cc), .val (.int dd), .val (.ref mx), .val (.int kd), .val (.ref my), .unset] [])
            refine Go.by (fun _ gk => XT.iconstV X84.here hx rfl (0 : Int32) (hb hby at_118) (by decide) gk) ?_
            show Go _ _ _ _ T84 (mkF m 119 #[.val (.int p0), .val (.int p1), .val (.int p2), .val (.int p3), .val (.int p4), .val (.int cc), .val (.int dd), .val (.ref mx), .val (.int kd), .val (.ref my), .unset] [(.int (0 : Int32))])
            refine Go.by (fun _ gk => XS.istore X84.here hx rfl (hb hby at_119) rfl (l' := #[.val (.int p0), .val (.int p1), .val (.int p2), .val (.int p3), .val (.int p4), .val (.int cc), .val (.int dd), .val (.ref mx), .val (.int kd), .val (.ref my), .val (.int (0 : Int32))]) rfl gk) ?_
            show Go _ _ _ _ T84 (mkF m 121 #[.val (.int p0), .val (.int p1), .val (.int p2), .val (.int p3), .val (.int p4), .val (.int cc), .val (.int dd), .val (.ref mx), .val (.int kd), .val (.ref my), .val (.int (0 : Int32))] [])
            refine Go.by (fun _ gk => XS.goto X84.here hx rfl (pc0 := 121) (pc' := 164) rfl (hb hby at_121) (by decide) (by decide) gk) ?_
            show Go _ _ _ _ T84 (mkF m 164 #[.val (.int p0), .val (.int p1), .val (.int p2), .val (.int p3), .val (.int p4), .val (.int cc), .val (.int dd), .val (.ref mx), .val (.int kd), .val (.ref my), .val (.int (0 : Int32))] [])
            refine Go.by (fun _ gk => XS.aload X84.here hx rfl (hb hby at_164) rfl rfl gk) ?_
            show Go _ _ _ _ T84 (mkF m 166 #[.val (.int p0), .val (.int p1), .val (.int p2), .val (.int p3), .val (.int p4), .val (.int cc), .val (.int dd), .val (.ref mx), .val (.int kd), .val (.ref my), .val (.int (0 : Int32))] [(.ref mx)])
            refine Go.by (fun _ gk => XS.aload X84.here hx rfl (hb hby at_166) rfl rfl gk) ?_
            show Go _ _ _ _ T84 (mkF m 168 #[.val (.int p0), .val (.int p1), .val (.int p2), .val (.int p3), .val (.int p4), .val (.int cc), .val (.int dd), .val (.ref mx), .val (.int kd), .val (.ref my), .val (.int (0 : Int32))] [(.ref my), (.ref mx)])
            have F141 : Old Z n0 T68.heap := F59.keep K68 all0
            have F142 : Old Z n0 T78.heap := F141.keep K78 (allS ge_my all0)
            have F143 : Exa Z T68.heap mx "com/example/muster/muster/model/Member" := F62.keep K68
            have F144 : Exa Z T78.heap mx "com/example/muster/muster/model/Member" := F143.keep K78
            have F145 : Fld Z h30 mx "com/example/muster/muster/model/Member" "conversation" "Ljava/lang/String;" (.ref sa) := Q26_1.ext E30
            have F146 : Fld Z T53.heap mx "com/example/muster/muster/model/Member" "conversation" "Ljava/lang/String;" (.ref sa) := F145.keep K53 nin0
            have F147 : Fld Z T68.heap mx "com/example/muster/muster/model/Member" "conversation" "Ljava/lang/String;" (.ref sa) := F146.keep K68 nin0
            have F148 : Fld Z T78.heap mx "com/example/muster/muster/model/Member" "conversation" "Ljava/lang/String;" (.ref sa) := F147.keep K78 (ninS ne_mx_my nin0)
            have F149 : Fld Z h30 mx "com/example/muster/muster/model/Member" "user" "Ljava/lang/String;" (.ref sc) := Q26_2.ext E30
            have F150 : Fld Z T53.heap mx "com/example/muster/muster/model/Member" "user" "Ljava/lang/String;" (.ref sc) := F149.keep K53 nin0
            have F151 : Fld Z T68.heap mx "com/example/muster/muster/model/Member" "user" "Ljava/lang/String;" (.ref sc) := F150.keep K68 nin0
            have F152 : Fld Z T78.heap mx "com/example/muster/muster/model/Member" "user" "Ljava/lang/String;" (.ref sc) := F151.keep K78 (ninS ne_mx_my nin0)
            have F153 : Exa Z T68.heap sa "java/lang/String" := F64.keep K68
            have F154 : Exa Z T78.heap sa "java/lang/String" := F153.keep K78
            have F155 : Fld Z T17.heap sa "java/lang/String" "coder" "B" (.int (0 : Int32)) := Q9_1.keep K17 nin0
            have F156 : Fld Z T26.heap sa "java/lang/String" "coder" "B" (.int (0 : Int32)) := F155.keep K26 (ninS (Ne.symm ne_mx_sa) nin0)
            have F157 : Fld Z h30 sa "java/lang/String" "coder" "B" (.int (0 : Int32)) := F156.ext E30
            have F158 : Fld Z T53.heap sa "java/lang/String" "coder" "B" (.int (0 : Int32)) := F157.keep K53 nin0
            have F159 : Fld Z T68.heap sa "java/lang/String" "coder" "B" (.int (0 : Int32)) := F158.keep K68 nin0
            have F160 : Fld Z T78.heap sa "java/lang/String" "coder" "B" (.int (0 : Int32)) := F159.keep K78 (ninS ne_sa_my nin0)
            have F161 : Fld Z T17.heap sa "java/lang/String" "value" "[B" (.ref sab) := Q9_2.keep K17 nin0
            have F162 : Fld Z T26.heap sa "java/lang/String" "value" "[B" (.ref sab) := F161.keep K26 (ninS (Ne.symm ne_mx_sa) nin0)
            have F163 : Fld Z h30 sa "java/lang/String" "value" "[B" (.ref sab) := F162.ext E30
            have F164 : Fld Z T53.heap sa "java/lang/String" "value" "[B" (.ref sab) := F163.keep K53 nin0
            have F165 : Fld Z T68.heap sa "java/lang/String" "value" "[B" (.ref sab) := F164.keep K68 nin0
            have F166 : Fld Z T78.heap sa "java/lang/String" "value" "[B" (.ref sab) := F165.keep K78 (ninS ne_sa_my nin0)
            have F167 : Arv Z T68.heap sab sak .byte (own_ln p0) (own_str (own_ln p0) (own_ca p0) (own_cb p0)) (.int (0 : Int32)) := F65.keep K68 nin0
            have F168 : Arv Z T78.heap sab sak .byte (own_ln p0) (own_str (own_ln p0) (own_ca p0) (own_cb p0)) (.int (0 : Int32)) := F167.keep K78 (ninS ne_sab_my nin0)
            have F169 : Exa Z T68.heap sc "java/lang/String" := F66.keep K68
            have F170 : Exa Z T78.heap sc "java/lang/String" := F169.keep K78
            have F171 : Fld Z T26.heap sc "java/lang/String" "coder" "B" (.int (0 : Int32)) := Q17_1.keep K26 (ninS (Ne.symm ne_mx_sc) nin0)
            have F172 : Fld Z h30 sc "java/lang/String" "coder" "B" (.int (0 : Int32)) := F171.ext E30
            have F173 : Fld Z T53.heap sc "java/lang/String" "coder" "B" (.int (0 : Int32)) := F172.keep K53 nin0
            have F174 : Fld Z T68.heap sc "java/lang/String" "coder" "B" (.int (0 : Int32)) := F173.keep K68 nin0
            have F175 : Fld Z T78.heap sc "java/lang/String" "coder" "B" (.int (0 : Int32)) := F174.keep K78 (ninS ne_sc_my nin0)
            have F176 : Fld Z T26.heap sc "java/lang/String" "value" "[B" (.ref scb) := Q17_2.keep K26 (ninS (Ne.symm ne_mx_sc) nin0)
            have F177 : Fld Z h30 sc "java/lang/String" "value" "[B" (.ref scb) := F176.ext E30
            have F178 : Fld Z T53.heap sc "java/lang/String" "value" "[B" (.ref scb) := F177.keep K53 nin0
            have F179 : Fld Z T68.heap sc "java/lang/String" "value" "[B" (.ref scb) := F178.keep K68 nin0
            have F180 : Fld Z T78.heap sc "java/lang/String" "value" "[B" (.ref scb) := F179.keep K78 (ninS ne_sc_my nin0)
            have F181 : Arv Z T68.heap scb sck .byte (own_ln p1) (own_str (own_ln p1) (own_ca p1) (own_cb p1)) (.int (0 : Int32)) := F67.keep K68 nin0
            have F182 : Arv Z T78.heap scb sck .byte (own_ln p1) (own_str (own_ln p1) (own_ca p1) (own_cb p1)) (.int (0 : Int32)) := F181.keep K78 (ninS ne_scb_my nin0)
            have F183 : Exa Z T68.heap ta "java/lang/String" := Q53_0.keep K68
            have F184 : Exa Z T78.heap ta "java/lang/String" := F183.keep K78
            have F185 : Fld Z T68.heap ta "java/lang/String" "coder" "B" (.int (0 : Int32)) := Q53_1.keep K68 nin0
            have F186 : Fld Z T78.heap ta "java/lang/String" "coder" "B" (.int (0 : Int32)) := F185.keep K78 (ninS (Ne.symm ne_my_ta) nin0)
            have F187 : Fld Z T68.heap ta "java/lang/String" "value" "[B" (.ref tab) := Q53_2.keep K68 nin0
            have F188 : Fld Z T78.heap ta "java/lang/String" "value" "[B" (.ref tab) := F187.keep K78 (ninS (Ne.symm ne_my_ta) nin0)
            have F189 : Arv Z T68.heap tab tak .byte (own_ln cc) (own_str (own_ln cc) (own_ca cc) (own_cb cc)) (.int (0 : Int32)) := Q53_3.keep K68 nin0
            have F190 : Arv Z T78.heap tab tak .byte (own_ln cc) (own_str (own_ln cc) (own_ca cc) (own_cb cc)) (.int (0 : Int32)) := F189.keep K78 (ninS (Ne.symm (Exa.neArv F72 F189 (hw _ (List.mem_of_getElem? (i := 1) rfl)))) nin0)
            have F191 : Exa Z T78.heap tc "java/lang/String" := Q68_0.keep K78
            have F192 : Fld Z T78.heap tc "java/lang/String" "coder" "B" (.int (0 : Int32)) := Q68_1.keep K78 (ninS (Ne.symm ne_my_tc) nin0)
            have F193 : Fld Z T78.heap tc "java/lang/String" "value" "[B" (.ref tcb) := Q68_2.keep K78 (ninS (Ne.symm ne_my_tc) nin0)
            have F194 : Arv Z T78.heap tcb tck .byte (own_ln dd) (own_str (own_ln dd) (own_ca dd) (own_cb dd)) (.int (0 : Int32)) := Q68_3.keep K78 (ninS (Ne.symm (Exa.neArv F72 Q68_3 (hw _ (List.mem_of_getElem? (i := 1) rfl)))) nin0)
            obtain ⟨cq195, kq195, q195a, q195b, q195c⟩ := isOf hZ68 e84 F144
            obtain ⟨_, _, ⟨T195, L195, k195, n195⟩, -, X195, ⟨Lc195, hQ195, l195, y195, z195⟩, st195⟩ := X84.virtualBack hx (y := (⟨"com/example/muster/muster/model/Member", "equals", "(Ljava/lang/Object;)Z"⟩ : MethodName)) (z := (⟨"com/example/muster/muster/model/Member", "equals", "(Ljava/lang/Object;)Z"⟩ : MethodName)) hown68 (mvT hZ68 (hw _ (List.mem_of_getElem? (i := 74) rfl))) (mvT hZ68 (hw _ (List.mem_of_getElem? (i := 75) rfl))) (notFace_of_selects (args := #[]) (mvT hZ68 (hw _ (List.mem_of_getElem? (i := 77) rfl)))) (mvT hZ68 (hw _ (List.mem_of_getElem? (i := 77) rfl))) (mvT hZ68 (hw _ (List.mem_of_getElem? (i := 76) rfl))) (by decide) (backOf (W := 0) (rmMeM l Z a0 hw [] mx my sa sc ta tc sab scb tab tcb sak sck tak tck p0 p1 cc dd cs T78.heap n0 F82 F142 F144 F148 F152 Q78_0 Q78_1 Q78_2 F154 F160 F166 F168 F170 F175 F180 F182 F184 F186 F188 F190 F191 F192 F193 F194 ne_sa_ta ne_sc_tc S_cs n_cs) hZ68 (hw _ (List.mem_of_getElem? (i := 78) rfl)) (hw _ (List.mem_of_getElem? (i := 2) rfl)) (by decide) (by decide)) q195a q195c (g := (mkF m 168 #[.val (.int p0), .val (.int p1), .val (.int p2), .val (.int p3), .val (.int p4), .val (.int cc), .val (.int dd), .val (.ref mx), .val (.int kd), .val (.ref my), .val (.int (0 : Int32))] [(.ref my), (.ref mx)])) rfl (by rw [hml]; rfl) (Steps.refl _) (argsL := [(.ref my)]) (rest := []) (lenOf pd_308 rfl) rfl (by show 2 * 0 + _ ≤ _; exact Nat.le_of_eq rfl) (hb hby at_168) (fun _ _ => ⟨rfl, e84, (by decide : 26 + 0 ≤ _), (by decide : 52 + 0 ≤ _)⟩)
            dsimp only [Pt.U, Pt.locs, Pt.cells, Pt.slots] at X195 l195 y195 z195 st195 hQ195
            subst l195 y195 z195
            obtain ⟨rr, rfl, N195q, e195, Q195_0⟩ := hQ195
            have N195 := Fr.app N84 N195q
            refine Go.to st195 ?_
            show Go _ _ _ _ T195 (mkF m 171 #[.val (.int p0), .val (.int p1), .val (.int p2), .val (.int p3), .val (.int p4), .val (.int cc), .val (.int dd), .val (.ref mx), .val (.int kd), .val (.ref my), .val (.int (0 : Int32))] [(.int rr)])
            obtain rfl : rr = (0 : Int32) := by
              rcases Q195_0 with ⟨q, hq⟩ | ⟨q, hq⟩
              · exact absurd hq (fun z => hB ((own_se_iff _ _).mp z.2))
              · exact q
            show Go _ _ _ _ T195 (mkF m 171 #[.val (.int p0), .val (.int p1), .val (.int p2), .val (.int p3), .val (.int p4), .val (.int cc), .val (.int dd), .val (.ref mx), .val (.int kd), .val (.ref my), .val (.int (0 : Int32))] [(.int (0 : Int32))])
            refine Go.by (fun _ gk => XS.iload X195.here hx rfl (hb hby at_171) rfl gk) ?_
            show Go _ _ _ _ T195 (mkF m 173 #[.val (.int p0), .val (.int p1), .val (.int p2), .val (.int p3), .val (.int p4), .val (.int cc), .val (.int dd), .val (.ref mx), .val (.int kd), .val (.ref my), .val (.int (0 : Int32))] [(.int (0 : Int32)), (.int (0 : Int32))])
            refine Go.by (fun _ gk => XS.icmpNo X195.here hx rfl (hb hby at_173) rfl (XT.ii_ne_f rfl) gk) ?_
            show Go _ _ _ _ T195 (mkF m 176 #[.val (.int p0), .val (.int p1), .val (.int p2), .val (.int p3), .val (.int p4), .val (.int cc), .val (.int dd), .val (.ref mx), .val (.int kd), .val (.ref my), .val (.int (0 : Int32))] [])
            refine Go.by (fun _ gk => XT.iconstV X195.here hx rfl (1 : Int32) (hb hby at_176) (by decide) gk) ?_
            show Go _ _ _ _ T195 (mkF m 177 #[.val (.int p0), .val (.int p1), .val (.int p2), .val (.int p3), .val (.int p4), .val (.int cc), .val (.int dd), .val (.ref mx), .val (.int kd), .val (.ref my), .val (.int (0 : Int32))] [(.int (1 : Int32))])
            refine Go.by (fun _ gk => XS.goto X195.here hx rfl (pc0 := 177) (pc' := 181) rfl (hb hby at_177) (by decide) (by decide) gk) ?_
            show Go _ _ _ _ T195 (mkF m 181 #[.val (.int p0), .val (.int p1), .val (.int p2), .val (.int p3), .val (.int p4), .val (.int cc), .val (.int dd), .val (.ref mx), .val (.int kd), .val (.ref my), .val (.int (0 : Int32))] [(.int (1 : Int32))])
            have F196 : T68.heap.size ≤ T78.heap.size := Nat.le_trans (Nat.le_refl T68.heap.size) K78.1
            exact Go.retIW X195 hx Bd.notSynchronized hS68 (by rw [e195]; exact F196) hZ68 hEL (by rw [hh, e195]; exact C79) Bd.returns rfl (by simp) (hb hby at_181) (by rw [e195]; exact ⟨rfl, N195⟩) (by decide) (by decide)
        · show Go _ _ _ _ T83 (mkF m 102 #[.val (.int p0), .val (.int p1), .val (.int p2), .val (.int p3), .val (.int p4), .val (.int cc), .val (.int dd), .val (.ref mx), .val (.int kd), .val (.ref my), .unset] [(.int (0 : Int32))])
          refine Go.by (fun _ gk => XS.ifYes X83.here hx rfl (pc0 := 102) (pc' := 118) rfl (hb hby at_102) rfl (XT.i0_eq_t rfl) (by decide) (by decide) gk) ?_
          show Go _ _ _ _ T83 (mkF m 118 #[.val (.int p0), .val (.int p1), .val (.int p2), .val (.int p3), .val (.int p4), .val (.int cc), .val (.int dd), .val (.ref mx), .val (.int kd), .val (.ref my), .unset] [])
          refine Go.by (fun _ gk => XT.iconstV X83.here hx rfl (0 : Int32) (hb hby at_118) (by decide) gk) ?_
          show Go _ _ _ _ T83 (mkF m 119 #[.val (.int p0), .val (.int p1), .val (.int p2), .val (.int p3), .val (.int p4), .val (.int cc), .val (.int dd), .val (.ref mx), .val (.int kd), .val (.ref my), .unset] [(.int (0 : Int32))])
          refine Go.by (fun _ gk => XS.istore X83.here hx rfl (hb hby at_119) rfl (l' := #[.val (.int p0), .val (.int p1), .val (.int p2), .val (.int p3), .val (.int p4), .val (.int cc), .val (.int dd), .val (.ref mx), .val (.int kd), .val (.ref my), .val (.int (0 : Int32))]) rfl gk) ?_
          show Go _ _ _ _ T83 (mkF m 121 #[.val (.int p0), .val (.int p1), .val (.int p2), .val (.int p3), .val (.int p4), .val (.int cc), .val (.int dd), .val (.ref mx), .val (.int kd), .val (.ref my), .val (.int (0 : Int32))] [])
          refine Go.by (fun _ gk => XS.goto X83.here hx rfl (pc0 := 121) (pc' := 164) rfl (hb hby at_121) (by decide) (by decide) gk) ?_
          show Go _ _ _ _ T83 (mkF m 164 #[.val (.int p0), .val (.int p1), .val (.int p2), .val (.int p3), .val (.int p4), .val (.int cc), .val (.int dd), .val (.ref mx), .val (.int kd), .val (.ref my), .val (.int (0 : Int32))] [])
          refine Go.by (fun _ gk => XS.aload X83.here hx rfl (hb hby at_164) rfl rfl gk) ?_
          show Go _ _ _ _ T83 (mkF m 166 #[.val (.int p0), .val (.int p1), .val (.int p2), .val (.int p3), .val (.int p4), .val (.int cc), .val (.int dd), .val (.ref mx), .val (.int kd), .val (.ref my), .val (.int (0 : Int32))] [(.ref mx)])
          refine Go.by (fun _ gk => XS.aload X83.here hx rfl (hb hby at_166) rfl rfl gk) ?_
          show Go _ _ _ _ T83 (mkF m 168 #[.val (.int p0), .val (.int p1), .val (.int p2), .val (.int p3), .val (.int p4), .val (.int cc), .val (.int dd), .val (.ref mx), .val (.int kd), .val (.ref my), .val (.int (0 : Int32))] [(.ref my), (.ref mx)])
          have F197 : Old Z n0 T68.heap := F59.keep K68 all0
          have F198 : Old Z n0 T78.heap := F197.keep K78 (allS ge_my all0)
          have F199 : Exa Z T68.heap mx "com/example/muster/muster/model/Member" := F62.keep K68
          have F200 : Exa Z T78.heap mx "com/example/muster/muster/model/Member" := F199.keep K78
          have F201 : Fld Z h30 mx "com/example/muster/muster/model/Member" "conversation" "Ljava/lang/String;" (.ref sa) := Q26_1.ext E30
          have F202 : Fld Z T53.heap mx "com/example/muster/muster/model/Member" "conversation" "Ljava/lang/String;" (.ref sa) := F201.keep K53 nin0
          have F203 : Fld Z T68.heap mx "com/example/muster/muster/model/Member" "conversation" "Ljava/lang/String;" (.ref sa) := F202.keep K68 nin0
          have F204 : Fld Z T78.heap mx "com/example/muster/muster/model/Member" "conversation" "Ljava/lang/String;" (.ref sa) := F203.keep K78 (ninS ne_mx_my nin0)
          have F205 : Fld Z h30 mx "com/example/muster/muster/model/Member" "user" "Ljava/lang/String;" (.ref sc) := Q26_2.ext E30
          have F206 : Fld Z T53.heap mx "com/example/muster/muster/model/Member" "user" "Ljava/lang/String;" (.ref sc) := F205.keep K53 nin0
          have F207 : Fld Z T68.heap mx "com/example/muster/muster/model/Member" "user" "Ljava/lang/String;" (.ref sc) := F206.keep K68 nin0
          have F208 : Fld Z T78.heap mx "com/example/muster/muster/model/Member" "user" "Ljava/lang/String;" (.ref sc) := F207.keep K78 (ninS ne_mx_my nin0)
          have F209 : Exa Z T68.heap sa "java/lang/String" := F64.keep K68
          have F210 : Exa Z T78.heap sa "java/lang/String" := F209.keep K78
          have F211 : Fld Z T17.heap sa "java/lang/String" "coder" "B" (.int (0 : Int32)) := Q9_1.keep K17 nin0
          have F212 : Fld Z T26.heap sa "java/lang/String" "coder" "B" (.int (0 : Int32)) := F211.keep K26 (ninS (Ne.symm ne_mx_sa) nin0)
          have F213 : Fld Z h30 sa "java/lang/String" "coder" "B" (.int (0 : Int32)) := F212.ext E30
          have F214 : Fld Z T53.heap sa "java/lang/String" "coder" "B" (.int (0 : Int32)) := F213.keep K53 nin0
          have F215 : Fld Z T68.heap sa "java/lang/String" "coder" "B" (.int (0 : Int32)) := F214.keep K68 nin0
          have F216 : Fld Z T78.heap sa "java/lang/String" "coder" "B" (.int (0 : Int32)) := F215.keep K78 (ninS ne_sa_my nin0)
          have F217 : Fld Z T17.heap sa "java/lang/String" "value" "[B" (.ref sab) := Q9_2.keep K17 nin0
          have F218 : Fld Z T26.heap sa "java/lang/String" "value" "[B" (.ref sab) := F217.keep K26 (ninS (Ne.symm ne_mx_sa) nin0)
          have F219 : Fld Z h30 sa "java/lang/String" "value" "[B" (.ref sab) := F218.ext E30
          have F220 : Fld Z T53.heap sa "java/lang/String" "value" "[B" (.ref sab) := F219.keep K53 nin0
          have F221 : Fld Z T68.heap sa "java/lang/String" "value" "[B" (.ref sab) := F220.keep K68 nin0
          have F222 : Fld Z T78.heap sa "java/lang/String" "value" "[B" (.ref sab) := F221.keep K78 (ninS ne_sa_my nin0)
          have F223 : Arv Z T68.heap sab sak .byte (own_ln p0) (own_str (own_ln p0) (own_ca p0) (own_cb p0)) (.int (0 : Int32)) := F65.keep K68 nin0
          have F224 : Arv Z T78.heap sab sak .byte (own_ln p0) (own_str (own_ln p0) (own_ca p0) (own_cb p0)) (.int (0 : Int32)) := F223.keep K78 (ninS ne_sab_my nin0)
          have F225 : Exa Z T68.heap sc "java/lang/String" := F66.keep K68
          have F226 : Exa Z T78.heap sc "java/lang/String" := F225.keep K78
          have F227 : Fld Z T26.heap sc "java/lang/String" "coder" "B" (.int (0 : Int32)) := Q17_1.keep K26 (ninS (Ne.symm ne_mx_sc) nin0)
          have F228 : Fld Z h30 sc "java/lang/String" "coder" "B" (.int (0 : Int32)) := F227.ext E30
          have F229 : Fld Z T53.heap sc "java/lang/String" "coder" "B" (.int (0 : Int32)) := F228.keep K53 nin0
          have F230 : Fld Z T68.heap sc "java/lang/String" "coder" "B" (.int (0 : Int32)) := F229.keep K68 nin0
          have F231 : Fld Z T78.heap sc "java/lang/String" "coder" "B" (.int (0 : Int32)) := F230.keep K78 (ninS ne_sc_my nin0)
          have F232 : Fld Z T26.heap sc "java/lang/String" "value" "[B" (.ref scb) := Q17_2.keep K26 (ninS (Ne.symm ne_mx_sc) nin0)
          have F233 : Fld Z h30 sc "java/lang/String" "value" "[B" (.ref scb) := F232.ext E30
          have F234 : Fld Z T53.heap sc "java/lang/String" "value" "[B" (.ref scb) := F233.keep K53 nin0
          have F235 : Fld Z T68.heap sc "java/lang/String" "value" "[B" (.ref scb) := F234.keep K68 nin0
          have F236 : Fld Z T78.heap sc "java/lang/String" "value" "[B" (.ref scb) := F235.keep K78 (ninS ne_sc_my nin0)
          have F237 : Arv Z T68.heap scb sck .byte (own_ln p1) (own_str (own_ln p1) (own_ca p1) (own_cb p1)) (.int (0 : Int32)) := F67.keep K68 nin0
          have F238 : Arv Z T78.heap scb sck .byte (own_ln p1) (own_str (own_ln p1) (own_ca p1) (own_cb p1)) (.int (0 : Int32)) := F237.keep K78 (ninS ne_scb_my nin0)
          have F239 : Exa Z T68.heap ta "java/lang/String" := Q53_0.keep K68
          have F240 : Exa Z T78.heap ta "java/lang/String" := F239.keep K78
          have F241 : Fld Z T68.heap ta "java/lang/String" "coder" "B" (.int (0 : Int32)) := Q53_1.keep K68 nin0
          have F242 : Fld Z T78.heap ta "java/lang/String" "coder" "B" (.int (0 : Int32)) := F241.keep K78 (ninS (Ne.symm ne_my_ta) nin0)
          have F243 : Fld Z T68.heap ta "java/lang/String" "value" "[B" (.ref tab) := Q53_2.keep K68 nin0
          have F244 : Fld Z T78.heap ta "java/lang/String" "value" "[B" (.ref tab) := F243.keep K78 (ninS (Ne.symm ne_my_ta) nin0)
          have F245 : Arv Z T68.heap tab tak .byte (own_ln cc) (own_str (own_ln cc) (own_ca cc) (own_cb cc)) (.int (0 : Int32)) := Q53_3.keep K68 nin0
          have F246 : Arv Z T78.heap tab tak .byte (own_ln cc) (own_str (own_ln cc) (own_ca cc) (own_cb cc)) (.int (0 : Int32)) := F245.keep K78 (ninS (Ne.symm (Exa.neArv F72 F245 (hw _ (List.mem_of_getElem? (i := 1) rfl)))) nin0)
          have F247 : Exa Z T78.heap tc "java/lang/String" := Q68_0.keep K78
          have F248 : Fld Z T78.heap tc "java/lang/String" "coder" "B" (.int (0 : Int32)) := Q68_1.keep K78 (ninS (Ne.symm ne_my_tc) nin0)
          have F249 : Fld Z T78.heap tc "java/lang/String" "value" "[B" (.ref tcb) := Q68_2.keep K78 (ninS (Ne.symm ne_my_tc) nin0)
          have F250 : Arv Z T78.heap tcb tck .byte (own_ln dd) (own_str (own_ln dd) (own_ca dd) (own_cb dd)) (.int (0 : Int32)) := Q68_3.keep K78 (ninS (Ne.symm (Exa.neArv F72 Q68_3 (hw _ (List.mem_of_getElem? (i := 1) rfl)))) nin0)
          obtain ⟨cq251, kq251, q251a, q251b, q251c⟩ := isOf hZ68 e83 F200
          obtain ⟨_, _, ⟨T251, L251, k251, n251⟩, -, X251, ⟨Lc251, hQ251, l251, y251, z251⟩, st251⟩ := X83.virtualBack hx (y := (⟨"com/example/muster/muster/model/Member", "equals", "(Ljava/lang/Object;)Z"⟩ : MethodName)) (z := (⟨"com/example/muster/muster/model/Member", "equals", "(Ljava/lang/Object;)Z"⟩ : MethodName)) hown68 (mvT hZ68 (hw _ (List.mem_of_getElem? (i := 74) rfl))) (mvT hZ68 (hw _ (List.mem_of_getElem? (i := 75) rfl))) (notFace_of_selects (args := #[]) (mvT hZ68 (hw _ (List.mem_of_getElem? (i := 77) rfl)))) (mvT hZ68 (hw _ (List.mem_of_getElem? (i := 77) rfl))) (mvT hZ68 (hw _ (List.mem_of_getElem? (i := 76) rfl))) (by decide) (backOf (W := 0) (rmMeM l Z a0 hw [] mx my sa sc ta tc sab scb tab tcb sak sck tak tck p0 p1 cc dd cs T78.heap n0 F82 F198 F200 F204 F208 Q78_0 Q78_1 Q78_2 F210 F216 F222 F224 F226 F231 F236 F238 F240 F242 F244 F246 F247 F248 F249 F250 ne_sa_ta ne_sc_tc S_cs n_cs) hZ68 (hw _ (List.mem_of_getElem? (i := 78) rfl)) (hw _ (List.mem_of_getElem? (i := 2) rfl)) (by decide) (by decide)) q251a q251c (g := (mkF m 168 #[.val (.int p0), .val (.int p1), .val (.int p2), .val (.int p3), .val (.int p4), .val (.int cc), .val (.int dd), .val (.ref mx), .val (.int kd), .val (.ref my), .val (.int (0 : Int32))] [(.ref my), (.ref mx)])) rfl (by rw [hml]; rfl) (Steps.refl _) (argsL := [(.ref my)]) (rest := []) (lenOf pd_308 rfl) rfl (by show 2 * 0 + _ ≤ _; exact Nat.le_of_eq rfl) (hb hby at_168) (fun _ _ => ⟨rfl, e83, (by decide : 26 + 0 ≤ _), (by decide : 52 + 0 ≤ _)⟩)
          dsimp only [Pt.U, Pt.locs, Pt.cells, Pt.slots] at X251 l251 y251 z251 st251 hQ251
          subst l251 y251 z251
          obtain ⟨rr, rfl, N251q, e251, Q251_0⟩ := hQ251
          have N251 := Fr.app N83 N251q
          refine Go.to st251 ?_
          show Go _ _ _ _ T251 (mkF m 171 #[.val (.int p0), .val (.int p1), .val (.int p2), .val (.int p3), .val (.int p4), .val (.int cc), .val (.int dd), .val (.ref mx), .val (.int kd), .val (.ref my), .val (.int (0 : Int32))] [(.int rr)])
          obtain rfl : rr = (0 : Int32) := by
            rcases Q251_0 with ⟨q, hq⟩ | ⟨q, hq⟩
            · exact absurd hq (fun z => hA ((own_se_iff _ _).mp z.1))
            · exact q
          show Go _ _ _ _ T251 (mkF m 171 #[.val (.int p0), .val (.int p1), .val (.int p2), .val (.int p3), .val (.int p4), .val (.int cc), .val (.int dd), .val (.ref mx), .val (.int kd), .val (.ref my), .val (.int (0 : Int32))] [(.int (0 : Int32))])
          refine Go.by (fun _ gk => XS.iload X251.here hx rfl (hb hby at_171) rfl gk) ?_
          show Go _ _ _ _ T251 (mkF m 173 #[.val (.int p0), .val (.int p1), .val (.int p2), .val (.int p3), .val (.int p4), .val (.int cc), .val (.int dd), .val (.ref mx), .val (.int kd), .val (.ref my), .val (.int (0 : Int32))] [(.int (0 : Int32)), (.int (0 : Int32))])
          refine Go.by (fun _ gk => XS.icmpNo X251.here hx rfl (hb hby at_173) rfl (XT.ii_ne_f rfl) gk) ?_
          show Go _ _ _ _ T251 (mkF m 176 #[.val (.int p0), .val (.int p1), .val (.int p2), .val (.int p3), .val (.int p4), .val (.int cc), .val (.int dd), .val (.ref mx), .val (.int kd), .val (.ref my), .val (.int (0 : Int32))] [])
          refine Go.by (fun _ gk => XT.iconstV X251.here hx rfl (1 : Int32) (hb hby at_176) (by decide) gk) ?_
          show Go _ _ _ _ T251 (mkF m 177 #[.val (.int p0), .val (.int p1), .val (.int p2), .val (.int p3), .val (.int p4), .val (.int cc), .val (.int dd), .val (.ref mx), .val (.int kd), .val (.ref my), .val (.int (0 : Int32))] [(.int (1 : Int32))])
          refine Go.by (fun _ gk => XS.goto X251.here hx rfl (pc0 := 177) (pc' := 181) rfl (hb hby at_177) (by decide) (by decide) gk) ?_
          show Go _ _ _ _ T251 (mkF m 181 #[.val (.int p0), .val (.int p1), .val (.int p2), .val (.int p3), .val (.int p4), .val (.int cc), .val (.int dd), .val (.ref mx), .val (.int kd), .val (.ref my), .val (.int (0 : Int32))] [(.int (1 : Int32))])
          have F252 : T68.heap.size ≤ T78.heap.size := Nat.le_trans (Nat.le_refl T68.heap.size) K78.1
          exact Go.retIW X251 hx Bd.notSynchronized hS68 (by rw [e251]; exact F252) hZ68 hEL (by rw [hh, e251]; exact C79) Bd.returns rfl (by simp) (hb hby at_181) (by rw [e251]; exact ⟨rfl, N251⟩) (by decide) (by decide)
      · refine Go.by (fun _ gk => XS.ifYes X26.here hx rfl (pc0 := 74) (pc' := 124) rfl (hb hby at_74) rfl (XT.i0_ne_t hb29) (by decide) (by decide) gk) ?_
        show Go _ _ _ _ T26 (mkF m 124 #[.val (.int p0), .val (.int p1), .val (.int p2), .val (.int p3), .val (.int p4), .val (.int cc), .val (.int dd), .val (.ref mx), .val (.int kd), .unset, .unset] [])
        refine Go.by (fun _ gk => XS.iload X26.here hx rfl (hb hby at_124) rfl gk) ?_
        show Go _ _ _ _ T26 (mkF m 126 #[.val (.int p0), .val (.int p1), .val (.int p2), .val (.int p3), .val (.int p4), .val (.int cc), .val (.int dd), .val (.ref mx), .val (.int kd), .unset, .unset] [(.int kd)])
        refine Go.by (fun _ gk => XT.iconstV X26.here hx rfl (1 : Int32) (hb hby at_126) (by decide) gk) ?_
        show Go _ _ _ _ T26 (mkF m 127 #[.val (.int p0), .val (.int p1), .val (.int p2), .val (.int p3), .val (.int p4), .val (.int cc), .val (.int dd), .val (.ref mx), .val (.int kd), .unset, .unset] [(.int (1 : Int32)), (.int kd)])
        by_cases hb253 : kd = (1 : Int32)
        · refine Go.by (fun _ gk => XS.icmpNo X26.here hx rfl (hb hby at_127) rfl (XT.ii_ne_f hb253) gk) ?_
          show Go _ _ _ _ T26 (mkF m 130 #[.val (.int p0), .val (.int p1), .val (.int p2), .val (.int p3), .val (.int p4), .val (.int cc), .val (.int dd), .val (.ref mx), .val (.int kd), .unset, .unset] [])
          refine Go.by (fun _ gk => XS.aconstNull X26.here hx rfl (hb hby at_130) gk) ?_
          show Go _ _ _ _ T26 (mkF m 131 #[.val (.int p0), .val (.int p1), .val (.int p2), .val (.int p3), .val (.int p4), .val (.int cc), .val (.int dd), .val (.ref mx), .val (.int kd), .unset, .unset] [.null])
          refine Go.by (fun _ gk => XS.astore X26.here hx rfl (hb hby at_131) rfl rfl (l' := #[.val (.int p0), .val (.int p1), .val (.int p2), .val (.int p3), .val (.int p4), .val (.int cc), .val (.int dd), .val (.ref mx), .val (.int kd), .val .null, .unset]) rfl gk) ?_
          show Go _ _ _ _ T26 (mkF m 133 #[.val (.int p0), .val (.int p1), .val (.int p2), .val (.int p3), .val (.int p4), .val (.int cc), .val (.int dd), .val (.ref mx), .val (.int kd), .val .null, .unset] [])
          refine Go.by (fun _ gk => XT.iconstV X26.here hx rfl (0 : Int32) (hb hby at_133) (by decide) gk) ?_
          show Go _ _ _ _ T26 (mkF m 134 #[.val (.int p0), .val (.int p1), .val (.int p2), .val (.int p3), .val (.int p4), .val (.int cc), .val (.int dd), .val (.ref mx), .val (.int kd), .val .null, .unset] [(.int (0 : Int32))])
          refine Go.by (fun _ gk => XS.istore X26.here hx rfl (hb hby at_134) rfl (l' := #[.val (.int p0), .val (.int p1), .val (.int p2), .val (.int p3), .val (.int p4), .val (.int cc), .val (.int dd), .val (.ref mx), .val (.int kd), .val .null, .val (.int (0 : Int32))]) rfl gk) ?_
          show Go _ _ _ _ T26 (mkF m 136 #[.val (.int p0), .val (.int p1), .val (.int p2), .val (.int p3), .val (.int p4), .val (.int cc), .val (.int dd), .val (.ref mx), .val (.int kd), .val .null, .val (.int (0 : Int32))] [])
          refine Go.by (fun _ gk => XS.goto X26.here hx rfl (pc0 := 136) (pc' := 164) rfl (hb hby at_136) (by decide) (by decide) gk) ?_
          show Go _ _ _ _ T26 (mkF m 164 #[.val (.int p0), .val (.int p1), .val (.int p2), .val (.int p3), .val (.int p4), .val (.int cc), .val (.int dd), .val (.ref mx), .val (.int kd), .val .null, .val (.int (0 : Int32))] [])
          refine Go.by (fun _ gk => XS.aload X26.here hx rfl (hb hby at_164) rfl rfl gk) ?_
          show Go _ _ _ _ T26 (mkF m 166 #[.val (.int p0), .val (.int p1), .val (.int p2), .val (.int p3), .val (.int p4), .val (.int cc), .val (.int dd), .val (.ref mx), .val (.int kd), .val .null, .val (.int (0 : Int32))] [(.ref mx)])
          refine Go.by (fun _ gk => XS.aload X26.here hx rfl (hb hby at_166) rfl rfl gk) ?_
          show Go _ _ _ _ T26 (mkF m 168 #[.val (.int p0), .val (.int p1), .val (.int p2), .val (.int p3), .val (.int p4), .val (.int cc), .val (.int dd), .val (.ref mx), .val (.int kd), .val .null, .val (.int (0 : Int32))] [.null, (.ref mx)])
          have F254 : n0 ≤ T26.heap.size := Nat.le_trans F25 K26.1
          obtain ⟨cq255, kq255, q255a, q255b, q255c⟩ := isOf hZ17 rfl Q26_0
          obtain ⟨_, _, ⟨T255, L255, k255, n255⟩, -, X255, ⟨Lc255, hQ255, l255, y255, z255⟩, st255⟩ := X26.virtualBack hx (y := (⟨"com/example/muster/muster/model/Member", "equals", "(Ljava/lang/Object;)Z"⟩ : MethodName)) (z := (⟨"com/example/muster/muster/model/Member", "equals", "(Ljava/lang/Object;)Z"⟩ : MethodName)) hown17 (mvT hZ17 (hw _ (List.mem_of_getElem? (i := 74) rfl))) (mvT hZ17 (hw _ (List.mem_of_getElem? (i := 75) rfl))) (notFace_of_selects (args := #[]) (mvT hZ17 (hw _ (List.mem_of_getElem? (i := 77) rfl)))) (mvT hZ17 (hw _ (List.mem_of_getElem? (i := 77) rfl))) (mvT hZ17 (hw _ (List.mem_of_getElem? (i := 76) rfl))) (by decide) (backOf (W := 0) (rmMeN l Z a0 hw [] mx T26.heap n0 F254 ) hZ17 (hw _ (List.mem_of_getElem? (i := 78) rfl)) (hw _ (List.mem_of_getElem? (i := 2) rfl)) (by decide) (by decide)) q255a q255c (g := (mkF m 168 #[.val (.int p0), .val (.int p1), .val (.int p2), .val (.int p3), .val (.int p4), .val (.int cc), .val (.int dd), .val (.ref mx), .val (.int kd), .val .null, .val (.int (0 : Int32))] [.null, (.ref mx)])) rfl (by rw [hml]; rfl) (Steps.refl _) (argsL := [.null]) (rest := []) (lenOf pd_308 rfl) rfl (by show 2 * 0 + _ ≤ _; exact Nat.le_of_eq rfl) (hb hby at_168) (fun _ _ => ⟨rfl, rfl, (by decide : 13 + 0 ≤ _), (by decide : 26 + 0 ≤ _)⟩)
          dsimp only [Pt.U, Pt.locs, Pt.cells, Pt.slots] at X255 l255 y255 z255 st255 hQ255
          subst l255 y255 z255
          obtain ⟨rfl, N255q, e255⟩ := hQ255
          have N255 := Fr.app N26 N255q
          refine Go.to st255 ?_
          show Go _ _ _ _ T255 (mkF m 171 #[.val (.int p0), .val (.int p1), .val (.int p2), .val (.int p3), .val (.int p4), .val (.int cc), .val (.int dd), .val (.ref mx), .val (.int kd), .val .null, .val (.int (0 : Int32))] [(.int (0 : Int32))])
          refine Go.by (fun _ gk => XS.iload X255.here hx rfl (hb hby at_171) rfl gk) ?_
          show Go _ _ _ _ T255 (mkF m 173 #[.val (.int p0), .val (.int p1), .val (.int p2), .val (.int p3), .val (.int p4), .val (.int cc), .val (.int dd), .val (.ref mx), .val (.int kd), .val .null, .val (.int (0 : Int32))] [(.int (0 : Int32)), (.int (0 : Int32))])
          refine Go.by (fun _ gk => XS.icmpNo X255.here hx rfl (hb hby at_173) rfl (XT.ii_ne_f rfl) gk) ?_
          show Go _ _ _ _ T255 (mkF m 176 #[.val (.int p0), .val (.int p1), .val (.int p2), .val (.int p3), .val (.int p4), .val (.int cc), .val (.int dd), .val (.ref mx), .val (.int kd), .val .null, .val (.int (0 : Int32))] [])
          refine Go.by (fun _ gk => XT.iconstV X255.here hx rfl (1 : Int32) (hb hby at_176) (by decide) gk) ?_
          show Go _ _ _ _ T255 (mkF m 177 #[.val (.int p0), .val (.int p1), .val (.int p2), .val (.int p3), .val (.int p4), .val (.int cc), .val (.int dd), .val (.ref mx), .val (.int kd), .val .null, .val (.int (0 : Int32))] [(.int (1 : Int32))])
          refine Go.by (fun _ gk => XS.goto X255.here hx rfl (pc0 := 177) (pc' := 181) rfl (hb hby at_177) (by decide) (by decide) gk) ?_
          show Go _ _ _ _ T255 (mkF m 181 #[.val (.int p0), .val (.int p1), .val (.int p2), .val (.int p3), .val (.int p4), .val (.int cc), .val (.int dd), .val (.ref mx), .val (.int kd), .val .null, .val (.int (0 : Int32))] [(.int (1 : Int32))])
          have F256 : T17.heap.size ≤ T26.heap.size := Nat.le_trans (Nat.le_refl T17.heap.size) K26.1
          exact Go.retIW X255 hx Bd.notSynchronized hS17 (by rw [e255]; exact F256) hZ17 hEL (by rw [hh, e255]; exact C27) Bd.returns rfl (by simp) (hb hby at_181) (by rw [e255]; exact ⟨rfl, N255⟩) (by decide) (by decide)
        · refine Go.by (fun _ gk => XS.icmpYes X26.here hx rfl (pc0 := 127) (pc' := 139) rfl (hb hby at_127) rfl (XT.ii_ne_t hb253) (by decide) (by decide) gk) ?_
          show Go _ _ _ _ T26 (mkF m 139 #[.val (.int p0), .val (.int p1), .val (.int p2), .val (.int p3), .val (.int p4), .val (.int cc), .val (.int dd), .val (.ref mx), .val (.int kd), .unset, .unset] [])
          refine Go.by (fun _ gk => XS.iload X26.here hx rfl (hb hby at_139) rfl gk) ?_
          show Go _ _ _ _ T26 (mkF m 141 #[.val (.int p0), .val (.int p1), .val (.int p2), .val (.int p3), .val (.int p4), .val (.int cc), .val (.int dd), .val (.ref mx), .val (.int kd), .unset, .unset] [(.int kd)])
          refine Go.by (fun _ gk => XT.iconstV X26.here hx rfl (2 : Int32) (hb hby at_141) (by decide) gk) ?_
          show Go _ _ _ _ T26 (mkF m 142 #[.val (.int p0), .val (.int p1), .val (.int p2), .val (.int p3), .val (.int p4), .val (.int cc), .val (.int dd), .val (.ref mx), .val (.int kd), .unset, .unset] [(.int (2 : Int32)), (.int kd)])
          by_cases hb257 : kd = (2 : Int32)
          · refine Go.by (fun _ gk => XS.icmpNo X26.here hx rfl (hb hby at_142) rfl (XT.ii_ne_f hb257) gk) ?_
            show Go _ _ _ _ T26 (mkF m 145 #[.val (.int p0), .val (.int p1), .val (.int p2), .val (.int p3), .val (.int p4), .val (.int cc), .val (.int dd), .val (.ref mx), .val (.int kd), .unset, .unset] [])
            refine Go.by (fun _ gk => XS.iloadN X26.here hx rfl (hb hby at_145) rfl gk) ?_
            show Go _ _ _ _ T26 (mkF m 146 #[.val (.int p0), .val (.int p1), .val (.int p2), .val (.int p3), .val (.int p4), .val (.int cc), .val (.int dd), .val (.ref mx), .val (.int kd), .unset, .unset] [(.int p0)])
            have F258 : Old Z n0 T17.heap := F13.keep K17 all0
            have F259 : Old Z n0 T26.heap := F258.keep K26 (allS ge_mx all0)
            have F260 : n0 ≤ T26.heap.size := Nat.le_trans F25 K26.1
            have F261 : Keep h0 T17.heap [] := F15.trans K17 all0
            have F262 : Keep h0 T26.heap [] := F261.trans K26 (allS (Or.inr sz_mx) all0)
            have F263 : Exa Z T17.heap sa "java/lang/String" := Q9_0.keep K17
            have F264 : Exa Z T26.heap sa "java/lang/String" := F263.keep K26
            have F265 : Arv Z T17.heap sab sak .byte (own_ln p0) (own_str (own_ln p0) (own_ca p0) (own_cb p0)) (.int (0 : Int32)) := Q9_3.keep K17 nin0
            have F266 : Arv Z T26.heap sab sak .byte (own_ln p0) (own_str (own_ln p0) (own_ca p0) (own_cb p0)) (.int (0 : Int32)) := F265.keep K26 (ninS (Ne.symm (Exa.neArv F20 F265 (hw _ (List.mem_of_getElem? (i := 1) rfl)))) nin0)
            have F267 : Exa Z T26.heap sc "java/lang/String" := Q17_0.keep K26
            have F268 : Arv Z T26.heap scb sck .byte (own_ln p1) (own_str (own_ln p1) (own_ca p1) (own_cb p1)) (.int (0 : Int32)) := Q17_3.keep K26 (ninS (Ne.symm (Exa.neArv F20 Q17_3 (hw _ (List.mem_of_getElem? (i := 1) rfl)))) nin0)
            have F270 : T17.heap.size ≤ T26.heap.size := Nat.le_trans (Nat.le_refl T17.heap.size) K26.1
            obtain ⟨_, _, ⟨T269, L269, k269, n269⟩, -, Xq269, hSq269, hgr269, ⟨Lc269, hQ269, l269, y269, z269, CH269⟩, st269⟩ := callSS X26 hx (y := (⟨"com/example/muster/muster/model/MemberEqualsPinLaw", "str", "(I)Ljava/lang/String;"⟩ : MethodName)) hown17 (mvT hZ17 (hw _ (List.mem_of_getElem? (i := 3) rfl))) (mvT hZ17 (hw _ (List.mem_of_getElem? (i := 4) rfl))) (mvT hZ17 (hw _ (List.mem_of_getElem? (i := 5) rfl))) (mvT hZ17 (hw _ (List.mem_of_getElem? (i := 6) rfl))) (by decide) (backOfSH (W := 0) (rmStr l Z a0 hw [] p0 cs T26.heap n0 F260 F259 S_cs n_cs) hZ17 (hw _ (List.mem_of_getElem? (i := 6) rfl)) (hw _ (List.mem_of_getElem? (i := 5) rfl)) (by decide) (by decide) hEL C27.1) (g := (mkF m 146 #[.val (.int p0), .val (.int p1), .val (.int p2), .val (.int p3), .val (.int p4), .val (.int cc), .val (.int dd), .val (.ref mx), .val (.int kd), .unset, .unset] [(.int p0)])) rfl (by rw [hml]; rfl) (argsL := [(.int p0)]) (rest := []) (lenOf pd_322 rfl) rfl (by show 2 * 0 + _ ≤ _; exact Nat.le_of_eq rfl) (hb hby at_146) (fun _ _ => ⟨rfl, rfl, (by decide : 13 + 6 ≤ _), (by decide : 26 + 12 ≤ _)⟩)
            dsimp only [Pt.U, Pt.locs, Pt.cells, Pt.slots] at Xq269 hSq269 hgr269 l269 y269 z269 st269 hQ269 CH269
            subst l269 y269 z269
            obtain ⟨ts, tsb, tsk, rfl, N269q, K269, Q269_0, Q269_1, Q269_2, Q269_3, Q269_4⟩ := hQ269
            have N269 := Fr.app N26 N269q
            obtain ⟨X269, hS269, hZ269, hown269⟩ := rebS hS17 (by exact F270) Xq269 hSq269 hgr269 hZ17 hown17
            have C271 : CHr Z own_EL s.vm h0 T269.vm T269.heap := C27.trans CH269
            have Sf272 : Safe Z own_EL T269.vm T269.heap mx := CH269.safe Q26_0.lt Sf28
            refine Go.to st269 ?_
            show Go _ _ _ _ T269 (mkF m 149 #[.val (.int p0), .val (.int p1), .val (.int p2), .val (.int p3), .val (.int p4), .val (.int cc), .val (.int dd), .val (.ref mx), .val (.int kd), .unset, .unset] [(.ref ts)])
            have ge_ts : n0 ≤ ts := Nat.le_trans F260 Q269_4
            have sz_ts : h0.size ≤ ts := Nat.le_trans F262.1 Q269_4
            have ne_mx_ts : mx ≠ ts := Nat.ne_of_lt (Nat.lt_of_lt_of_le Q26_0.lt Q269_4)
            have ne_sa_ts : sa ≠ ts := Nat.ne_of_lt (Nat.lt_of_lt_of_le F264.lt Q269_4)
            have ne_sab_ts : sab ≠ ts := Nat.ne_of_lt (Nat.lt_of_lt_of_le F266.lt Q269_4)
            have ne_sc_ts : sc ≠ ts := Nat.ne_of_lt (Nat.lt_of_lt_of_le F267.lt Q269_4)
            have ne_scb_ts : scb ≠ ts := Nat.ne_of_lt (Nat.lt_of_lt_of_le F268.lt Q269_4)
            refine Go.by (fun _ gk => XS.astore X269.here hx rfl (hb hby at_149) rfl rfl (l' := #[.val (.int p0), .val (.int p1), .val (.int p2), .val (.int p3), .val (.int p4), .val (.int cc), .val (.int dd), .val (.ref mx), .val (.int kd), .val (.ref ts), .unset]) rfl gk) ?_
            show Go _ _ _ _ T269 (mkF m 151 #[.val (.int p0), .val (.int p1), .val (.int p2), .val (.int p3), .val (.int p4), .val (.int cc), .val (.int dd), .val (.ref mx), .val (.int kd), .val (.ref ts), .unset] [])
            refine Go.by (fun _ gk => XT.iconstV X269.here hx rfl (0 : Int32) (hb hby at_151) (by decide) gk) ?_
            show Go _ _ _ _ T269 (mkF m 152 #[.val (.int p0), .val (.int p1), .val (.int p2), .val (.int p3), .val (.int p4), .val (.int cc), .val (.int dd), .val (.ref mx), .val (.int kd), .val (.ref ts), .unset] [(.int (0 : Int32))])
            refine Go.by (fun _ gk => XS.istore X269.here hx rfl (hb hby at_152) rfl (l' := #[.val (.int p0), .val (.int p1), .val (.int p2), .val (.int p3), .val (.int p4), .val (.int cc), .val (.int dd), .val (.ref mx), .val (.int kd), .val (.ref ts), .val (.int (0 : Int32))]) rfl gk) ?_
            show Go _ _ _ _ T269 (mkF m 154 #[.val (.int p0), .val (.int p1), .val (.int p2), .val (.int p3), .val (.int p4), .val (.int cc), .val (.int dd), .val (.ref mx), .val (.int kd), .val (.ref ts), .val (.int (0 : Int32))] [])
            refine Go.by (fun _ gk => XS.goto X269.here hx rfl (pc0 := 154) (pc' := 164) rfl (hb hby at_154) (by decide) (by decide) gk) ?_
            show Go _ _ _ _ T269 (mkF m 164 #[.val (.int p0), .val (.int p1), .val (.int p2), .val (.int p3), .val (.int p4), .val (.int cc), .val (.int dd), .val (.ref mx), .val (.int kd), .val (.ref ts), .val (.int (0 : Int32))] [])
            refine Go.by (fun _ gk => XS.aload X269.here hx rfl (hb hby at_164) rfl rfl gk) ?_
            show Go _ _ _ _ T269 (mkF m 166 #[.val (.int p0), .val (.int p1), .val (.int p2), .val (.int p3), .val (.int p4), .val (.int cc), .val (.int dd), .val (.ref mx), .val (.int kd), .val (.ref ts), .val (.int (0 : Int32))] [(.ref mx)])
            refine Go.by (fun _ gk => XS.aload X269.here hx rfl (hb hby at_166) rfl rfl gk) ?_
            show Go _ _ _ _ T269 (mkF m 168 #[.val (.int p0), .val (.int p1), .val (.int p2), .val (.int p3), .val (.int p4), .val (.int cc), .val (.int dd), .val (.ref mx), .val (.int kd), .val (.ref ts), .val (.int (0 : Int32))] [(.ref ts), (.ref mx)])
            have F273 : n0 ≤ T269.heap.size := Nat.le_trans F260 K269.1
            have F275 : Exa Z T269.heap mx "com/example/muster/muster/model/Member" := Q26_0.keep K269
            obtain ⟨cq274, kq274, q274a, q274b, q274c⟩ := isOf hZ269 rfl F275
            obtain ⟨_, _, ⟨T274, L274, k274, n274⟩, -, X274, ⟨Lc274, hQ274, l274, y274, z274⟩, st274⟩ := X269.virtualBack hx (y := (⟨"com/example/muster/muster/model/Member", "equals", "(Ljava/lang/Object;)Z"⟩ : MethodName)) (z := (⟨"com/example/muster/muster/model/Member", "equals", "(Ljava/lang/Object;)Z"⟩ : MethodName)) hown269 (mvT hZ269 (hw _ (List.mem_of_getElem? (i := 74) rfl))) (mvT hZ269 (hw _ (List.mem_of_getElem? (i := 75) rfl))) (notFace_of_selects (args := #[]) (mvT hZ269 (hw _ (List.mem_of_getElem? (i := 77) rfl)))) (mvT hZ269 (hw _ (List.mem_of_getElem? (i := 77) rfl))) (mvT hZ269 (hw _ (List.mem_of_getElem? (i := 76) rfl))) (by decide) (backOf (W := 0) (rmMeS l Z a0 hw [] mx ts T269.heap n0 F273 Q269_0) hZ269 (hw _ (List.mem_of_getElem? (i := 78) rfl)) (hw _ (List.mem_of_getElem? (i := 2) rfl)) (by decide) (by decide)) q274a q274c (g := (mkF m 168 #[.val (.int p0), .val (.int p1), .val (.int p2), .val (.int p3), .val (.int p4), .val (.int cc), .val (.int dd), .val (.ref mx), .val (.int kd), .val (.ref ts), .val (.int (0 : Int32))] [(.ref ts), (.ref mx)])) rfl (by rw [hml]; rfl) (Steps.refl _) (argsL := [(.ref ts)]) (rest := []) (lenOf pd_308 rfl) rfl (by show 2 * 0 + _ ≤ _; exact Nat.le_of_eq rfl) (hb hby at_168) (fun _ _ => ⟨rfl, rfl, (by decide : 19 + 0 ≤ _), (by decide : 38 + 0 ≤ _)⟩)
            dsimp only [Pt.U, Pt.locs, Pt.cells, Pt.slots] at X274 l274 y274 z274 st274 hQ274
            subst l274 y274 z274
            obtain ⟨rfl, N274q, e274⟩ := hQ274
            have N274 := Fr.app N269 N274q
            refine Go.to st274 ?_
            show Go _ _ _ _ T274 (mkF m 171 #[.val (.int p0), .val (.int p1), .val (.int p2), .val (.int p3), .val (.int p4), .val (.int cc), .val (.int dd), .val (.ref mx), .val (.int kd), .val (.ref ts), .val (.int (0 : Int32))] [(.int (0 : Int32))])
            refine Go.by (fun _ gk => XS.iload X274.here hx rfl (hb hby at_171) rfl gk) ?_
            show Go _ _ _ _ T274 (mkF m 173 #[.val (.int p0), .val (.int p1), .val (.int p2), .val (.int p3), .val (.int p4), .val (.int cc), .val (.int dd), .val (.ref mx), .val (.int kd), .val (.ref ts), .val (.int (0 : Int32))] [(.int (0 : Int32)), (.int (0 : Int32))])
            refine Go.by (fun _ gk => XS.icmpNo X274.here hx rfl (hb hby at_173) rfl (XT.ii_ne_f rfl) gk) ?_
            show Go _ _ _ _ T274 (mkF m 176 #[.val (.int p0), .val (.int p1), .val (.int p2), .val (.int p3), .val (.int p4), .val (.int cc), .val (.int dd), .val (.ref mx), .val (.int kd), .val (.ref ts), .val (.int (0 : Int32))] [])
            refine Go.by (fun _ gk => XT.iconstV X274.here hx rfl (1 : Int32) (hb hby at_176) (by decide) gk) ?_
            show Go _ _ _ _ T274 (mkF m 177 #[.val (.int p0), .val (.int p1), .val (.int p2), .val (.int p3), .val (.int p4), .val (.int cc), .val (.int dd), .val (.ref mx), .val (.int kd), .val (.ref ts), .val (.int (0 : Int32))] [(.int (1 : Int32))])
            refine Go.by (fun _ gk => XS.goto X274.here hx rfl (pc0 := 177) (pc' := 181) rfl (hb hby at_177) (by decide) (by decide) gk) ?_
            show Go _ _ _ _ T274 (mkF m 181 #[.val (.int p0), .val (.int p1), .val (.int p2), .val (.int p3), .val (.int p4), .val (.int cc), .val (.int dd), .val (.ref mx), .val (.int kd), .val (.ref ts), .val (.int (0 : Int32))] [(.int (1 : Int32))])
            exact Go.retIW X274 hx Bd.notSynchronized hS269 (by rw [e274]; exact (Nat.le_refl T269.heap.size)) hZ269 hEL (by rw [hh, e274]; exact C271) Bd.returns rfl (by simp) (hb hby at_181) (by rw [e274]; exact ⟨rfl, N274⟩) (by decide) (by decide)
          · refine Go.by (fun _ gk => XS.icmpYes X26.here hx rfl (pc0 := 142) (pc' := 157) rfl (hb hby at_142) rfl (XT.ii_ne_t hb257) (by decide) (by decide) gk) ?_
            show Go _ _ _ _ T26 (mkF m 157 #[.val (.int p0), .val (.int p1), .val (.int p2), .val (.int p3), .val (.int p4), .val (.int cc), .val (.int dd), .val (.ref mx), .val (.int kd), .unset, .unset] [])
            refine Go.by (fun _ gk => XS.aload X26.here hx rfl (hb hby at_157) rfl rfl gk) ?_
            show Go _ _ _ _ T26 (mkF m 159 #[.val (.int p0), .val (.int p1), .val (.int p2), .val (.int p3), .val (.int p4), .val (.int cc), .val (.int dd), .val (.ref mx), .val (.int kd), .unset, .unset] [(.ref mx)])
            refine Go.by (fun _ gk => XS.astore X26.here hx rfl (hb hby at_159) rfl rfl (l' := #[.val (.int p0), .val (.int p1), .val (.int p2), .val (.int p3), .val (.int p4), .val (.int cc), .val (.int dd), .val (.ref mx), .val (.int kd), .val (.ref mx), .unset]) rfl gk) ?_
            show Go _ _ _ _ T26 (mkF m 161 #[.val (.int p0), .val (.int p1), .val (.int p2), .val (.int p3), .val (.int p4), .val (.int cc), .val (.int dd), .val (.ref mx), .val (.int kd), .val (.ref mx), .unset] [])
            refine Go.by (fun _ gk => XT.iconstV X26.here hx rfl (1 : Int32) (hb hby at_161) (by decide) gk) ?_
            show Go _ _ _ _ T26 (mkF m 162 #[.val (.int p0), .val (.int p1), .val (.int p2), .val (.int p3), .val (.int p4), .val (.int cc), .val (.int dd), .val (.ref mx), .val (.int kd), .val (.ref mx), .unset] [(.int (1 : Int32))])
            refine Go.by (fun _ gk => XS.istore X26.here hx rfl (hb hby at_162) rfl (l' := #[.val (.int p0), .val (.int p1), .val (.int p2), .val (.int p3), .val (.int p4), .val (.int cc), .val (.int dd), .val (.ref mx), .val (.int kd), .val (.ref mx), .val (.int (1 : Int32))]) rfl gk) ?_
            show Go _ _ _ _ T26 (mkF m 164 #[.val (.int p0), .val (.int p1), .val (.int p2), .val (.int p3), .val (.int p4), .val (.int cc), .val (.int dd), .val (.ref mx), .val (.int kd), .val (.ref mx), .val (.int (1 : Int32))] [])
            refine Go.by (fun _ gk => XS.aload X26.here hx rfl (hb hby at_164) rfl rfl gk) ?_
            show Go _ _ _ _ T26 (mkF m 166 #[.val (.int p0), .val (.int p1), .val (.int p2), .val (.int p3), .val (.int p4), .val (.int cc), .val (.int dd), .val (.ref mx), .val (.int kd), .val (.ref mx), .val (.int (1 : Int32))] [(.ref mx)])
            refine Go.by (fun _ gk => XS.aload X26.here hx rfl (hb hby at_166) rfl rfl gk) ?_
            show Go _ _ _ _ T26 (mkF m 168 #[.val (.int p0), .val (.int p1), .val (.int p2), .val (.int p3), .val (.int p4), .val (.int cc), .val (.int dd), .val (.ref mx), .val (.int kd), .val (.ref mx), .val (.int (1 : Int32))] [(.ref mx), (.ref mx)])
            have F276 : Exa Z T17.heap sa "java/lang/String" := Q9_0.keep K17
            have F277 : Exa Z T26.heap sa "java/lang/String" := F276.keep K26
            have F278 : Exa Z T26.heap sc "java/lang/String" := Q17_0.keep K26
            have F279 : n0 ≤ T26.heap.size := Nat.le_trans F25 K26.1
            obtain ⟨cq280, kq280, q280a, q280b, q280c⟩ := isOf hZ17 rfl Q26_0
            obtain ⟨_, _, ⟨T280, L280, k280, n280⟩, -, X280, ⟨Lc280, hQ280, l280, y280, z280⟩, st280⟩ := X26.virtualBack hx (y := (⟨"com/example/muster/muster/model/Member", "equals", "(Ljava/lang/Object;)Z"⟩ : MethodName)) (z := (⟨"com/example/muster/muster/model/Member", "equals", "(Ljava/lang/Object;)Z"⟩ : MethodName)) hown17 (mvT hZ17 (hw _ (List.mem_of_getElem? (i := 74) rfl))) (mvT hZ17 (hw _ (List.mem_of_getElem? (i := 75) rfl))) (notFace_of_selects (args := #[]) (mvT hZ17 (hw _ (List.mem_of_getElem? (i := 77) rfl)))) (mvT hZ17 (hw _ (List.mem_of_getElem? (i := 77) rfl))) (mvT hZ17 (hw _ (List.mem_of_getElem? (i := 76) rfl))) (by decide) (backOf (W := 0) (rmMeI l Z a0 hw [] mx sa sc T26.heap n0 F279 Q26_0 Q26_1 Q26_2 F277 F278) hZ17 (hw _ (List.mem_of_getElem? (i := 78) rfl)) (hw _ (List.mem_of_getElem? (i := 2) rfl)) (by decide) (by decide)) q280a q280c (g := (mkF m 168 #[.val (.int p0), .val (.int p1), .val (.int p2), .val (.int p3), .val (.int p4), .val (.int cc), .val (.int dd), .val (.ref mx), .val (.int kd), .val (.ref mx), .val (.int (1 : Int32))] [(.ref mx), (.ref mx)])) rfl (by rw [hml]; rfl) (Steps.refl _) (argsL := [(.ref mx)]) (rest := []) (lenOf pd_308 rfl) rfl (by show 2 * 0 + _ ≤ _; exact Nat.le_of_eq rfl) (hb hby at_168) (fun _ _ => ⟨rfl, rfl, (by decide : 13 + 0 ≤ _), (by decide : 26 + 0 ≤ _)⟩)
            dsimp only [Pt.U, Pt.locs, Pt.cells, Pt.slots] at X280 l280 y280 z280 st280 hQ280
            subst l280 y280 z280
            obtain ⟨rfl, N280q, e280⟩ := hQ280
            have N280 := Fr.app N26 N280q
            refine Go.to st280 ?_
            show Go _ _ _ _ T280 (mkF m 171 #[.val (.int p0), .val (.int p1), .val (.int p2), .val (.int p3), .val (.int p4), .val (.int cc), .val (.int dd), .val (.ref mx), .val (.int kd), .val (.ref mx), .val (.int (1 : Int32))] [(.int (1 : Int32))])
            refine Go.by (fun _ gk => XS.iload X280.here hx rfl (hb hby at_171) rfl gk) ?_
            show Go _ _ _ _ T280 (mkF m 173 #[.val (.int p0), .val (.int p1), .val (.int p2), .val (.int p3), .val (.int p4), .val (.int cc), .val (.int dd), .val (.ref mx), .val (.int kd), .val (.ref mx), .val (.int (1 : Int32))] [(.int (1 : Int32)), (.int (1 : Int32))])
            refine Go.by (fun _ gk => XS.icmpNo X280.here hx rfl (hb hby at_173) rfl (XT.ii_ne_f rfl) gk) ?_
            show Go _ _ _ _ T280 (mkF m 176 #[.val (.int p0), .val (.int p1), .val (.int p2), .val (.int p3), .val (.int p4), .val (.int cc), .val (.int dd), .val (.ref mx), .val (.int kd), .val (.ref mx), .val (.int (1 : Int32))] [])
            refine Go.by (fun _ gk => XT.iconstV X280.here hx rfl (1 : Int32) (hb hby at_176) (by decide) gk) ?_
            show Go _ _ _ _ T280 (mkF m 177 #[.val (.int p0), .val (.int p1), .val (.int p2), .val (.int p3), .val (.int p4), .val (.int cc), .val (.int dd), .val (.ref mx), .val (.int kd), .val (.ref mx), .val (.int (1 : Int32))] [(.int (1 : Int32))])
            refine Go.by (fun _ gk => XS.goto X280.here hx rfl (pc0 := 177) (pc' := 181) rfl (hb hby at_177) (by decide) (by decide) gk) ?_
            show Go _ _ _ _ T280 (mkF m 181 #[.val (.int p0), .val (.int p1), .val (.int p2), .val (.int p3), .val (.int p4), .val (.int cc), .val (.int dd), .val (.ref mx), .val (.int kd), .val (.ref mx), .val (.int (1 : Int32))] [(.int (1 : Int32))])
            have F281 : T17.heap.size ≤ T26.heap.size := Nat.le_trans (Nat.le_refl T17.heap.size) K26.1
            exact Go.retIW X280 hx Bd.notSynchronized hS17 (by rw [e280]; exact F281) hZ17 hEL (by rw [hh, e280]; exact C27) Bd.returns rfl (by simp) (hb hby at_181) (by rw [e280]; exact ⟨rfl, N280⟩) (by decide) (by decide)
    · intro J2
      show Go _ _ _ _ s₁ (mkF m 27 #[.val (.int p0), .val (.int p1), .val (.int p2), .val (.int p3), .val (.int p4), .val (.int cc), .unset, .unset, .unset, .unset, .unset] [(.int (p4 &&& (2 : Int32)))])
      by_cases hb282 : (p4 &&& (2 : Int32)) = 0
      · refine Go.by (fun _ gk => XS.ifYes X0.here hx rfl (pc0 := 27) (pc' := 43) rfl (hb hby at_27) rfl (XT.i0_eq_t hb282) (by decide) (by decide) gk) ?_
        show Go _ _ _ _ s₁ (mkF m 43 #[.val (.int p0), .val (.int p1), .val (.int p2), .val (.int p3), .val (.int p4), .val (.int cc), .unset, .unset, .unset, .unset, .unset] [])
        refine Go.by (fun _ gk => XS.iloadN X0.here hx rfl (hb hby at_43) rfl gk) ?_
        show Go _ _ _ _ s₁ (mkF m 44 #[.val (.int p0), .val (.int p1), .val (.int p2), .val (.int p3), .val (.int p4), .val (.int cc), .unset, .unset, .unset, .unset, .unset] [(.int p3)])
        exact J2 _ trivial
      · refine Go.by (fun _ gk => XS.ifNo X0.here hx rfl (hb hby at_27) rfl (XT.i0_eq_f hb282) gk) ?_
        show Go _ _ _ _ s₁ (mkF m 30 #[.val (.int p0), .val (.int p1), .val (.int p2), .val (.int p3), .val (.int p4), .val (.int cc), .unset, .unset, .unset, .unset, .unset] [])
        refine Go.by (fun _ gk => XS.iloadN X0.here hx rfl (hb hby at_30) rfl gk) ?_
        show Go _ _ _ _ s₁ (mkF m 31 #[.val (.int p0), .val (.int p1), .val (.int p2), .val (.int p3), .val (.int p4), .val (.int cc), .unset, .unset, .unset, .unset, .unset] [(.int p1)])
        refine Go.by (fun _ gk => XS.iload X0.here hx rfl (hb hby at_31) rfl gk) ?_
        show Go _ _ _ _ s₁ (mkF m 33 #[.val (.int p0), .val (.int p1), .val (.int p2), .val (.int p3), .val (.int p4), .val (.int cc), .unset, .unset, .unset, .unset, .unset] [(.int p4), (.int p1)])
        refine Go.by (fun _ gk => XT.iconstV X0.here hx rfl (5 : Int32) (hb hby at_33) (by decide) gk) ?_
        show Go _ _ _ _ s₁ (mkF m 34 #[.val (.int p0), .val (.int p1), .val (.int p2), .val (.int p3), .val (.int p4), .val (.int cc), .unset, .unset, .unset, .unset, .unset] [(.int (5 : Int32)), (.int p4), (.int p1)])
        refine Go.by (fun _ gk => XT.iushr X0.here hx rfl (hb hby at_34) rfl gk) ?_
        show Go _ _ _ _ s₁ (mkF m 35 #[.val (.int p0), .val (.int p1), .val (.int p2), .val (.int p3), .val (.int p4), .val (.int cc), .unset, .unset, .unset, .unset, .unset] [(.int (XT.ushr p4 (5 : Int32))), (.int p1)])
        refine Go.by (fun _ gk => XT.sipushV X0.here hx rfl (1028 : Int32) (hb hby at_35) (by decide) gk) ?_
        show Go _ _ _ _ s₁ (mkF m 38 #[.val (.int p0), .val (.int p1), .val (.int p2), .val (.int p3), .val (.int p4), .val (.int cc), .unset, .unset, .unset, .unset, .unset] [(.int (1028 : Int32)), (.int (XT.ushr p4 (5 : Int32))), (.int p1)])
        refine Go.by (fun _ gk => XS.iand X0.here hx rfl (hb hby at_38) rfl gk) ?_
        show Go _ _ _ _ s₁ (mkF m 39 #[.val (.int p0), .val (.int p1), .val (.int p2), .val (.int p3), .val (.int p4), .val (.int cc), .unset, .unset, .unset, .unset, .unset] [(.int ((XT.ushr p4 (5 : Int32)) &&& (1028 : Int32))), (.int p1)])
        refine Go.by (fun _ gk => XT.ixor X0.here hx rfl (hb hby at_39) rfl gk) ?_
        show Go _ _ _ _ s₁ (mkF m 40 #[.val (.int p0), .val (.int p1), .val (.int p2), .val (.int p3), .val (.int p4), .val (.int cc), .unset, .unset, .unset, .unset, .unset] [(.int (p1 ^^^ ((XT.ushr p4 (5 : Int32)) &&& (1028 : Int32))))])
        refine Go.by (fun _ gk => XS.goto X0.here hx rfl (pc0 := 40) (pc' := 44) rfl (hb hby at_40) (by decide) (by decide) gk) ?_
        show Go _ _ _ _ s₁ (mkF m 44 #[.val (.int p0), .val (.int p1), .val (.int p2), .val (.int p3), .val (.int p4), .val (.int cc), .unset, .unset, .unset, .unset, .unset] [(.int (p1 ^^^ ((XT.ushr p4 (5 : Int32)) &&& (1028 : Int32))))])
        exact J2 _ trivial
  · intro J1
    show Go _ _ _ _ s₁ (mkF m 4 #[.val (.int p0), .val (.int p1), .val (.int p2), .val (.int p3), .val (.int p4), .unset, .unset, .unset, .unset, .unset, .unset] [(.int (p4 &&& (1 : Int32)))])
    by_cases hb283 : (p4 &&& (1 : Int32)) = 0
    · refine Go.by (fun _ gk => XS.ifYes X0.here hx rfl (pc0 := 4) (pc' := 20) rfl (hb hby at_4) rfl (XT.i0_eq_t hb283) (by decide) (by decide) gk) ?_
      show Go _ _ _ _ s₁ (mkF m 20 #[.val (.int p0), .val (.int p1), .val (.int p2), .val (.int p3), .val (.int p4), .unset, .unset, .unset, .unset, .unset, .unset] [])
      refine Go.by (fun _ gk => XS.iloadN X0.here hx rfl (hb hby at_20) rfl gk) ?_
      show Go _ _ _ _ s₁ (mkF m 21 #[.val (.int p0), .val (.int p1), .val (.int p2), .val (.int p3), .val (.int p4), .unset, .unset, .unset, .unset, .unset, .unset] [(.int p2)])
      exact J1 _ trivial
    · refine Go.by (fun _ gk => XS.ifNo X0.here hx rfl (hb hby at_4) rfl (XT.i0_eq_f hb283) gk) ?_
      show Go _ _ _ _ s₁ (mkF m 7 #[.val (.int p0), .val (.int p1), .val (.int p2), .val (.int p3), .val (.int p4), .unset, .unset, .unset, .unset, .unset, .unset] [])
      refine Go.by (fun _ gk => XS.iloadN X0.here hx rfl (hb hby at_7) rfl gk) ?_
      show Go _ _ _ _ s₁ (mkF m 8 #[.val (.int p0), .val (.int p1), .val (.int p2), .val (.int p3), .val (.int p4), .unset, .unset, .unset, .unset, .unset, .unset] [(.int p0)])
      refine Go.by (fun _ gk => XS.iload X0.here hx rfl (hb hby at_8) rfl gk) ?_
      show Go _ _ _ _ s₁ (mkF m 10 #[.val (.int p0), .val (.int p1), .val (.int p2), .val (.int p3), .val (.int p4), .unset, .unset, .unset, .unset, .unset, .unset] [(.int p4), (.int p0)])
      refine Go.by (fun _ gk => XT.iconstV X0.here hx rfl (3 : Int32) (hb hby at_10) (by decide) gk) ?_
      show Go _ _ _ _ s₁ (mkF m 11 #[.val (.int p0), .val (.int p1), .val (.int p2), .val (.int p3), .val (.int p4), .unset, .unset, .unset, .unset, .unset, .unset] [(.int (3 : Int32)), (.int p4), (.int p0)])
      refine Go.by (fun _ gk => XT.iushr X0.here hx rfl (hb hby at_11) rfl gk) ?_
      show Go _ _ _ _ s₁ (mkF m 12 #[.val (.int p0), .val (.int p1), .val (.int p2), .val (.int p3), .val (.int p4), .unset, .unset, .unset, .unset, .unset, .unset] [(.int (XT.ushr p4 (3 : Int32))), (.int p0)])
      refine Go.by (fun _ gk => XT.sipushV X0.here hx rfl (1028 : Int32) (hb hby at_12) (by decide) gk) ?_
      show Go _ _ _ _ s₁ (mkF m 15 #[.val (.int p0), .val (.int p1), .val (.int p2), .val (.int p3), .val (.int p4), .unset, .unset, .unset, .unset, .unset, .unset] [(.int (1028 : Int32)), (.int (XT.ushr p4 (3 : Int32))), (.int p0)])
      refine Go.by (fun _ gk => XS.iand X0.here hx rfl (hb hby at_15) rfl gk) ?_
      show Go _ _ _ _ s₁ (mkF m 16 #[.val (.int p0), .val (.int p1), .val (.int p2), .val (.int p3), .val (.int p4), .unset, .unset, .unset, .unset, .unset, .unset] [(.int ((XT.ushr p4 (3 : Int32)) &&& (1028 : Int32))), (.int p0)])
      refine Go.by (fun _ gk => XT.ixor X0.here hx rfl (hb hby at_16) rfl gk) ?_
      show Go _ _ _ _ s₁ (mkF m 17 #[.val (.int p0), .val (.int p1), .val (.int p2), .val (.int p3), .val (.int p4), .unset, .unset, .unset, .unset, .unset, .unset] [(.int (p0 ^^^ ((XT.ushr p4 (3 : Int32)) &&& (1028 : Int32))))])
      refine Go.by (fun _ gk => XS.goto X0.here hx rfl (pc0 := 17) (pc' := 21) rfl (hb hby at_17) (by decide) (by decide) gk) ?_
      show Go _ _ _ _ s₁ (mkF m 21 #[.val (.int p0), .val (.int p1), .val (.int p2), .val (.int p3), .val (.int p4), .unset, .unset, .unset, .unset, .unset, .unset] [(.int (p0 ^^^ ((XT.ushr p4 (3 : Int32)) &&& (1028 : Int32))))])
      exact J1 _ trivial
set_option maxRecDepth 65536 in
set_option maxHeartbeats 40000000 in
theorem comes_1 {Post : Tables → Env → Array Value → State → Outcome → State → Prop} (hpost : ∀ tb e args s v u, (limb_1_1.after args s (.returned v) u = true ∧ limb_1_2.after args s (.returned v) u = true ∧ True) → ReturnedEndW s (.returned v) u (Jvm.fieldLocs frame_1_writes args s ++ Jvm.arrayLocs frame_1_arrays args s ++ Jvm.staticLocs frame_1_statics s) 40 1216 → Post tb e args s (.returned v) u) :
    ArmFor flags0 classFile x code maxLocals ret World_1 tables_1 room_1 Calls_1 rest_1 Pre_1 Post := by
  intro l hfl _ _ p e ha hc hk s m args below hf hA hF happ hP
  obtain ⟨hcalls, hrest, hpre⟩ := hP
  obtain ⟨-, -, -, hnamed, -, -, -, hat⟩ := (Spec.applies_iff hf).mp happ
  obtain ⟨hg, hn⟩ := and_e (Cond.before_iff.mp (show (Jvm.Cond.and given_1 narrow_1).before args s = true from hpre))
  obtain ⟨hcount, hg0⟩ := and_e hg
  obtain ⟨ha0, hg1⟩ := and_e hg0
  obtain ⟨ha1, hg2⟩ := and_e hg1
  obtain ⟨ha2, hg3⟩ := and_e hg2
  obtain ⟨ha3, hg4⟩ := and_e hg3
  have ha4 := hg4
  obtain ⟨w0, w1, w2, w3, w4, rfl⟩ : ∃ w0 w1 w2 w3 w4 : Value, args = #[w0, w1, w2, w3, w4] := by
    have hs : args.size = 5 := by simpa [Cond.value, given_1] using hcount
    obtain ⟨L⟩ := args
    match L, hs with
    | [w0, w1, w2, w3, w4], _ => exact ⟨w0, w1, w2, w3, w4, rfl⟩
  have hw := fun d (hd : d ∈ tables_1) => atoms_spec (ws := Jvm.Cond.code x code maxLocals ret :: tables_1) hat d (List.mem_cons_of_mem _ hd)
  obtain ⟨hsets, hown0⟩ := atoms_of _ (rest_1_c_eq ▸ (show rest_1_c.before _ s = true from hrest))
  have hr0 := Cond.before_iff.mp hown0
  have hfit : Fit s := fun {y c} hc i hi => by
    obtain ⟨ha, rfl⟩ := Array.getElem?_eq_some_iff.mp hc
    have q := List.all_eq_true.mp ((Array.all_eq_true_iff_forall_mem.mp hF) _ (Array.getElem_mem ha)) i (List.mem_range.mpr hi)
    simpa [Array.getElem?_eq_getElem hi] using q
  obtain ⟨i0, ei0⟩ := is_v ha0
  obtain rfl : w0 = (.int i0) := Option.some.inj ei0
  obtain ⟨i1, ei1⟩ := is_v ha1
  obtain rfl : w1 = (.int i1) := Option.some.inj ei1
  obtain ⟨i2, ei2⟩ := is_v ha2
  obtain rfl : w2 = (.int i2) := Option.some.inj ei2
  obtain ⟨i3, ei3⟩ := is_v ha3
  obtain rfl : w3 = (.int i3) := Option.some.inj ei3
  obtain ⟨i4, ei4⟩ := is_v ha4
  obtain rfl : w4 = (.int i4) := Option.some.inj ei4
  obtain ⟨cs, ev_cs⟩ := is_v (Cond.before_iff.mp (hsets _ (List.mem_of_getElem? (i := 1) rfl)))
  have S_cs := Sta.start ev_cs (Or.inl (hsets _ (List.mem_of_getElem? (i := 0) rfl)))
  have n_cs : ¬ (cs = (0 : Int32)) := gotF (Cond.eq_ints ev_cs (Term.int_eval (0))) (not_v (Cond.before_iff.mp (hsets _ (List.mem_of_getElem? (i := 2) rfl))))
  have hCH : CHv s own_EL s.vm s.heap := CHv.start (own_EW hw) hcalls.1 (a0 := _) (hsets _ (List.mem_of_getElem? (i := 2) rfl)) (own_SA hw _ (by simp [Bundle.stringAtoms])) (own_SA hw _ (by simp [Bundle.stringAtoms, Bundle.sN]))
  obtain ⟨n, o, h1, h2, h3, _, L, rfl, ⟨rfl, N⟩, -, hq⟩ := rm0 l s _ hw tables_1 i0 i1 i2 i3 i4 cs s.heap s.heap.size (Nat.le_refl _) (Old.start s) S_cs n_cs p e ha hc hk s m _ below hf ((Spec.applies_iff_loose hf).mp happ).1 ⟨rfl, State.Warmed39.refl s, rfl, hCH⟩ trivial
  refine ⟨n, _, h1, h2, h3, hpost _ _ _ _ _ _ ⟨Cond.after_iff.mpr rfl, Cond.after_iff.mpr (eq_i res_at (Term.int_eval (1)) rfl), trivial⟩ ⟨hq.1, hq.2.1, hq.2.2.1, (hq.2.2.2.sift fun y hy => Or.inr (N y hy)).mono (by decide) (by decide)⟩⟩
theorem main_1_1 : Claimed_1_1 := comes_1 fun _ _ _ _ _ _ h hF => ⟨h.1, hF⟩
theorem main_1_2 : Claimed_1_2 := comes_1 fun _ _ _ _ _ _ h hF => ⟨h.2.1, hF⟩
end Jvm.Pilot.@@N@@
namespace Jvm.Pilot.@@N@@
open Jvm Jvm.ClassFile Sem Op Lib Jvm.Free Jvm.Stand Jvm.Pilot.@@N@@.Jvm.D
/-! MADE BY PROGRAM (witnessworld.py) out of the Statement's table words and the real class files: 20 classes; the members and pool entries that the words name. The judged class is class 1, her method 6. -/
namespace start1
open Jvm.ClassFile
def u (s : String) : CpInfo := .utf8 (stringToUtf16 s)
/-- a pool by its gaps: so many unusable entries, then the entry; so many at the end -/
def gap : Nat → List CpInfo → List CpInfo
  | 0, r => r
  | n + 1, r => .unusable :: gap n r
def poolList (es : List (Nat × CpInfo)) (last : Nat) : List CpInfo := es.foldr (fun e r => gap e.1 (e.2 :: r)) (gap last [])
def pool (es : List (Nat × CpInfo)) (last : Nat) : Array CpInfo := ⟨poolList es last⟩
def fileOf (pool : Array CpInfo) (this : Nat) (attrs : Array Attribute := #[]) (ms : Array MethodInfo := #[]) (fl : Nat := 33) (sup : Nat := 0) (ifs : Array Nat := #[]) (fds : Array FieldInfo := #[]) : ClassFile where
  minorVersion := 0
  majorVersion := 65
  constantPool := pool
  accessFlags := fl
  thisClass := this
  superClass := sup
  interfaces := ifs
  fields := fds
  methods := ms
  attributes := attrs
def plain (name : String) (sup : Option ClassId) : Class where
  name := name
  kind := .ordinary
  loader := none
  accessFlags := 33
  super := sup
  interfaces := #[]
  cf := none
  fields := #[]
  methods := #[]
  instanceTypes := #[]
  staticTypes := #[]
  resolved := #[]
  callSites := []
  init := .initialized
  statics := none
  mirror := none

def pool0 : Array CpInfo := pool [(5, u "<init>"), (0, u "()V"), (1, .class_ 10), (1, u "java/lang/Object")] 113

def k0c0 : Code := { maxStack := 0, maxLocals := 1, code := object_method_1_code, exceptionTable := #[], attributes := #[] }
def k0m0 : Method := { name := "<init>", desc := "()V", sig := { parameters := [], returnType := none }, accessFlags := 1, code := some k0c0 }
/-- java/lang/Object -/
def k0 : Class := { plain "java/lang/Object" none with
  accessFlags := 33
  interfaces := #[]
  cf := some (fileOf pool0 8 #[] #[{ accessFlags := 1, nameIndex := 5, descriptorIndex := 6, attributes := #[] }] 33 0 #[] #[])
  fields := #[]
  methods := #[k0m0]
  instanceTypes := #[]
  staticTypes := #[]
  resolved := Array.replicate 124 none
  statics := none }

def pool1 : Array CpInfo := pool [(2, .class_ 4), (1, u "java/lang/Object"), (0, u "<init>"), (0, u "()V"), (0, .methodref 8 9), (0, .class_ 10), (0, .nameAndType 11 12), (0, u "com/example/muster/muster/model/MemberEqualsPinLaw"), (0, u "len"), (0, u "(I)I"), (0, .class_ 14), (0, u "java/lang/String"), (0, .methodref 13 16), (0, .nameAndType 5 17), (0, u "([C)V"), (0, .methodref 8 19), (0, .nameAndType 20 21), (0, u "c0"), (0, u "(I)C"), (0, .methodref 13 23), (0, .nameAndType 24 25), (0, u "valueOf"), (0, u "(C)Ljava/lang/String;"), (0, .methodref 8 27), (0, .nameAndType 28 21), (0, u "c1"), (0, .class_ 30), (0, u "com/example/muster/muster/model/Member"), (0, .methodref 8 32), (0, .nameAndType 33 34), (0, u "str"), (0, u "(I)Ljava/lang/String;"), (0, .methodref 29 36), (0, .nameAndType 5 37), (0, u "(Ljava/lang/String;Ljava/lang/String;)V"), (0, .methodref 8 39), (0, .nameAndType 40 41), (0, u "same"), (0, u "(II)Z"), (0, .methodref 29 43), (0, .nameAndType 44 45), (0, u "equals"), (0, u "(Ljava/lang/Object;)Z"), (3, u "law"), (0, u "(IIIII)Z")] 2

def k1m0 : Method := { name := "<init>", desc := "()V", sig := { parameters := [], returnType := none }, accessFlags := 1, code := none }
def k1c1 : Code := { maxStack := 2, maxLocals := 1, code := method_2_code, exceptionTable := #[], attributes := #[] }
def k1m1 : Method := { name := "len", desc := "(I)I", sig := { parameters := [.int], returnType := some .int }, accessFlags := 10, code := some k1c1 }
def k1c2 : Code := { maxStack := 2, maxLocals := 1, code := method_3_code, exceptionTable := #[], attributes := #[] }
def k1m2 : Method := { name := "c0", desc := "(I)C", sig := { parameters := [.int], returnType := some .char }, accessFlags := 10, code := some k1c2 }
def k1c3 : Code := { maxStack := 2, maxLocals := 1, code := method_4_code, exceptionTable := #[], attributes := #[] }
def k1m3 : Method := { name := "c1", desc := "(I)C", sig := { parameters := [.int], returnType := some .char }, accessFlags := 10, code := some k1c3 }
def k1c4 : Code := { maxStack := 6, maxLocals := 2, code := method_5_code, exceptionTable := #[], attributes := #[] }
def k1m4 : Method := { name := "str", desc := "(I)Ljava/lang/String;", sig := { parameters := [.int], returnType := some (.object "java/lang/String") }, accessFlags := 10, code := some k1c4 }
def k1c5 : Code := { maxStack := 2, maxLocals := 3, code := method_6_code, exceptionTable := #[], attributes := #[] }
def k1m5 : Method := { name := "same", desc := "(II)Z", sig := { parameters := [.int, .int], returnType := some .boolean }, accessFlags := 10, code := some k1c5 }
def k1c6 : Code := { maxStack := 4, maxLocals := 11, code := code, exceptionTable := #[], attributes := #[] }
def k1m6 : Method := { name := "law", desc := "(IIIII)Z", sig := { parameters := [.int, .int, .int, .int, .int], returnType := some .boolean }, accessFlags := 9, code := some k1c6 }
/-- com/example/muster/muster/model/MemberEqualsPinLaw -/
def k1 : Class := { plain "com/example/muster/muster/model/MemberEqualsPinLaw" (some 0) with
  accessFlags := 49
  interfaces := #[]
  cf := some (fileOf pool1 8 #[] #[{ accessFlags := 1, nameIndex := 5, descriptorIndex := 6, attributes := #[] }, { accessFlags := 10, nameIndex := 11, descriptorIndex := 12, attributes := #[] }, { accessFlags := 10, nameIndex := 20, descriptorIndex := 21, attributes := #[] }, { accessFlags := 10, nameIndex := 28, descriptorIndex := 21, attributes := #[] }, { accessFlags := 10, nameIndex := 33, descriptorIndex := 34, attributes := #[] }, { accessFlags := 10, nameIndex := 40, descriptorIndex := 41, attributes := #[] }, { accessFlags := 9, nameIndex := 49, descriptorIndex := 50, attributes := #[] }] 49 2 #[] #[])
  fields := #[]
  methods := #[k1m0, k1m1, k1m2, k1m3, k1m4, k1m5, k1m6]
  instanceTypes := #[]
  staticTypes := #[]
  resolved := Array.replicate 53 none
  statics := none }

def pool2 : Array CpInfo := pool [(1, .methodref 2 3), (0, .class_ 4), (0, .nameAndType 5 6), (0, u "java/lang/Object"), (0, u "<init>"), (0, u "()V"), (0, .fieldref 8 9), (0, .class_ 10), (0, .nameAndType 11 12), (0, u "com/example/muster/muster/model/Member"), (0, u "conversation"), (0, u "Ljava/lang/String;"), (0, .fieldref 8 14), (0, .nameAndType 15 12), (0, u "user"), (0, .methodref 17 18), (0, .class_ 19), (0, .nameAndType 20 21), (0, u "java/lang/String"), (0, u "equals"), (0, u "(Ljava/lang/Object;)Z"), (10, u "(Ljava/lang/String;Ljava/lang/String;)V")] 24

def k2c0 : Code := { maxStack := 2, maxLocals := 3, code := prog_13_method_1_code, exceptionTable := #[], attributes := #[] }
def k2m0 : Method := { name := "<init>", desc := "(Ljava/lang/String;Ljava/lang/String;)V", sig := { parameters := [(.object "java/lang/String"), (.object "java/lang/String")], returnType := none }, accessFlags := 1, code := some k2c0 }
def k2c1 : Code := { maxStack := 2, maxLocals := 3, code := prog_13_method_4_code, exceptionTable := #[], attributes := #[] }
def k2m1 : Method := { name := "equals", desc := "(Ljava/lang/Object;)Z", sig := { parameters := [(.object "java/lang/Object")], returnType := some .boolean }, accessFlags := 1, code := some k2c1 }
/-- com/example/muster/muster/model/Member -/
def k2 : Class := { plain "com/example/muster/muster/model/Member" (some 0) with
  accessFlags := 33
  interfaces := #[]
  cf := some (fileOf pool2 8 #[] #[{ accessFlags := 1, nameIndex := 5, descriptorIndex := 32, attributes := #[] }, { accessFlags := 1, nameIndex := 20, descriptorIndex := 21, attributes := #[] }] 33 2 #[] #[{ accessFlags := 18, nameIndex := 11, descriptorIndex := 12, attributes := #[] }, { accessFlags := 18, nameIndex := 15, descriptorIndex := 12, attributes := #[] }])
  fields := #[{ name := "conversation", type := (.object "java/lang/String"), accessFlags := 18, slot := 0, constantValue := 0 }, { name := "user", type := (.object "java/lang/String"), accessFlags := 18, slot := 1, constantValue := 0 }]
  methods := #[k2m0, k2m1]
  instanceTypes := #[(.object "java/lang/String"), (.object "java/lang/String")]
  staticTypes := #[]
  resolved := Array.replicate 57 none
  statics := none }

def pool3 : Array CpInfo := pool [(1, .class_ 2), (0, u "java/io/Serializable"), (0, .class_ 4), (0, u "java/lang/Object")] 2

/-- java/io/Serializable -/
def k3 : Class := { plain "java/io/Serializable" (some 0) with
  accessFlags := 1537
  interfaces := #[]
  cf := some (fileOf pool3 1 #[] #[] 1537 3 #[] #[])
  fields := #[]
  methods := #[]
  instanceTypes := #[]
  staticTypes := #[]
  resolved := Array.replicate 7 none
  statics := none }

def pool4 : Array CpInfo := pool [(1, .class_ 2), (0, u "java/lang/Comparable"), (0, .class_ 4), (0, u "java/lang/Object")] 7

/-- java/lang/Comparable -/
def k4 : Class := { plain "java/lang/Comparable" (some 0) with
  accessFlags := 1537
  interfaces := #[]
  cf := some (fileOf pool4 1 #[] #[] 1537 3 #[] #[])
  fields := #[]
  methods := #[]
  instanceTypes := #[]
  staticTypes := #[]
  resolved := Array.replicate 12 none
  statics := none }

def pool5 : Array CpInfo := pool [(2, .class_ 4), (1, u "java/lang/CharSequence"), (42, .class_ 48), (0, u "java/lang/CharSequence$1CodePointIterator"), (10, .class_ 60), (0, u "java/lang/CharSequence$1CharIterator"), (5, .class_ 67), (0, u "java/lang/Object")] 63

/-- java/lang/CharSequence -/
def k5 : Class := { plain "java/lang/CharSequence" (some 0) with
  accessFlags := 1537
  interfaces := #[]
  cf := some (fileOf pool5 2 #[.nestMembers #[47, 59]] #[] 1537 66 #[] #[])
  fields := #[]
  methods := #[]
  instanceTypes := #[]
  staticTypes := #[]
  resolved := Array.replicate 131 none
  statics := none }

def pool6 : Array CpInfo := pool [(1, .class_ 2), (0, u "java/lang/constant/Constable"), (0, .class_ 4), (0, u "java/lang/Object")] 6

/-- java/lang/constant/Constable -/
def k6 : Class := { plain "java/lang/constant/Constable" (some 0) with
  accessFlags := 1537
  interfaces := #[]
  cf := some (fileOf pool6 1 #[] #[] 1537 3 #[] #[])
  fields := #[]
  methods := #[]
  instanceTypes := #[]
  staticTypes := #[]
  resolved := Array.replicate 11 none
  statics := none }

def pool7 : Array CpInfo := pool [(1, .class_ 2), (0, u "java/lang/constant/ConstantDesc"), (0, .class_ 4), (0, u "java/lang/Object")] 32

/-- java/lang/constant/ConstantDesc -/
def k7 : Class := { plain "java/lang/constant/ConstantDesc" (some 0) with
  accessFlags := 1537
  interfaces := #[]
  cf := some (fileOf pool7 1 #[] #[] 1537 3 #[] #[])
  fields := #[]
  methods := #[]
  instanceTypes := #[]
  staticTypes := #[]
  resolved := Array.replicate 37 none
  statics := none }

def pool8 : Array CpInfo := pool [(1, .methodref 2 3), (0, .class_ 4), (0, .nameAndType 5 6), (0, u "java/lang/Object"), (0, u "<init>"), (0, u "()V"), (0, .string 8), (0, u ""), (0, .fieldref 10 11), (0, .class_ 12), (0, .nameAndType 13 14), (0, u "java/lang/String"), (0, u "value"), (0, u "[B"), (0, .fieldref 10 16), (0, .nameAndType 17 18), (0, u "coder"), (0, u "B"), (2, u "hash"), (0, u "I"), (2, u "hashIsZero"), (0, u "Z"), (0, .methodref 10 28), (0, .nameAndType 5 29), (0, u "([CIILjava/lang/Void;)V"), (8, .fieldref 10 39), (0, .nameAndType 40 26), (0, u "COMPACT_STRINGS"), (1, .class_ 44), (1, u "java/lang/StringUTF16"), (0, u "compress"), (1, .methodref 42 48), (0, .nameAndType 49 50), (0, u "coderFromArrayLen"), (0, u "([BI)B"), (2, u "toBytes"), (53, .class_ 109), (1, u "java/lang/StringLatin1"), (67, .methodref 42 178), (0, .nameAndType 45 179), (0, u "([CII)[B"), (29, .methodref 10 210), (0, .nameAndType 5 211), (0, u "([BB)V"), (157, u "(C)Z"), (171, .methodref 107 542), (0, .nameAndType 543 544), (0, u "equals"), (0, u "([B[B)Z"), (28, u "(Ljava/lang/Object;)Z"), (1, .class_ 576), (0, u "java/lang/CharSequence"), (22, u "CASE_INSENSITIVE_ORDER"), (0, u "Ljava/util/Comparator;"), (181, u "valueOf"), (0, u "(C)Ljava/lang/String;"), (226, u "([C)V"), (4, .methodref 107 1016), (0, .nameAndType 1017 369), (0, u "canEncode"), (0, .methodref 107 1019), (0, .nameAndType 53 1020), (0, u "(C)[B"), (80, u "serialPersistentFields"), (0, u "[Ljava/io/ObjectStreamField;"), (0, .class_ 1104), (0, u "java/lang/String$CaseInsensitiveComparator"), (1, .class_ 1107), (0, u "java/io/Serializable"), (0, .class_ 1109), (0, u "java/lang/Comparable"), (0, .class_ 1111), (0, u "java/lang/constant/Constable"), (0, .class_ 1113), (0, u "java/lang/constant/ConstantDesc"), (2, u "serialVersionUID"), (0, u "J"), (3, u "REPL"), (0, u "C"), (2, u "LATIN1"), (1, u "UTF16")] 323

def k8m0 : Method := { name := "<init>", desc := "()V", sig := { parameters := [], returnType := none }, accessFlags := 1, code := none }
def k8c1 : Code := { maxStack := 5, maxLocals := 2, code := jdk_42_method_3_code, exceptionTable := #[], attributes := #[] }
def k8m1 : Method := { name := "<init>", desc := "([C)V", sig := { parameters := [(.array .char)], returnType := none }, accessFlags := 1, code := some k8c1 }
def k8c2 : Code := { maxStack := 2, maxLocals := 3, code := jdk_42_method_66_code, exceptionTable := #[], attributes := #[] }
def k8m2 : Method := { name := "equals", desc := "(Ljava/lang/Object;)Z", sig := { parameters := [(.object "java/lang/Object")], returnType := some .boolean }, accessFlags := 1, code := some k8c2 }
def k8c3 : Code := { maxStack := 4, maxLocals := 1, code := jdk_42_method_139_code, exceptionTable := #[], attributes := #[] }
def k8m3 : Method := { name := "valueOf", desc := "(C)Ljava/lang/String;", sig := { parameters := [.char], returnType := some (.object "java/lang/String") }, accessFlags := 9, code := some k8c3 }
def k8c4 : Code := { maxStack := 4, maxLocals := 6, code := jdk_42_method_149_code, exceptionTable := #[], attributes := #[] }
def k8m4 : Method := { name := "<init>", desc := "([CIILjava/lang/Void;)V", sig := { parameters := [(.array .char), .int, .int, (.object "java/lang/Void")], returnType := none }, accessFlags := 2, code := some k8c4 }
def k8c5 : Code := { maxStack := 2, maxLocals := 3, code := jdk_42_method_151_code, exceptionTable := #[], attributes := #[] }
def k8m5 : Method := { name := "<init>", desc := "([BB)V", sig := { parameters := [(.array .byte), .byte], returnType := none }, accessFlags := 0, code := some k8c5 }
/-- java/lang/String -/
def k8 : Class := { plain "java/lang/String" (some 0) with
  accessFlags := 49
  interfaces := #[3, 4, 5, 6, 7]
  cf := some (fileOf pool8 10 #[.nestMembers #[1103]] #[{ accessFlags := 1, nameIndex := 5, descriptorIndex := 6, attributes := #[] }, { accessFlags := 1, nameIndex := 5, descriptorIndex := 1010, attributes := #[] }, { accessFlags := 1, nameIndex := 543, descriptorIndex := 573, attributes := #[] }, { accessFlags := 9, nameIndex := 782, descriptorIndex := 783, attributes := #[] }, { accessFlags := 2, nameIndex := 5, descriptorIndex := 29, attributes := #[] }, { accessFlags := 0, nameIndex := 5, descriptorIndex := 211, attributes := #[] }] 49 2 #[1106, 1108, 575, 1110, 1112] #[{ accessFlags := 18, nameIndex := 13, descriptorIndex := 14, attributes := #[] }, { accessFlags := 18, nameIndex := 17, descriptorIndex := 18, attributes := #[] }, { accessFlags := 2, nameIndex := 21, descriptorIndex := 22, attributes := #[] }, { accessFlags := 2, nameIndex := 25, descriptorIndex := 26, attributes := #[] }, { accessFlags := 26, nameIndex := 1116, descriptorIndex := 1117, attributes := #[] }, { accessFlags := 24, nameIndex := 40, descriptorIndex := 26, attributes := #[] }, { accessFlags := 26, nameIndex := 1101, descriptorIndex := 1102, attributes := #[] }, { accessFlags := 26, nameIndex := 1121, descriptorIndex := 1122, attributes := #[] }, { accessFlags := 25, nameIndex := 599, descriptorIndex := 600, attributes := #[] }, { accessFlags := 24, nameIndex := 1125, descriptorIndex := 18, attributes := #[] }, { accessFlags := 24, nameIndex := 1127, descriptorIndex := 18, attributes := #[] }])
  fields := #[{ name := "value", type := (.array .byte), accessFlags := 18, slot := 0, constantValue := 0 }, { name := "coder", type := .byte, accessFlags := 18, slot := 1, constantValue := 0 }, { name := "hash", type := .int, accessFlags := 2, slot := 2, constantValue := 0 }, { name := "hashIsZero", type := .boolean, accessFlags := 2, slot := 3, constantValue := 0 }, { name := "serialVersionUID", type := .long, accessFlags := 26, slot := 0, constantValue := 0 }, { name := "COMPACT_STRINGS", type := .boolean, accessFlags := 24, slot := 1, constantValue := 0 }, { name := "serialPersistentFields", type := (.array (.object "java/io/ObjectStreamField")), accessFlags := 26, slot := 2, constantValue := 0 }, { name := "REPL", type := .char, accessFlags := 26, slot := 3, constantValue := 0 }, { name := "CASE_INSENSITIVE_ORDER", type := (.object "java/util/Comparator"), accessFlags := 25, slot := 4, constantValue := 0 }, { name := "LATIN1", type := .byte, accessFlags := 24, slot := 5, constantValue := 0 }, { name := "UTF16", type := .byte, accessFlags := 24, slot := 6, constantValue := 0 }]
  methods := #[k8m0, k8m1, k8m2, k8m3, k8m4, k8m5]
  instanceTypes := #[(.array .byte), .byte, .int, .boolean]
  staticTypes := #[.long, .boolean, (.array (.object "java/io/ObjectStreamField")), .char, (.object "java/util/Comparator"), .byte, .byte]
  resolved := Array.replicate 1451 none
  statics := some 0 }

def pool9 : Array CpInfo := pool [(6, .class_ 8), (1, u "java/lang/Object"), (0, u "<init>"), (0, u "()V"), (1, .class_ 14), (1, u "java/lang/StringUTF16"), (31, u "$assertionsDisabled"), (0, u "Z"), (13, u "HI_BYTE_SHIFT"), (0, u "I"), (2, u "LO_BYTE_SHIFT"), (49, .methodref 12 116), (0, .nameAndType 117 118), (0, u "compress"), (0, u "([CI[BII)I"), (3, u "([CII)[B"), (138, u "coderFromArrayLen"), (0, u "([BI)B"), (106, .class_ 371), (1, u "java/lang/StringUTF16$LinesSpliterator"), (58, u "MAX_LENGTH"), (196, .class_ 628), (0, u "java/lang/StringUTF16$CodePointsSpliterator"), (0, .class_ 630), (0, u "java/lang/StringUTF16$CharsSpliterator")] 4

def k9m0 : Method := { name := "<init>", desc := "()V", sig := { parameters := [], returnType := none }, accessFlags := 0, code := none }
def k9c1 : Code := { maxStack := 2, maxLocals := 2, code := jdk_52_method_15_code, exceptionTable := #[], attributes := #[] }
def k9m1 : Method := { name := "coderFromArrayLen", desc := "([BI)B", sig := { parameters := [(.array .byte), .int], returnType := some .byte }, accessFlags := 8, code := some k9c1 }
def k9c2 : Code := { maxStack := 5, maxLocals := 6, code := jdk_52_method_16_code, exceptionTable := #[], attributes := #[] }
def k9m2 : Method := { name := "compress", desc := "([CII)[B", sig := { parameters := [(.array .char), .int, .int], returnType := some (.array .byte) }, accessFlags := 9, code := some k9c2 }
def k9c3 : Code := { maxStack := 3, maxLocals := 7, code := jdk_52_method_21_code, exceptionTable := #[], attributes := #[] }
def k9m3 : Method := { name := "compress", desc := "([CI[BII)I", sig := { parameters := [(.array .char), .int, (.array .byte), .int, .int], returnType := some .int }, accessFlags := 9, code := some k9c3 }
/-- java/lang/StringUTF16 -/
def k9 : Class := { plain "java/lang/StringUTF16" (some 0) with
  accessFlags := 48
  interfaces := #[]
  cf := some (fileOf pool9 12 #[.nestMembers #[627, 629, 369]] #[{ accessFlags := 0, nameIndex := 9, descriptorIndex := 10, attributes := #[] }, { accessFlags := 8, nameIndex := 261, descriptorIndex := 262, attributes := #[] }, { accessFlags := 9, nameIndex := 117, descriptorIndex := 122, attributes := #[] }, { accessFlags := 9, nameIndex := 117, descriptorIndex := 118, attributes := #[] }] 48 6 #[] #[{ accessFlags := 26, nameIndex := 61, descriptorIndex := 62, attributes := #[] }, { accessFlags := 26, nameIndex := 65, descriptorIndex := 62, attributes := #[] }, { accessFlags := 24, nameIndex := 430, descriptorIndex := 62, attributes := #[] }, { accessFlags := 4120, nameIndex := 46, descriptorIndex := 47, attributes := #[] }])
  fields := #[{ name := "HI_BYTE_SHIFT", type := .int, accessFlags := 26, slot := 0, constantValue := 0 }, { name := "LO_BYTE_SHIFT", type := .int, accessFlags := 26, slot := 1, constantValue := 0 }, { name := "MAX_LENGTH", type := .int, accessFlags := 24, slot := 2, constantValue := 0 }, { name := "$assertionsDisabled", type := .boolean, accessFlags := 4120, slot := 3, constantValue := 0 }]
  methods := #[k9m0, k9m1, k9m2, k9m3]
  instanceTypes := #[]
  staticTypes := #[.int, .int, .int, .boolean]
  resolved := Array.replicate 635 none
  statics := none }

def pool10 : Array CpInfo := pool [(4, .class_ 6), (1, u "java/lang/Object"), (0, u "<init>"), (0, u "()V"), (5, .class_ 16), (1, u "java/lang/StringLatin1"), (73, u "canEncode"), (14, u "(C)Z"), (15, u "$assertionsDisabled"), (0, u "Z"), (98, .class_ 223), (1, u "java/lang/StringLatin1$LinesSpliterator"), (57, u "equals"), (0, u "([B[B)Z"), (97, u "toBytes"), (1, u "(C)[B"), (7, .class_ 391), (0, u "java/lang/StringLatin1$CharsSpliterator")] 3

def k10m0 : Method := { name := "<init>", desc := "()V", sig := { parameters := [], returnType := none }, accessFlags := 0, code := none }
def k10c1 : Code := { maxStack := 2, maxLocals := 1, code := jdk_43_method_3_code, exceptionTable := #[], attributes := #[] }
def k10m1 : Method := { name := "canEncode", desc := "(C)Z", sig := { parameters := [.char], returnType := some .boolean }, accessFlags := 9, code := some k10c1 }
def k10c2 : Code := { maxStack := 3, maxLocals := 3, code := jdk_43_method_13_code, exceptionTable := #[], attributes := #[] }
def k10m2 : Method := { name := "equals", desc := "([B[B)Z", sig := { parameters := [(.array .byte), (.array .byte)], returnType := some .boolean }, accessFlags := 9, code := some k10c2 }
def k10c3 : Code := { maxStack := 4, maxLocals := 1, code := jdk_43_method_46_code, exceptionTable := #[], attributes := #[] }
def k10m3 : Method := { name := "toBytes", desc := "(C)[B", sig := { parameters := [.char], returnType := some (.array .byte) }, accessFlags := 9, code := some k10c3 }
/-- java/lang/StringLatin1 -/
def k10 : Class := { plain "java/lang/StringLatin1" (some 0) with
  accessFlags := 48
  interfaces := #[]
  cf := some (fileOf pool10 14 #[.nestMembers #[390, 221]] #[{ accessFlags := 0, nameIndex := 7, descriptorIndex := 8, attributes := #[] }, { accessFlags := 9, nameIndex := 90, descriptorIndex := 105, attributes := #[] }, { accessFlags := 9, nameIndex := 281, descriptorIndex := 282, attributes := #[] }, { accessFlags := 9, nameIndex := 380, descriptorIndex := 382, attributes := #[] }] 48 4 #[] #[{ accessFlags := 4120, nameIndex := 121, descriptorIndex := 122, attributes := #[] }])
  fields := #[{ name := "$assertionsDisabled", type := .boolean, accessFlags := 4120, slot := 0, constantValue := 0 }]
  methods := #[k10m0, k10m1, k10m2, k10m3]
  instanceTypes := #[]
  staticTypes := #[.boolean]
  resolved := Array.replicate 395 none
  statics := none }

def pool11 : Array CpInfo := pool [(2, .class_ 4), (1, u "java/lang/Object"), (0, u "<init>"), (0, u "()V"), (17, .class_ 26), (1, u "jdk/internal/util/Preconditions"), (28, .class_ 56), (0, u "jdk/internal/util/Preconditions$4"), (57, .class_ 115), (0, u "jdk/internal/util/Preconditions$1"), (7, u "SIOOBE_FORMATTER"), (0, u "Ljava/util/function/BiFunction;"), (0, .class_ 126), (0, u "jdk/internal/util/Preconditions$2"), (3, u "AIOOBE_FORMATTER"), (0, .class_ 132), (0, u "jdk/internal/util/Preconditions$3"), (3, u "IOOBE_FORMATTER")] 57

def k11m0 : Method := { name := "<init>", desc := "()V", sig := { parameters := [], returnType := none }, accessFlags := 1, code := none }
/-- jdk/internal/util/Preconditions -/
def k11 : Class := { plain "jdk/internal/util/Preconditions" (some 0) with
  accessFlags := 33
  interfaces := #[]
  cf := some (fileOf pool11 24 #[.nestMembers #[55, 131, 125, 114]] #[{ accessFlags := 1, nameIndex := 5, descriptorIndex := 6, attributes := #[] }] 33 2 #[] #[{ accessFlags := 25, nameIndex := 123, descriptorIndex := 124, attributes := #[] }, { accessFlags := 25, nameIndex := 130, descriptorIndex := 124, attributes := #[] }, { accessFlags := 25, nameIndex := 136, descriptorIndex := 124, attributes := #[] }])
  fields := #[{ name := "SIOOBE_FORMATTER", type := (.object "java/util/function/BiFunction"), accessFlags := 25, slot := 0, constantValue := 0 }, { name := "AIOOBE_FORMATTER", type := (.object "java/util/function/BiFunction"), accessFlags := 25, slot := 1, constantValue := 0 }, { name := "IOOBE_FORMATTER", type := (.object "java/util/function/BiFunction"), accessFlags := 25, slot := 2, constantValue := 0 }]
  methods := #[k11m0]
  instanceTypes := #[]
  staticTypes := #[(.object "java/util/function/BiFunction"), (.object "java/util/function/BiFunction"), (.object "java/util/function/BiFunction")]
  resolved := Array.replicate 194 none
  statics := some 1 }

def pool12 : Array CpInfo := pool [(9, u "<init>"), (6, .class_ 18), (1, u "java/lang/Object"), (0, u "()V"), (1, .class_ 23), (1, u "jdk/internal/util/ArraysSupport"), (0, u "LOG2_ARRAY_LONG_INDEX_SCALE"), (0, u "I"), (2, u "U"), (0, u "Ljdk/internal/misc/Unsafe;"), (8, u "BIG_ENDIAN"), (0, u "Z"), (8, u "LOG2_BYTE_BIT_SIZE"), (4, u "LOG2_ARRAY_INT_INDEX_SCALE"), (54, u "JLA"), (0, u "Ljdk/internal/access/JavaLangAccess;"), (11, u "LOG2_ARRAY_BOOLEAN_INDEX_SCALE"), (9, u "LOG2_ARRAY_BYTE_INDEX_SCALE"), (5, u "LOG2_ARRAY_CHAR_INDEX_SCALE"), (5, u "LOG2_ARRAY_SHORT_INDEX_SCALE"), (18, u "LOG2_ARRAY_FLOAT_INDEX_SCALE"), (24, u "LOG2_ARRAY_DOUBLE_INDEX_SCALE"), (89, u "T_BOOLEAN"), (2, u "T_CHAR"), (1, u "T_FLOAT"), (1, u "T_DOUBLE"), (1, u "T_BYTE"), (1, u "T_SHORT"), (1, u "T_INT"), (1, u "T_LONG"), (1, u "SOFT_MAX_ARRAY_LENGTH")] 83

def k12m0 : Method := { name := "<init>", desc := "()V", sig := { parameters := [], returnType := none }, accessFlags := 2, code := none }
/-- jdk/internal/util/ArraysSupport -/
def k12 : Class := { plain "jdk/internal/util/ArraysSupport" (some 0) with
  accessFlags := 33
  interfaces := #[]
  cf := some (fileOf pool12 21 #[] #[{ accessFlags := 2, nameIndex := 9, descriptorIndex := 19, attributes := #[] }] 33 16 #[] #[{ accessFlags := 24, nameIndex := 28, descriptorIndex := 29, attributes := #[] }, { accessFlags := 26, nameIndex := 38, descriptorIndex := 39, attributes := #[] }, { accessFlags := 25, nameIndex := 121, descriptorIndex := 25, attributes := #[] }, { accessFlags := 25, nameIndex := 131, descriptorIndex := 25, attributes := #[] }, { accessFlags := 25, nameIndex := 137, descriptorIndex := 25, attributes := #[] }, { accessFlags := 25, nameIndex := 143, descriptorIndex := 25, attributes := #[] }, { accessFlags := 25, nameIndex := 53, descriptorIndex := 25, attributes := #[] }, { accessFlags := 25, nameIndex := 24, descriptorIndex := 25, attributes := #[] }, { accessFlags := 25, nameIndex := 162, descriptorIndex := 25, attributes := #[] }, { accessFlags := 25, nameIndex := 187, descriptorIndex := 25, attributes := #[] }, { accessFlags := 26, nameIndex := 48, descriptorIndex := 25, attributes := #[] }, { accessFlags := 25, nameIndex := 277, descriptorIndex := 25, attributes := #[] }, { accessFlags := 25, nameIndex := 280, descriptorIndex := 25, attributes := #[] }, { accessFlags := 25, nameIndex := 282, descriptorIndex := 25, attributes := #[] }, { accessFlags := 25, nameIndex := 284, descriptorIndex := 25, attributes := #[] }, { accessFlags := 25, nameIndex := 286, descriptorIndex := 25, attributes := #[] }, { accessFlags := 25, nameIndex := 288, descriptorIndex := 25, attributes := #[] }, { accessFlags := 25, nameIndex := 290, descriptorIndex := 25, attributes := #[] }, { accessFlags := 25, nameIndex := 292, descriptorIndex := 25, attributes := #[] }, { accessFlags := 26, nameIndex := 108, descriptorIndex := 109, attributes := #[] }, { accessFlags := 25, nameIndex := 294, descriptorIndex := 25, attributes := #[] }])
  fields := #[{ name := "U", type := (.object "jdk/internal/misc/Unsafe"), accessFlags := 24, slot := 0, constantValue := 0 }, { name := "BIG_ENDIAN", type := .boolean, accessFlags := 26, slot := 1, constantValue := 0 }, { name := "LOG2_ARRAY_BOOLEAN_INDEX_SCALE", type := .int, accessFlags := 25, slot := 2, constantValue := 0 }, { name := "LOG2_ARRAY_BYTE_INDEX_SCALE", type := .int, accessFlags := 25, slot := 3, constantValue := 0 }, { name := "LOG2_ARRAY_CHAR_INDEX_SCALE", type := .int, accessFlags := 25, slot := 4, constantValue := 0 }, { name := "LOG2_ARRAY_SHORT_INDEX_SCALE", type := .int, accessFlags := 25, slot := 5, constantValue := 0 }, { name := "LOG2_ARRAY_INT_INDEX_SCALE", type := .int, accessFlags := 25, slot := 6, constantValue := 0 }, { name := "LOG2_ARRAY_LONG_INDEX_SCALE", type := .int, accessFlags := 25, slot := 7, constantValue := 0 }, { name := "LOG2_ARRAY_FLOAT_INDEX_SCALE", type := .int, accessFlags := 25, slot := 8, constantValue := 0 }, { name := "LOG2_ARRAY_DOUBLE_INDEX_SCALE", type := .int, accessFlags := 25, slot := 9, constantValue := 0 }, { name := "LOG2_BYTE_BIT_SIZE", type := .int, accessFlags := 26, slot := 10, constantValue := 0 }, { name := "T_BOOLEAN", type := .int, accessFlags := 25, slot := 11, constantValue := 0 }, { name := "T_CHAR", type := .int, accessFlags := 25, slot := 12, constantValue := 0 }, { name := "T_FLOAT", type := .int, accessFlags := 25, slot := 13, constantValue := 0 }, { name := "T_DOUBLE", type := .int, accessFlags := 25, slot := 14, constantValue := 0 }, { name := "T_BYTE", type := .int, accessFlags := 25, slot := 15, constantValue := 0 }, { name := "T_SHORT", type := .int, accessFlags := 25, slot := 16, constantValue := 0 }, { name := "T_INT", type := .int, accessFlags := 25, slot := 17, constantValue := 0 }, { name := "T_LONG", type := .int, accessFlags := 25, slot := 18, constantValue := 0 }, { name := "JLA", type := (.object "jdk/internal/access/JavaLangAccess"), accessFlags := 26, slot := 19, constantValue := 0 }, { name := "SOFT_MAX_ARRAY_LENGTH", type := .int, accessFlags := 25, slot := 20, constantValue := 0 }]
  methods := #[k12m0]
  instanceTypes := #[]
  staticTypes := #[(.object "jdk/internal/misc/Unsafe"), .boolean, .int, .int, .int, .int, .int, .int, .int, .int, .int, .int, .int, .int, .int, .int, .int, .int, .int, (.object "jdk/internal/access/JavaLangAccess"), .int]
  resolved := Array.replicate 378 none
  statics := none }

def pool13 : Array CpInfo := pool [(1, u "java/lang/Cloneable"), (0, .class_ 1), (0, u "java/lang/Object"), (0, .class_ 3)] 3

/-- java/lang/Cloneable -/
def k13 : Class := { plain "java/lang/Cloneable" (some 0) with
  accessFlags := 1537
  interfaces := #[]
  cf := some (fileOf pool13 2 #[] #[] 1537 4 #[] #[])
  fields := #[]
  methods := #[]
  instanceTypes := #[]
  staticTypes := #[]
  resolved := Array.replicate 8 none
  statics := none }

/-- the primitive byte -/
def k14 : Class := { plain "byte" none with kind := .primitive 'B', accessFlags := 0x411 }
/-- [B -/
def k15 : Class := { plain "[B" (some 0) with kind := .array 14 .byte, interfaces := #[13, 3], accessFlags := 1041 }

/-- the primitive char -/
def k16 : Class := { plain "char" none with kind := .primitive 'C', accessFlags := 0x411 }
/-- [C -/
def k17 : Class := { plain "[C" (some 0) with kind := .array 16 .char, interfaces := #[13, 3], accessFlags := 1041 }

/-- the primitive int -/
def k18 : Class := { plain "int" none with kind := .primitive 'I', accessFlags := 0x411 }
/-- [I -/
def k19 : Class := { plain "[I" (some 0) with kind := .array 18 .int, interfaces := #[13, 3], accessFlags := 1041 }

def heap : Heap := #[{ cls := 8, slots := #[.long 0, .int 1, .null, .int 0, .null, .int 0, .int 0], vm := .statics 8 },
  { cls := 11, slots := #[.null, .null, .null], vm := .statics 11 }]
def classes : Array Class := #[k0, k1, k2, k3, k4, k5, k6, k7, k8, k9, k10, k11, k12, k13, k14, k15, k16, k17, k18, k19]
def interned : List (Array UInt16 × Addr) := []
def slotsUsed : Nat := 10
def theMethod : MethodId := ⟨1, 6⟩
def args0 : Array Value := #[.int 37, .int 7, .int 1, .int 2, .int 3]
def aboutOver (below : List Frame) : State where
  vm := { classes := classes, interned := interned.toArray }
  heap := heap
  slotsUsed := slotsUsed
  threads := #[{ frames := .invoking theMethod args0 :: below }]
def below0 : List Frame := [.native { method := ⟨0, 0⟩, args := #[] }]
def about1 : State := aboutOver below0
def p0 : Program := .bare "" "" ""
def e0 : Env := launch0.env 0 0 0
theorem w_frames : about1.frames = Frame.invoking theMethod args0 :: below0 := rfl
set_option maxRecDepth 65536 in
theorem w_args : argsFit about1.vm theMethod args0 = true := by decide +kernel
set_option maxRecDepth 65536 in
theorem w_heap : heapFits about1 = true := by decide +kernel
set_option maxRecDepth 65536 in
theorem w_runnable : about1.curStatus? = some .runnable := by decide +kernel
set_option maxRecDepth 65536 in
theorem w_alone : about1.alone = true := by decide +kernel
set_option maxRecDepth 65536 in
theorem w_named : about1.methodNamed? x = some theMethod := by decide +kernel
set_option maxRecDepth 65536 in
theorem w_hears : about1.hears theMethod below0 = true := by decide +kernel
set_option maxRecDepth 65536 in
theorem w_ripe : about1.ripe theMethod args0 below0 = true := by decide +kernel
theorem w_running : about1.status = .running := rfl
set_option maxRecDepth 65536 in
theorem w_room : about1.hasRoom e0.platform room_1 = true :=
  launch0.hasRoom_least _ room_1 (by decide +kernel) (by decide +kernel) (by decide +kernel) (by decide +kernel) (by decide +kernel) (by decide +kernel)
theorem allAtoms_all (ts : List Jvm.Cond) (a : Array Jvm.Value) (st : Jvm.State) : (allAtoms ts).before a st = ts.all (fun c => c.before a st) := by
  induction ts with
  | nil => rfl
  | cons c t ih =>
    show (Jvm.Cond.and c (allAtoms t)).before a st = _
    rw [Jvm.Cond.before_and, ih, List.all_cons]
def words1 : List Jvm.Cond := Jvm.Cond.code x code maxLocals ret :: tables_1
/-- a 'code' word, met by the world's own term for the bytes: nothing is compared byte by byte -/
theorem code_word {y : MethodName} {bytes : ByteArray} {mx : Nat} {rt : Option FieldType} {a : Array Value} {s : State} {m : MethodId} {meth : Method} {c : Code} (h1 : s.methodNamed? y = some m) (h2 : s.vm.method? m = some meth) (h3 : meth.code = some c) (h4 : c.code = bytes)
    (h5 : (c.maxLocals == mx && c.exceptionTable.isEmpty && decide (c.maxStack ≤ mostOperands) && decide (meth.sig.returnType = rt) && !meth.locks && decide (parseMethodDescriptor y.desc = some meth.sig)) = true) : (Jvm.Cond.code y bytes mx rt).before a s = true := by
  simp only [Bool.and_eq_true, beq_iff_eq, Bool.not_eq_true', decide_eq_true_eq] at h5
  obtain ⟨⟨⟨⟨⟨g1, g2⟩, g3⟩, g4⟩, g5⟩, g6⟩ := h5
  simp [Cond.before, Cond.holds, Cond.value, h1, h2, h3, h4, g1, g2, g3, g4, g5, g6]
def isCode : Jvm.Cond → Bool
  | .code _ _ _ _ => true
  | _ => false
theorem all_split {L : List Jvm.Cond} {P : Jvm.Cond → Bool} (h1 : L.all (fun c => isCode c || P c) = true) (h2 : ∀ c ∈ L.filter isCode, P c = true) : L.all P = true := by
  refine List.all_eq_true.mpr fun c hc => ?_
  have h := List.all_eq_true.mp h1 c hc
  rcases Bool.eq_false_or_eq_true (isCode c) with hi | hi
  · exact h2 c (List.mem_filter.mpr ⟨hc, hi⟩)
  · simpa [hi] using h
set_option maxRecDepth 65536 in
theorem w_c0 : (Jvm.Cond.code x code maxLocals ret).before args0 about1 = true := code_word (m := ⟨1, 6⟩) (meth := k1m6) (c := k1c6) (by decide +kernel) rfl rfl rfl (by decide +kernel)
set_option maxRecDepth 65536 in
theorem w_c1 : (Jvm.Cond.code ({ cls := "com/example/muster/muster/model/MemberEqualsPinLaw", name := "str", desc := "(I)Ljava/lang/String;" } : Jvm.MethodName) method_5_code (2 : Nat) (Option.some (Jvm.ClassFile.FieldType.object "java/lang/String"))).before args0 about1 = true := code_word (m := ⟨1, 4⟩) (meth := k1m4) (c := k1c4) (by decide +kernel) rfl rfl rfl (by decide +kernel)
set_option maxRecDepth 65536 in
theorem w_c2 : (Jvm.Cond.code ({ cls := "com/example/muster/muster/model/MemberEqualsPinLaw", name := "len", desc := "(I)I" } : Jvm.MethodName) method_2_code (1 : Nat) (Option.some Jvm.ClassFile.FieldType.int)).before args0 about1 = true := code_word (m := ⟨1, 1⟩) (meth := k1m1) (c := k1c1) (by decide +kernel) rfl rfl rfl (by decide +kernel)
set_option maxRecDepth 65536 in
theorem w_c3 : (Jvm.Cond.code ({ cls := "java/lang/String", name := "<init>", desc := "([C)V" } : Jvm.MethodName) jdk_42_method_3_code (2 : Nat) (Option.none : Option Jvm.ClassFile.FieldType)).before args0 about1 = true := code_word (m := ⟨8, 1⟩) (meth := k8m1) (c := k8c1) (by decide +kernel) rfl rfl rfl (by decide +kernel)
set_option maxRecDepth 65536 in
theorem w_c4 : (Jvm.Cond.code ({ cls := "java/lang/String", name := "<init>", desc := "([CIILjava/lang/Void;)V" } : Jvm.MethodName) jdk_42_method_149_code (6 : Nat) (Option.none : Option Jvm.ClassFile.FieldType)).before args0 about1 = true := code_word (m := ⟨8, 4⟩) (meth := k8m4) (c := k8c4) (by decide +kernel) rfl rfl rfl (by decide +kernel)
set_option maxRecDepth 65536 in
theorem w_c5 : (Jvm.Cond.code ({ cls := "java/lang/Object", name := "<init>", desc := "()V" } : Jvm.MethodName) object_method_1_code (1 : Nat) (Option.none : Option Jvm.ClassFile.FieldType)).before args0 about1 = true := code_word (m := ⟨0, 0⟩) (meth := k0m0) (c := k0c0) (by decide +kernel) rfl rfl rfl (by decide +kernel)
set_option maxRecDepth 65536 in
theorem w_c6 : (Jvm.Cond.code ({ cls := "com/example/muster/muster/model/Member", name := "<init>", desc := "(Ljava/lang/String;Ljava/lang/String;)V" } : Jvm.MethodName) prog_13_method_1_code (3 : Nat) (Option.none : Option Jvm.ClassFile.FieldType)).before args0 about1 = true := code_word (m := ⟨2, 0⟩) (meth := k2m0) (c := k2c0) (by decide +kernel) rfl rfl rfl (by decide +kernel)
set_option maxRecDepth 65536 in
theorem w_c7 : (Jvm.Cond.code ({ cls := "com/example/muster/muster/model/MemberEqualsPinLaw", name := "c0", desc := "(I)C" } : Jvm.MethodName) method_3_code (1 : Nat) (Option.some Jvm.ClassFile.FieldType.char)).before args0 about1 = true := code_word (m := ⟨1, 2⟩) (meth := k1m2) (c := k1c2) (by decide +kernel) rfl rfl rfl (by decide +kernel)
set_option maxRecDepth 65536 in
theorem w_c8 : (Jvm.Cond.code ({ cls := "com/example/muster/muster/model/MemberEqualsPinLaw", name := "c1", desc := "(I)C" } : Jvm.MethodName) method_4_code (1 : Nat) (Option.some Jvm.ClassFile.FieldType.char)).before args0 about1 = true := code_word (m := ⟨1, 3⟩) (meth := k1m3) (c := k1c3) (by decide +kernel) rfl rfl rfl (by decide +kernel)
set_option maxRecDepth 65536 in
theorem w_c9 : (Jvm.Cond.code ({ cls := "java/lang/StringUTF16", name := "compress", desc := "([CII)[B" } : Jvm.MethodName) jdk_52_method_16_code (6 : Nat) (Option.some (Jvm.ClassFile.FieldType.array Jvm.ClassFile.FieldType.byte))).before args0 about1 = true := code_word (m := ⟨9, 2⟩) (meth := k9m2) (c := k9c2) (by decide +kernel) rfl rfl rfl (by decide +kernel)
set_option maxRecDepth 65536 in
theorem w_c10 : (Jvm.Cond.code ({ cls := "java/lang/StringUTF16", name := "compress", desc := "([CI[BII)I" } : Jvm.MethodName) jdk_52_method_21_code (7 : Nat) (Option.some Jvm.ClassFile.FieldType.int)).before args0 about1 = true := code_word (m := ⟨9, 3⟩) (meth := k9m3) (c := k9c3) (by decide +kernel) rfl rfl rfl (by decide +kernel)
set_option maxRecDepth 65536 in
theorem w_c11 : (Jvm.Cond.code ({ cls := "java/lang/StringUTF16", name := "coderFromArrayLen", desc := "([BI)B" } : Jvm.MethodName) jdk_52_method_15_code (2 : Nat) (Option.some Jvm.ClassFile.FieldType.byte)).before args0 about1 = true := code_word (m := ⟨9, 1⟩) (meth := k9m1) (c := k9c1) (by decide +kernel) rfl rfl rfl (by decide +kernel)
set_option maxRecDepth 65536 in
theorem w_c12 : (Jvm.Cond.code ({ cls := "java/lang/String", name := "valueOf", desc := "(C)Ljava/lang/String;" } : Jvm.MethodName) jdk_42_method_139_code (1 : Nat) (Option.some (Jvm.ClassFile.FieldType.object "java/lang/String"))).before args0 about1 = true := code_word (m := ⟨8, 3⟩) (meth := k8m3) (c := k8c3) (by decide +kernel) rfl rfl rfl (by decide +kernel)
set_option maxRecDepth 65536 in
theorem w_c13 : (Jvm.Cond.code ({ cls := "java/lang/StringLatin1", name := "canEncode", desc := "(C)Z" } : Jvm.MethodName) jdk_43_method_3_code (1 : Nat) (Option.some Jvm.ClassFile.FieldType.boolean)).before args0 about1 = true := code_word (m := ⟨10, 1⟩) (meth := k10m1) (c := k10c1) (by decide +kernel) rfl rfl rfl (by decide +kernel)
set_option maxRecDepth 65536 in
theorem w_c14 : (Jvm.Cond.code ({ cls := "java/lang/StringLatin1", name := "toBytes", desc := "(C)[B" } : Jvm.MethodName) jdk_43_method_46_code (1 : Nat) (Option.some (Jvm.ClassFile.FieldType.array Jvm.ClassFile.FieldType.byte))).before args0 about1 = true := code_word (m := ⟨10, 3⟩) (meth := k10m3) (c := k10c3) (by decide +kernel) rfl rfl rfl (by decide +kernel)
set_option maxRecDepth 65536 in
theorem w_c15 : (Jvm.Cond.code ({ cls := "java/lang/String", name := "<init>", desc := "([BB)V" } : Jvm.MethodName) jdk_42_method_151_code (3 : Nat) (Option.none : Option Jvm.ClassFile.FieldType)).before args0 about1 = true := code_word (m := ⟨8, 5⟩) (meth := k8m5) (c := k8c5) (by decide +kernel) rfl rfl rfl (by decide +kernel)
set_option maxRecDepth 65536 in
theorem w_c16 : (Jvm.Cond.code ({ cls := "com/example/muster/muster/model/MemberEqualsPinLaw", name := "same", desc := "(II)Z" } : Jvm.MethodName) method_6_code (3 : Nat) (Option.some Jvm.ClassFile.FieldType.boolean)).before args0 about1 = true := code_word (m := ⟨1, 5⟩) (meth := k1m5) (c := k1c5) (by decide +kernel) rfl rfl rfl (by decide +kernel)
set_option maxRecDepth 65536 in
theorem w_c17 : (Jvm.Cond.code ({ cls := "com/example/muster/muster/model/Member", name := "equals", desc := "(Ljava/lang/Object;)Z" } : Jvm.MethodName) prog_13_method_4_code (3 : Nat) (Option.some Jvm.ClassFile.FieldType.boolean)).before args0 about1 = true := code_word (m := ⟨2, 1⟩) (meth := k2m1) (c := k2c1) (by decide +kernel) rfl rfl rfl (by decide +kernel)
set_option maxRecDepth 65536 in
theorem w_c18 : (Jvm.Cond.code ({ cls := "java/lang/String", name := "equals", desc := "(Ljava/lang/Object;)Z" } : Jvm.MethodName) jdk_42_method_66_code (3 : Nat) (Option.some Jvm.ClassFile.FieldType.boolean)).before args0 about1 = true := code_word (m := ⟨8, 2⟩) (meth := k8m2) (c := k8c2) (by decide +kernel) rfl rfl rfl (by decide +kernel)
set_option maxRecDepth 65536 in
theorem w_c19 : (Jvm.Cond.code ({ cls := "java/lang/StringLatin1", name := "equals", desc := "([B[B)Z" } : Jvm.MethodName) jdk_43_method_13_code (3 : Nat) (Option.some Jvm.ClassFile.FieldType.boolean)).before args0 about1 = true := code_word (m := ⟨10, 2⟩) (meth := k10m2) (c := k10c2) (by decide +kernel) rfl rfl rfl (by decide +kernel)
def codes1 : List Jvm.Cond := [Jvm.Cond.code x code maxLocals ret, Jvm.Cond.code ({ cls := "com/example/muster/muster/model/MemberEqualsPinLaw", name := "str", desc := "(I)Ljava/lang/String;" } : Jvm.MethodName) method_5_code (2 : Nat) (Option.some (Jvm.ClassFile.FieldType.object "java/lang/String")), Jvm.Cond.code ({ cls := "com/example/muster/muster/model/MemberEqualsPinLaw", name := "len", desc := "(I)I" } : Jvm.MethodName) method_2_code (1 : Nat) (Option.some Jvm.ClassFile.FieldType.int), Jvm.Cond.code ({ cls := "java/lang/String", name := "<init>", desc := "([C)V" } : Jvm.MethodName) jdk_42_method_3_code (2 : Nat) (Option.none : Option Jvm.ClassFile.FieldType), Jvm.Cond.code ({ cls := "java/lang/String", name := "<init>", desc := "([CIILjava/lang/Void;)V" } : Jvm.MethodName) jdk_42_method_149_code (6 : Nat) (Option.none : Option Jvm.ClassFile.FieldType), Jvm.Cond.code ({ cls := "java/lang/Object", name := "<init>", desc := "()V" } : Jvm.MethodName) object_method_1_code (1 : Nat) (Option.none : Option Jvm.ClassFile.FieldType), Jvm.Cond.code ({ cls := "com/example/muster/muster/model/Member", name := "<init>", desc := "(Ljava/lang/String;Ljava/lang/String;)V" } : Jvm.MethodName) prog_13_method_1_code (3 : Nat) (Option.none : Option Jvm.ClassFile.FieldType), Jvm.Cond.code ({ cls := "com/example/muster/muster/model/MemberEqualsPinLaw", name := "c0", desc := "(I)C" } : Jvm.MethodName) method_3_code (1 : Nat) (Option.some Jvm.ClassFile.FieldType.char), Jvm.Cond.code ({ cls := "com/example/muster/muster/model/MemberEqualsPinLaw", name := "c1", desc := "(I)C" } : Jvm.MethodName) method_4_code (1 : Nat) (Option.some Jvm.ClassFile.FieldType.char), Jvm.Cond.code ({ cls := "java/lang/StringUTF16", name := "compress", desc := "([CII)[B" } : Jvm.MethodName) jdk_52_method_16_code (6 : Nat) (Option.some (Jvm.ClassFile.FieldType.array Jvm.ClassFile.FieldType.byte)), Jvm.Cond.code ({ cls := "java/lang/StringUTF16", name := "compress", desc := "([CI[BII)I" } : Jvm.MethodName) jdk_52_method_21_code (7 : Nat) (Option.some Jvm.ClassFile.FieldType.int), Jvm.Cond.code ({ cls := "java/lang/StringUTF16", name := "coderFromArrayLen", desc := "([BI)B" } : Jvm.MethodName) jdk_52_method_15_code (2 : Nat) (Option.some Jvm.ClassFile.FieldType.byte), Jvm.Cond.code ({ cls := "java/lang/String", name := "valueOf", desc := "(C)Ljava/lang/String;" } : Jvm.MethodName) jdk_42_method_139_code (1 : Nat) (Option.some (Jvm.ClassFile.FieldType.object "java/lang/String")), Jvm.Cond.code ({ cls := "java/lang/StringLatin1", name := "canEncode", desc := "(C)Z" } : Jvm.MethodName) jdk_43_method_3_code (1 : Nat) (Option.some Jvm.ClassFile.FieldType.boolean), Jvm.Cond.code ({ cls := "java/lang/StringLatin1", name := "toBytes", desc := "(C)[B" } : Jvm.MethodName) jdk_43_method_46_code (1 : Nat) (Option.some (Jvm.ClassFile.FieldType.array Jvm.ClassFile.FieldType.byte)), Jvm.Cond.code ({ cls := "java/lang/String", name := "<init>", desc := "([BB)V" } : Jvm.MethodName) jdk_42_method_151_code (3 : Nat) (Option.none : Option Jvm.ClassFile.FieldType), Jvm.Cond.code ({ cls := "com/example/muster/muster/model/MemberEqualsPinLaw", name := "same", desc := "(II)Z" } : Jvm.MethodName) method_6_code (3 : Nat) (Option.some Jvm.ClassFile.FieldType.boolean), Jvm.Cond.code ({ cls := "com/example/muster/muster/model/Member", name := "equals", desc := "(Ljava/lang/Object;)Z" } : Jvm.MethodName) prog_13_method_4_code (3 : Nat) (Option.some Jvm.ClassFile.FieldType.boolean), Jvm.Cond.code ({ cls := "java/lang/String", name := "equals", desc := "(Ljava/lang/Object;)Z" } : Jvm.MethodName) jdk_42_method_66_code (3 : Nat) (Option.some Jvm.ClassFile.FieldType.boolean), Jvm.Cond.code ({ cls := "java/lang/StringLatin1", name := "equals", desc := "([B[B)Z" } : Jvm.MethodName) jdk_43_method_13_code (3 : Nat) (Option.some Jvm.ClassFile.FieldType.boolean)]
set_option maxRecDepth 65536 in
theorem codes_eq : words1.filter isCode = codes1 := rfl
theorem w_codes : ∀ c ∈ words1.filter isCode, c.before args0 about1 = true := by
  rw [codes_eq]
  intro c hc
  simp only [codes1, List.mem_cons, List.not_mem_nil, or_false] at hc
  rcases hc with rfl | rfl | rfl | rfl | rfl | rfl | rfl | rfl | rfl | rfl | rfl | rfl | rfl | rfl | rfl | rfl | rfl | rfl | rfl | rfl
  · exact w_c0
  · exact w_c1
  · exact w_c2
  · exact w_c3
  · exact w_c4
  · exact w_c5
  · exact w_c6
  · exact w_c7
  · exact w_c8
  · exact w_c9
  · exact w_c10
  · exact w_c11
  · exact w_c12
  · exact w_c13
  · exact w_c14
  · exact w_c15
  · exact w_c16
  · exact w_c17
  · exact w_c18
  · exact w_c19
set_option maxRecDepth 65536 in
theorem w_t1 : (words1.take 24).all (fun c => isCode c || c.before args0 about1) = true := by decide +kernel
set_option maxRecDepth 65536 in
theorem w_t2 : ((words1.drop 24).take 24).all (fun c => isCode c || c.before args0 about1) = true := by decide +kernel
set_option maxRecDepth 65536 in
theorem w_t3 : (((words1.drop 24).drop 24).take 24).all (fun c => isCode c || c.before args0 about1) = true := by decide +kernel
set_option maxRecDepth 65536 in
theorem w_t4 : (((words1.drop 24).drop 24).drop 24).all (fun c => isCode c || c.before args0 about1) = true := by decide +kernel
theorem w_tables : (allAtoms (Jvm.Cond.code x code maxLocals ret :: tables_1)).before args0 about1 = true := by
  rw [allAtoms_all]
  show words1.all (fun c => c.before args0 about1) = true
  refine all_split ?_ w_codes
  rw [← List.take_append_drop 24 words1, List.all_append, w_t1, ← List.take_append_drop 24 (words1.drop 24), List.all_append, w_t2, ← List.take_append_drop 24 ((words1.drop 24).drop 24), List.all_append, w_t3, w_t4]
  rfl
set_option maxRecDepth 65536 in
theorem w_rest : rest_1_c.before args0 about1 = true := by decide +kernel
set_option maxRecDepth 65536 in
theorem w_case : (Jvm.Cond.and given_1 narrow_1).before args0 about1 = true := by decide +kernel
set_option maxRecDepth 65536 in
theorem w_consts : constsHeld consts_1 about1 := Jvm.Lit.constsHeldB_iff.mp (by decide +kernel)
theorem w_applies : (headSpec (Jvm.Cond.code x code maxLocals ret :: tables_1) room_1).applies x e0.platform about1 = true :=
  (Spec.applies_iff w_frames).mpr ⟨w_running, w_runnable, w_alone, w_named, w_hears, w_ripe, w_room, w_tables⟩
theorem atStart : AtStart classFile x code maxLocals ret World_1 tables_1 room_1 Calls_1 rest_1 Pre_1 launch0 p0 e0 about1 theMethod args0 below0 :=
  ⟨lists_1, trivial, launch0.admits_env _ _ _, launch0.least_env, fairChoices_fair.cas, fairChoices_fair.clock, w_frames, w_args, w_heap, w_applies, ⟨w_consts, trivial⟩, w_rest, w_case⟩
end start1
theorem witness_1 : WitnessClaimed_1 := ⟨start1.p0, start1.e0, start1.about1, start1.theMethod, start1.args0, start1.below0, start1.atStart⟩
end Jvm.Pilot.@@N@@
