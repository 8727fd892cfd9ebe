import JvmDerived
import JvmDerived.Pilot.@@N@@Statement
import JvmDerived.Pilot.@@N@@Code
set_option linter.unusedVariables false
set_option linter.unusedSimpArgs false
namespace Jvm.Pilot.@@N@@
open Jvm Jvm.ClassFile Sem Op Lib Jvm.Free Jvm.Stand Jvm.LawKit Jvm.RoadKit Bundle Jvm.Pilot.@@N@@.Jvm.D
section OwnGo
variable {p : Program} {l : Launch} {e : Env} {R : Room} {s : State} {m : MethodId} {args : Array Value} {below : List Frame} {meth : Method} {c : Code} {T T' : State} {locs : List Loc} {cells slots : Nat} {Q : Option Value → Heap → List Loc → Prop} {C S : Nat} {g g' : JFrame} {F : Outcome → State → Prop}
/-- from this state and frame the body comes to an end of which F holds -/
def Go (p : Program) (e : Env) (below : List Frame) (F : Outcome → State → Prop) (T : State) (g : JFrame) : Prop :=
  ∃ s₂ o, Steps p.tables e below (T.setTop g) s₂ ∧ s₂.status = .running ∧ Ended s₂ below o ∧ F o s₂
/-- it returned, Q holds, and nothing else has moved than L and so many new cells and slots -/
abbrev EndN (s : State) (Q : Option Value → Heap → List Loc → Prop) (C S : Nat) (o : Outcome) (t : State) : Prop := ∃ v L, o = .returned v ∧ Q v t.heap L ∧ FrameEnd s o t L C S
theorem Go.enter (q : g = g') (k : Go p e below F T g') : ∃ s₂ o, Steps p.tables e below (T.setTop g) s₂ ∧ s₂.status = .running ∧ Ended s₂ below o ∧ F o s₂ := by
  subst q
  exact k
theorem Go.by (h : ∀ t, Steps p.tables e below (T'.setTop g') t → Steps p.tables e below (T.setTop g) t) (k : Go p e below F T' g') : Go p e below F T g := by
  obtain ⟨s₂, o, h1, h2⟩ := k
  exact ⟨s₂, o, h _ h1, h2⟩
theorem Go.to (h : Steps p.tables e below (T.setTop g) (T'.setTop g')) (k : Go p e below F T' g') : Go p e below F T g := by
  obtain ⟨s₂, o, h1, h2⟩ := k
  exact ⟨s₂, o, h.trans h1, h2⟩
abbrev own_retKind (i : Instr) (t : FieldType) (w : Value) : Prop := (i = .ireturn ∧ (t = .int ∨ t = .boolean ∨ t = .byte ∨ t = .char ∨ t = .short) ∧ ∃ z, w = .int z) ∨ (i = .lreturn ∧ t = .long ∧ ∃ z, w = .long z) ∨ (i = .dreturn ∧ t = .double ∧ ∃ z, w = .double z) ∨ (i = .freturn ∧ t = .float ∧ ∃ z, w = .float z) ∨ (i = .areturn ∧ t.isReference = true ∧ w.isRef = true)
theorem Go.ret (X : Stand p l e R s m args below meth c T locs cells slots) (hx : p.tables.exec = Jvm.exec) (hlocks : meth.locks = false) {pc : Nat} {Ls : Array Slot} {w : Value} {t : FieldType} {i : Instr} {rest : List Value} (hret : meth.sig.returnType = some t) (hn : narrow t w = w)
    (hi : own_retKind i t w) (hd : decode c.code pc = .ok (i, 1)) (hq : Q (some w) T.heap locs) (hc : cells ≤ C) (hs : slots ≤ S) : Go p e below (EndN s Q C S) T (mkF m pc Ls (w :: rest)) := by
  obtain ⟨fs, hr, hrun, hended, hW, hsame⟩ := X.leave (v := some w) (fun h => by rw [hret] at h; cases h) hlocks
  exact ⟨_, _, retOut X hx hret hn hi hd hr, hrun, hended, _, _, rfl, hq, ⟨_, rfl⟩, hW, hsame.mono hc hs⟩
theorem Go.retI (X : Stand p l e R s m args below meth c T locs cells slots) (hx : p.tables.exec = Jvm.exec) (hlocks : meth.locks = false) {pc : Nat} {Ls : Array Slot} {w : Int32} {t : FieldType} {rest : List Value} (hret : meth.sig.returnType = some t) (hn : narrow t (.int w) = .int w)
    (ht : t = .int ∨ t = .boolean ∨ t = .byte ∨ t = .char ∨ t = .short) (hd : decode c.code pc = .ok (.ireturn, 1)) (hq : Q (some (.int w)) T.heap locs) (hc : cells ≤ C) (hs : slots ≤ S) : Go p e below (EndN s Q C S) T (mkF m pc Ls (.int w :: rest)) :=
  Go.ret X hx hlocks hret hn (Or.inl ⟨rfl, ht, _, rfl⟩) hd hq hc hs
theorem Go.retJ (X : Stand p l e R s m args below meth c T locs cells slots) (hx : p.tables.exec = Jvm.exec) (hlocks : meth.locks = false) {pc : Nat} {Ls : Array Slot} {w : Int64} {rest : List Value} (hret : meth.sig.returnType = some .long)
    (hd : decode c.code pc = .ok (.lreturn, 1)) (hq : Q (some (.long w)) T.heap locs) (hc : cells ≤ C) (hs : slots ≤ S) : Go p e below (EndN s Q C S) T (mkF m pc Ls (.long w :: rest)) :=
  Go.ret X hx hlocks hret rfl (Or.inr (Or.inl ⟨rfl, rfl, _, rfl⟩)) hd hq hc hs
theorem own_narR (t : FieldType) {w : Value} (ht : t.isReference = true) (hw : w.isRef = true) : narrow t w = w := by
  cases t <;> first | (simp [FieldType.isReference] at ht; done) | (rcases ref_cases hw with rfl | ⟨_, rfl⟩ <;> rfl)
theorem own_fitR (t : FieldType) {w : Value} (ht : t.isReference = true) (hw : w.isRef = true) : fits t w = true := by
  cases t <;> first | (simp [FieldType.isReference] at ht; done) | (rcases ref_cases hw with rfl | ⟨_, rfl⟩ <;> rfl)
theorem Go.retA (X : Stand p l e R s m args below meth c T locs cells slots) (hx : p.tables.exec = Jvm.exec) (hlocks : meth.locks = false) {pc : Nat} {Ls : Array Slot} {w : Value} {t : FieldType} {rest : List Value} (hret : meth.sig.returnType = some t) (ht : t.isReference = true) (hw : w.isRef = true)
    (hd : decode c.code pc = .ok (.areturn, 1)) (hq : Q (some w) T.heap locs) (hc : cells ≤ C) (hs : slots ≤ S) : Go p e below (EndN s Q C S) T (mkF m pc Ls (w :: rest)) :=
  Go.ret X hx hlocks hret (own_narR t ht hw) (Or.inr (Or.inr (Or.inr (Or.inr ⟨rfl, ht, hw⟩)))) hd hq hc hs
theorem Go.retV (X : Stand p l e R s m args below meth c T locs cells slots) (hx : p.tables.exec = Jvm.exec) (hlocks : meth.locks = false) {pc : Nat} {Ls : Array Slot} (hret : meth.sig.returnType = none)
    (hd : decode c.code pc = .ok (.return_, 1)) (hq : Q none T.heap locs) (hc : cells ≤ C) (hs : slots ≤ S) : Go p e below (EndN s Q C S) T (mkF m pc Ls []) := by
  obtain ⟨fs, hr, hrun, hended, hW, hsame⟩ := X.leave (v := none) (fun _ => rfl) hlocks
  exact ⟨_, _, X.returnOut hx hret hd hr, hrun, hended, _, _, rfl, hq, ⟨_, rfl⟩, hW, hsame.mono hc hs⟩
/-- two or more roads that meet: what comes behind is shown once, for every x that P allows -/
theorem Go.join {α : Type} {P : α → Prop} {fr : α → JFrame} (h : ∀ x, P x → Go p e below F T (fr x)) (k : (∀ x, P x → Go p e below F T (fr x)) → Go p e below F T g) : Go p e below F T g := k h
def own_at (X : Stand p l e R s m args below meth c T locs cells slots) (h : Heap) (T' : State) : Prop := Stand p l e R s m args below meth c T' locs cells slots ∧ T'.heap = h
theorem Go.joinT {α : Type} {St : State → Prop} {P : α → Prop} {fr : α → JFrame} (h : ∀ T', St T' → ∀ x, P x → Go p e below F T' (fr x)) (k : (∀ T', St T' → ∀ x, P x → Go p e below F T' (fr x)) → Go p e below F T g) : Go p e below F T g := k h
end OwnGo
section OwnWide
variable {p : Program} {l : Launch} {e : Env} {R : Room} {s : State} {m : MethodId} {args : Array Value} {below : List Frame} {meth : Method} {c : Code} {T T' : State} {locs : List Loc} {cells slots : Nat} {Q : Option Value → Heap → List Loc → Prop} {C S n : Nat} {Z : State} {a0 : Array Value} {EL : List (String × Nat)} {vm : Vm} {h : Heap}
/-- it returned, Q holds, the held literals go on, and nothing else has moved than L, so many new cells and slots, and literals interned -/
abbrev EndW (Z : State) (EL : List (String × Nat)) (s : State) (Q : Option Value → Heap → List Loc → Prop) (C S : Nat) (o : Outcome) (t : State) : Prop := ∃ v L, o = .returned v ∧ Q v t.heap L ∧ CHr Z EL s.vm s.heap t.vm t.heap ∧ ReturnedEndW s o t L C S
theorem Go.retW (X : Stand p l e R (s.setVm vm) m args below meth c T locs cells slots) (hx : p.tables.exec = Jvm.exec) (hlocks : meth.locks = false) (hS : s.Since vm n) (hk : n ≤ T.heap.size) (hZ : Z.Warmed39 vm) (hEL : EW Z a0 EL) (hCH : CHr Z EL s.vm s.heap vm T.heap) {pc : Nat} {Ls : Array Slot} {w : Value} {t : FieldType} {i : Instr} {rest : List Value}
    (hret : meth.sig.returnType = some t) (hn : narrow t w = w) (hi : own_retKind i t w) (hd : decode c.code pc = .ok (i, 1)) (hq : Q (some w) T.heap locs) (hc : cells ≤ C) (hs : slots ≤ S) : Go p e below (EndW Z EL s Q C S) T (mkF m pc Ls (w :: rest)) := by
  obtain ⟨fs, hr, hrun, hended, h1, h2, h3, h4⟩ := X.leaveW hS hk (v := some w) (fun h => by rw [hret] at h; cases h) hlocks
  have hA : CHr Z EL s.vm s.heap T.vm T.heap := hCH.trans (CHv.at X hZ hEL hCH.1)
  exact ⟨_, _, retOut X hx hret hn hi hd hr, hrun, hended, _, _, rfl, hq, hA, h1, h2, h3, h4.mono hc hs⟩
theorem Go.retIW (X : Stand p l e R (s.setVm vm) m args below meth c T locs cells slots) (hx : p.tables.exec = Jvm.exec) (hlocks : meth.locks = false) (hS : s.Since vm n) (hk : n ≤ T.heap.size) (hZ : Z.Warmed39 vm) (hEL : EW Z a0 EL) (hCH : CHr Z EL s.vm s.heap vm T.heap) {pc : Nat} {Ls : Array Slot} {w : Int32} {t : FieldType} {rest : List Value}
    (hret : meth.sig.returnType = some t) (hn : narrow t (.int w) = .int w) (ht : t = .int ∨ t = .boolean ∨ t = .byte ∨ t = .char ∨ t = .short) (hd : decode c.code pc = .ok (.ireturn, 1)) (hq : Q (some (.int w)) T.heap locs) (hc : cells ≤ C) (hs : slots ≤ S) : Go p e below (EndW Z EL s Q C S) T (mkF m pc Ls (.int w :: rest)) :=
  Go.retW X hx hlocks hS hk hZ hEL hCH hret hn (Or.inl ⟨rfl, ht, _, rfl⟩) hd hq hc hs
theorem Go.retAW (X : Stand p l e R (s.setVm vm) m args below meth c T locs cells slots) (hx : p.tables.exec = Jvm.exec) (hlocks : meth.locks = false) (hS : s.Since vm n) (hk : n ≤ T.heap.size) (hZ : Z.Warmed39 vm) (hEL : EW Z a0 EL) (hCH : CHr Z EL s.vm s.heap vm T.heap) {pc : Nat} {Ls : Array Slot} {w : Value} {t : FieldType} {rest : List Value}
    (hret : meth.sig.returnType = some t) (ht : t.isReference = true) (hw : w.isRef = true) (hd : decode c.code pc = .ok (.areturn, 1)) (hq : Q (some w) T.heap locs) (hc : cells ≤ C) (hs : slots ≤ S) : Go p e below (EndW Z EL s Q C S) T (mkF m pc Ls (w :: rest)) :=
  Go.retW X hx hlocks hS hk hZ hEL hCH hret (own_narR t ht hw) (Or.inr (Or.inr (Or.inr (Or.inr ⟨rfl, ht, hw⟩)))) hd hq hc hs
theorem Go.retVW (X : Stand p l e R (s.setVm vm) m args below meth c T locs cells slots) (hx : p.tables.exec = Jvm.exec) (hlocks : meth.locks = false) (hS : s.Since vm n) (hk : n ≤ T.heap.size) (hZ : Z.Warmed39 vm) (hEL : EW Z a0 EL) (hCH : CHr Z EL s.vm s.heap vm T.heap) {pc : Nat} {Ls : Array Slot}
    (hret : meth.sig.returnType = none) (hd : decode c.code pc = .ok (.return_, 1)) (hq : Q none T.heap locs) (hc : cells ≤ C) (hs : slots ≤ S) : Go p e below (EndW Z EL s Q C S) T (mkF m pc Ls []) := by
  obtain ⟨fs, hr, hrun, hended, h1, h2, h3, h4⟩ := X.leaveW hS hk (v := none) (fun _ => rfl) hlocks
  have hA : CHr Z EL s.vm s.heap T.vm T.heap := hCH.trans (CHv.at X hZ hEL hCH.1)
  exact ⟨_, _, X.returnOut hx hret hd hr, hrun, hended, _, _, rfl, hq, hA, h1, h2, h3, h4.mono hc hs⟩
end OwnWide
open Jvm.Free.SB Jvm.Free.SBG in
/-- a String whose value is still null is no held literal -/
theorem own_safe {Z : State} {vm : Vm} {EL : List (String × Nat)} {h : Heap} {x : Addr} (hal : Z.vm.Alike vm) (E : Exa Z h x "java/lang/String") (F : Fld Z h x "java/lang/String" "value" "[B" .null) : Safe Z EL vm h x := fun B => by
  obtain ⟨p, -, u, a, -, q, -, G, rfl | rfl⟩ := B
  · obtain ⟨cell, cf, k, i, f, h1, h2, h3, h4, h5, h6, h7⟩ := F
    cases (show h[q.sa]? = some q.sC from G.ha).symm.trans h1
    obtain ⟨cS, ⟨⟨s1, s2, s3, ⟨cv, kv, iv, s4, s4'⟩, -, s6, s7, s8, -⟩, -, -⟩, -⟩ := G
    obtain ⟨kv', z4⟩ := ff_back (Z := Z) (U := Wst Z vm h) hal s4
    cases h2.symm.trans z4
    cases h7.symm.trans s8
  · obtain ⟨cell, k, e1, e2, e3, -, -⟩ := E
    cases (show h[q.sd]? = some q.SA from G.hd).symm.trans e1
    obtain ⟨cS, -, -, f, -⟩ := G
    have f' : Z.vm.findClass "[B" = some q.SA.cls := by rw [← hal.findClass]; exact f
    exact ids_ne e2 f' (by decide) rfl

abbrev own_EL : List (String × Nat) := [("java/lang/String", 7)]
theorem own_EW {Z : State} {a0 : Array Value} (hw : ∀ d ∈ tables_1, d.before a0 Z = true) : EW Z a0 own_EL := (EW.cons (hw _ (List.mem_of_getElem? (i := 21) rfl)) (by decide) EW.nil)
theorem own_SA {Z : State} {a0 : Array Value} (hw : ∀ d ∈ tables_1, d.before a0 Z = true) : ∀ a ∈ Bundle.stringAtoms, a.before a0 Z = true := fun d hd => hw d ((by decide +kernel : ∀ d ∈ Bundle.stringAtoms, d ∈ tables_1) d hd)
theorem own_masked (x : Int32) : ¬ (x &&& 2147483647) < 0 := by
  have h := (c_and x (2147483647 : Int32) (by decide)).1
  rw [XT.negI32]
  omega
theorem own_irem (x y : Int32) : x - x / y * y = x % y := irem_eq_mod x y
theorem own_rem {x d k : Int32} (n : Nat) (hx : ¬ x < 0) (hd : d.toInt = n) (hn : 0 < n) (hk : k = x - x / d * d) : ∃ j : Nat, j < n ∧ k = Int32.ofNat j := by
  rw [own_irem] at hk
  rw [XT.negI32] at hx
  have h1 := (c_irem x d n hd).1 (by omega)
  have h2 := Int.emod_nonneg x.toInt (b := (n : Int)) (by omega)
  have h3 := Int.emod_lt_of_pos x.toInt (b := (n : Int)) (by omega)
  refine ⟨k.toInt.toNat, by rw [hk, h1]; omega, ?_⟩
  apply Int32.toInt_inj.mp
  have h4 := rng32 k
  rw [← hk] at h1
  rw [Int32.toInt_ofNat_of_lt (by omega)]
  omega

theorem own_ord {args : Array Value} {s : State} {t : Term} {a : Addr} {C n d : String} {k : Int32} (h : (Jvm.Cond.eq (Term.field t C n d) (Term.int k)).value args s none s [] = some true) (ev : t.eval args s none [] s = some (.ref a)) : s.fieldOf? a C n d = some (.int k) :=
  (fld_at ev).symm.trans (eqv_i (Term.int_eval k) h)
theorem own_eqR {args : Array Value} {s : State} {X Y : Term} {d : Addr} (h : (Jvm.Cond.eq X Y).value args s none s [] = some true) (hY : Y.eval args s none [] s = some (.ref d)) : X.eval args s none [] s = some (.ref d) := by
  obtain ⟨x, y, hx, hy, -, hk⟩ := cmp_v (Or.inl h)
  obtain rfl : (.ref d) = y := Option.some.inj (hY.symm.trans hy)
  have hr : x.isRef = true := hk.2
  rw [hx, gotT (eq_R hx hY hr rfl) h]

/-- a char's low byte, signed -/
def own_b (c : Int32) : Int32 := c.toInt8.toInt32
theorem own_bn (c : Int32) : nar .byte c.toInt8.toInt32 = own_b c := by
  show c.toInt8.toInt32.toInt8.toInt32 = c.toInt8.toInt32
  simp
theorem own_b_inj {c d : Int32} (h1 : ¬ c < 0) (h2 : ¬ (255 : Int32) < c) (h3 : ¬ d < 0) (h4 : ¬ (255 : Int32) < d) (h : own_b c = own_b d) : c = d := by
  have e1 := c_i2b c
  have e2 := c_i2b d
  have e3 : c.toInt8.toInt32.toInt = d.toInt8.toInt32.toInt := congrArg Int32.toInt h
  rw [Int32.lt_iff_toInt_lt] at h1 h2 h3 h4
  simp at h1 h2 h3 h4
  apply Int32.toInt_inj.mp
  omega
theorem own_nc (x : Int32) : nar .char (x &&& 255) = x &&& 255 := i2c_mask x
theorem own_255 (x : Int32) : ¬ (255 : Int32) < x &&& 255 := by
  have h := c_and x (255 : Int32) (by decide)
  rw [Int32.lt_iff_toInt_lt]
  have : (255 : Int32).toInt = 255 := by decide
  omega
theorem own_0 (x : Int32) : ¬ (x &&& 255) < 0 := by
  have h := c_and x (255 : Int32) (by decide)
  rw [XT.negI32]
  omega

def own_str (n a b : Int32) : List Value := if n = 0 then [] else if n = 1 then [(.int (own_b a))] else [(.int (own_b a)), (.int (own_b b))]
theorem own_str_0 (a b : Int32) : own_str 0 a b = [] := by simp [own_str]
theorem own_str_1 (a b : Int32) : own_str 1 a b = [(.int (own_b a))] := by simp [own_str]
theorem own_str_2 (a b : Int32) : own_str 2 a b = [(.int (own_b a)), (.int (own_b b))] := by simp [own_str]
/-- the two Strings of up to two signs say the same -/
def own_eq (n xa xb m ya yb : Int32) : Prop := n = m ∧ (n = 0 ∨ own_b xa = own_b ya) ∧ (¬ n = 2 ∨ own_b xb = own_b yb)
theorem own_and3 (x : Int32) : ¬ (x &&& 3) < 0 := by
  have h := (c_and x (3 : Int32) (by decide)).1
  rw [XT.negI32]
  omega
theorem own_mod3 {x k : Int32} (h : k = (x &&& 3) - (x &&& 3) / 3 * 3) : k = 0 ∨ k = 1 ∨ k = 2 := by
  obtain ⟨j, hj, rfl⟩ := own_rem 3 (own_and3 x) (d := 3) rfl (by decide) h
  rcases (by omega : j = 0 ∨ j = 1 ∨ j = 2) with rfl | rfl | rfl <;> simp
theorem own_chr {c x : Int32} (h : c = x &&& 255) : ¬ c < 0 ∧ ¬ (255 : Int32) < c ∧ nar .char c = c := by
  subst h
  exact ⟨own_0 x, own_255 x, own_nc x⟩
/-- the law's own word on two Strings of up to two signs: they are the same -/
def own_same (n xa xb m ya yb : Int32) : Prop := n = m ∧ (m < 1 ∨ xa = ya) ∧ (m < 2 ∨ xb = yb)
theorem own_same_iff {n xa xb m ya yb : Int32} (hm : m = 0 ∨ m = 1 ∨ m = 2) (h1 : ¬ xa < 0 ∧ ¬ (255 : Int32) < xa ∧ nar .char xa = xa) (h2 : ¬ xb < 0 ∧ ¬ (255 : Int32) < xb ∧ nar .char xb = xb) (h3 : ¬ ya < 0 ∧ ¬ (255 : Int32) < ya ∧ nar .char ya = ya) (h4 : ¬ yb < 0 ∧ ¬ (255 : Int32) < yb ∧ nar .char yb = yb) : own_eq n xa xb m ya yb ↔ own_same n xa xb m ya yb := by
  have e1 : own_b xa = own_b ya ↔ xa = ya := ⟨own_b_inj h1.1 h1.2.1 h3.1 h3.2.1, fun q => q ▸ rfl⟩
  have e2 : own_b xb = own_b yb ↔ xb = yb := ⟨own_b_inj h2.1 h2.2.1 h4.1 h4.2.1, fun q => q ▸ rfl⟩
  unfold own_eq own_same
  rw [e1, e2]
  constructor
  · rintro ⟨rfl, q1, q2⟩
    rcases hm with rfl | rfl | rfl <;> simp_all
  · rintro ⟨rfl, q1, q2⟩
    rcases hm with rfl | rfl | rfl <;> simp_all
theorem own_eq_refl (n xa xb : Int32) : own_eq n xa xb n xa xb := ⟨rfl, Or.inr rfl, Or.inr rfl⟩
theorem pn_2 : plainName "com/example/muster/muster/model/VisibilityShowsPinLaw" = true := by first | (simp [plainName, overriddenIn]; done) | decide +kernel
theorem ef_3 (m : MethodId) (x0 : Int32) (x1 : Int32) (x2 : Int32) : entryFrame m #[(.int x0), (.int x1), (.int x2)] 3 = mkF m 0 #[.val (.int x0), .val (.int x1), .val (.int x2)] [] := by (first | (simp [entryFrame, mkF, argsToLocals, Value.category]; done) | rfl)
theorem pn_4 : plainName "java/lang/String" = true := by first | (simp [plainName, overriddenIn]; done) | decide +kernel
theorem ef_5 (m : MethodId) (x0 : Addr) (x1 : Addr) (x2 : Int32) (x3 : Int32) : entryFrame m #[(.ref x0), (.ref x1), (.int x2), (.int x3), .null] 6 = mkF m 0 #[.val (.ref x0), .val (.ref x1), .val (.int x2), .val (.int x3), .val .null, .unset] [] := by (first | (simp [entryFrame, mkF, argsToLocals, Value.category]; done) | rfl)
theorem d3_0 : decode jdk_42_method_149_code 0 = .ok (.aload_n 0, 1) := by decide +kernel
theorem d3_1 : decode jdk_42_method_149_code 1 = .ok (.invokespecial 1, 3) := by decide +kernel
theorem d3_4 : decode jdk_42_method_149_code 4 = .ok (.iload_n 3, 1) := by decide +kernel
theorem d3_5 : decode jdk_42_method_149_code 5 = .ok (.ifCond .ne 22, 3) := by decide +kernel
theorem d3_8 : decode jdk_42_method_149_code 8 = .ok (.aload_n 0, 1) := by decide +kernel
theorem d3_9 : decode jdk_42_method_149_code 9 = .ok (.ldc 7, 2) := by decide +kernel
theorem d3_11 : decode jdk_42_method_149_code 11 = .ok (.getfield 9, 3) := by decide +kernel
theorem d3_14 : decode jdk_42_method_149_code 14 = .ok (.putfield 9, 3) := by decide +kernel
theorem d3_17 : decode jdk_42_method_149_code 17 = .ok (.aload_n 0, 1) := by decide +kernel
theorem d3_18 : decode jdk_42_method_149_code 18 = .ok (.ldc 7, 2) := by decide +kernel
theorem d3_20 : decode jdk_42_method_149_code 20 = .ok (.getfield 15, 3) := by decide +kernel
theorem d3_23 : decode jdk_42_method_149_code 23 = .ok (.putfield 15, 3) := by decide +kernel
theorem d3_26 : decode jdk_42_method_149_code 26 = .ok (.return_, 1) := by decide +kernel
def Q_rmS4_e (Z : State) (a : Addr) (va : Addr) (h0 : Heap) (n0 : Nat) (v : Option Value) (h : Heap) (L : List Loc) : Prop := ∃ b : Addr, ∃ kb : ClassId, v = none ∧ Fr n0 L ∧ Keep h0 h [a] ∧ Exa Z h a "java/lang/String" ∧ Fld Z h a "java/lang/String" "coder" "B" (.int (0 : Int32)) ∧ Fld Z h a "java/lang/String" "value" "[B" (.ref b) ∧ Arv Z h b kb .byte (0 : Int32) ([]) (.int (0 : Int32))
set_option maxRecDepth 65536 in
set_option maxHeartbeats 40000000 in
theorem rmS4_e (l : Launch) (Z : State) (a0 : Array Value) (hw : ∀ d ∈ tables_1, d.before a0 Z = true) (ws : List Jvm.Cond) (a : Addr) (va : Addr) (h0 : Heap) (n0 : Nat) (Z0 : n0 ≤ h0.size) (O0 : Old Z n0 h0) (E_a : Exa Z h0 a "java/lang/String") (F_a_value : Fld Z h0 a "java/lang/String" "value" "[B" .null) (F_a_coder : Fld Z h0 a "java/lang/String" "coder" "B" (.int (0 : Int32))) (g_a : n0 ≤ a) :
    MetFree l (⟨"java/lang/String", "<init>", "([CIILjava/lang/Void;)V"⟩ : MethodName) (head1 (Jvm.Cond.code (⟨"java/lang/String", "<init>", "([CIILjava/lang/Void;)V"⟩ : MethodName) jdk_42_method_149_code 6 none :: ws) ({ frames := 1, cells := 4, slots := 8, locals := 12 } : Room)) (fun as' U => as' = #[(.ref a), (.ref va), (.int (0 : Int32)), (.int (0 : Int32)), .null] ∧ Z.Warmed39 U.vm ∧ U.heap = h0 ∧ CHv Z own_EL U.vm h0) (fun _ _ _ _ _ => True) (fun _ U o U' => ∃ v L, o = .returned v ∧ Q_rmS4_e Z a va h0 n0 v U'.heap L ∧ CHr Z own_EL U.vm U.heap U'.vm U'.heap ∧ ReturnedEndW U o U' L ({ frames := 1, cells := 4, slots := 8, locals := 12 } : Room).cells ({ frames := 1, cells := 4, slots := 8, locals := 12 } : Room).slots) := by
  refine MetFree.of_bodySF (plainFor_of_name pn_4) hisR ?_
  intro p e s m args below meth c s₁ Bd hml0 hP hK
  obtain ⟨rfl, hZ, hh, hH⟩ := hP
  have hx := Bd.exec
  have hby := Bd.bytes
  have hml : c.maxLocals = 6 := hml0
  have hown : s.vm.findClass "java/lang/String" = some m.cls := findClass_of_methodNamed Bd.named
  have hnm := (name_of_methodNamed Bd.named Bd.method).1
  have X0 : Stand p l e ({ frames := 1, cells := 4, slots := 8, locals := 12 } : Room) (s.setVm s.vm) m #[(.ref a), (.ref va), (.int (0 : Int32)), (.int (0 : Int32)), .null] below meth c s₁ [] 0 0 := Stand.of_body Bd
  have e0 : s₁.heap = h0 := by rw [← hh, Bd.state]; rfl
  have N0 := Fr.nil n0
  have hS0 : s.Since s.vm s.heap.size := (State.WarmedH.refl s).since _
  have hk0 : s.heap.size ≤ h0.size := Nat.le_of_eq (by rw [hh])
  have C0 : CHr Z own_EL s.vm h0 s.vm h0 := CHr.refl hH
  have hEL := own_EW hw
  have hSA := own_SA hw
  refine Go.enter (F := EndW Z own_EL s (Q_rmS4_e Z a va h0 n0) ({ frames := 1, cells := 4, slots := 8, locals := 12 } : Room).cells ({ frames := 1, cells := 4, slots := 8, locals := 12 } : Room).slots) (ef_5 m a va (0 : Int32) (0 : Int32)) ?_
  have Sf1 : Safe Z own_EL s.vm h0 a := own_safe hZ.alike E_a F_a_value
  show Go _ _ _ _ s₁ (mkF m 0 #[.val (.ref a), .val (.ref va), .val (.int (0 : Int32)), .val (.int (0 : Int32)), .val .null, .unset] [])
  refine Go.by (fun _ gk => XS.aloadN X0.here hx rfl (hb hby d3_0) rfl rfl gk) ?_
  show Go _ _ _ _ s₁ (mkF m 1 #[.val (.ref a), .val (.ref va), .val (.int (0 : Int32)), .val (.int (0 : Int32)), .val .null, .unset] [(.ref a)])
  obtain ⟨T2, X2, e2, st2⟩ := initO X0 hx hZ hown (hw _ (List.mem_of_getElem? (i := 18) rfl)) (hw _ (List.mem_of_getElem? (i := 19) rfl)) (hw _ (List.mem_of_getElem? (i := 20) rfl)) e0 (g := (mkF m 1 #[.val (.ref a), .val (.ref va), .val (.int (0 : Int32)), .val (.int (0 : Int32)), .val .null, .unset] [(.ref a)])) rfl (by rw [hml]; rfl) rfl (hb hby d3_1) (by decide) (W := 0) (by show 2 * 0 + _ ≤ _; exact Nat.le_of_eq rfl) (by decide)
  refine Go.by st2 ?_
  show Go _ _ _ _ T2 (mkF m 4 #[.val (.ref a), .val (.ref va), .val (.int (0 : Int32)), .val (.int (0 : Int32)), .val .null, .unset] [])
  refine Go.by (fun _ gk => XS.iloadN X2.here hx rfl (hb hby d3_4) rfl gk) ?_
  show Go _ _ _ _ T2 (mkF m 5 #[.val (.ref a), .val (.ref va), .val (.int (0 : Int32)), .val (.int (0 : Int32)), .val .null, .unset] [(.int (0 : Int32))])
  refine Go.by (fun _ gk => XS.ifNo X2.here hx rfl (hb hby d3_5) rfl (XT.i0_ne_f rfl) gk) ?_
  show Go _ _ _ _ T2 (mkF m 8 #[.val (.ref a), .val (.ref va), .val (.int (0 : Int32)), .val (.int (0 : Int32)), .val .null, .unset] [])
  refine Go.by (fun _ gk => XS.aloadN X2.here hx rfl (hb hby d3_8) rfl rfl gk) ?_
  show Go _ _ _ _ T2 (mkF m 9 #[.val (.ref a), .val (.ref va), .val (.int (0 : Int32)), .val (.int (0 : Int32)), .val .null, .unset] [(.ref a)])
  obtain ⟨q1, T3, h3, kq3, q1b, k3, X3, e3, E3, hS3, hk3, hZ3, hown3, Ea3, Fc3, Fv3, Va3, -, -, CH3, -, sf3, st3⟩ := ldcCH X2 hx hZ hown (hw _ (List.mem_of_getElem? (i := 21) rfl)) hSA e2 hS0 hk0 hEL (List.mem_of_getElem? (i := 0) rfl) C0.1 (vs := []) (z := (0 : Int32)) ⟨by decide, by decide⟩ (by decide) rfl (g := (mkF m 9 #[.val (.ref a), .val (.ref va), .val (.int (0 : Int32)), .val (.int (0 : Int32)), .val .null, .unset] [(.ref a)])) rfl (hb hby d3_9) (n := 0) (by decide) (by decide) (by decide) (by decide)
  have C4 : CHr Z own_EL s.vm h0 T3.vm h3 := C0.trans CH3
  have Sf5 : Safe Z own_EL T3.vm h3 a := CH3.safe E_a.lt Sf1
  obtain ⟨ne_a_q1, ne_a_q1b⟩ := sf3 _ Sf5
  refine Go.by st3 ?_
  show Go _ _ _ _ T3 (mkF m 11 #[.val (.ref a), .val (.ref va), .val (.int (0 : Int32)), .val (.int (0 : Int32)), .val .null, .unset] [(.ref q1), (.ref a)])
  obtain ⟨T6, X6, e6, st6⟩ := getF X3 hx hZ3 hown3 (host := "") (Or.inl (hw _ (List.mem_of_getElem? (i := 27) rfl))) Via.refl e3 Fv3 (g := (mkF m 11 #[.val (.ref a), .val (.ref va), .val (.int (0 : Int32)), .val (.int (0 : Int32)), .val .null, .unset] [(.ref q1), (.ref a)])) rfl rfl (hb hby d3_11)
  refine Go.by st6 ?_
  show Go _ _ _ _ T6 (mkF m 14 #[.val (.ref a), .val (.ref va), .val (.int (0 : Int32)), .val (.int (0 : Int32)), .val .null, .unset] [(.ref q1b), (.ref a)])
  have F7 : Fld Z h3 a "java/lang/String" "value" "[B" .null := F_a_value.ext E3
  have F8 : Exa Z h3 a "java/lang/String" := E_a.ext E3
  obtain ⟨T9, h9, X9, e9, W9, st9⟩ := putF X6 hx hZ3 hown3 (host := "") (Or.inl (hw _ (List.mem_of_getElem? (i := 27) rfl))) Via.refl e6 F7 F8 (Or.inr ⟨(hw _ (List.mem_of_getElem? (i := 23) rfl)), rfl, hnm⟩) (hw _ (List.mem_of_getElem? (i := 8) rfl)) (ty := (.array .byte)) (by decide) rfl rfl (g := (mkF m 14 #[.val (.ref a), .val (.ref va), .val (.int (0 : Int32)), .val (.int (0 : Int32)), .val .null, .unset] [(.ref q1b), (.ref a)])) rfl rfl (hb hby d3_14)
  have C10 : CHr Z own_EL s.vm h0 T3.vm h9 := C4.trans (CHr.wr W9 Sf5 C4.1)
  have Sf11 : Safe Z own_EL T3.vm h9 a := Safe.wr W9 Sf5 C4.1 Sf5
  have N9 := Fr.snoc X9 N0 g_a
  have Fw9 : Fld Z h9 a "java/lang/String" "value" "[B" (.ref q1b) := F7.same W9
  refine Go.by st9 ?_
  show Go _ _ _ _ T9 (mkF m 17 #[.val (.ref a), .val (.ref va), .val (.int (0 : Int32)), .val (.int (0 : Int32)), .val .null, .unset] [])
  refine Go.by (fun _ gk => XS.aloadN X9.here hx rfl (hb hby d3_17) rfl rfl gk) ?_
  show Go _ _ _ _ T9 (mkF m 18 #[.val (.ref a), .val (.ref va), .val (.int (0 : Int32)), .val (.int (0 : Int32)), .val .null, .unset] [(.ref a)])
  have F13 : kq3 ≤ h9.size := Nat.le_trans hk3 (Nat.le_of_eq (Wr.size W9).symm)
  have F14 : Exa Z h9 a "java/lang/String" := F8.wr W9
  obtain ⟨q2, T12, h12, kq12, q2b, k12, X12, e12, E12, hS12, hk12, hZ12, hown12, Ea12, Fc12, Fv12, Va12, -, -, CH12, -, sf12, st12⟩ := ldcCH X9 hx hZ3 hown3 (hw _ (List.mem_of_getElem? (i := 21) rfl)) hSA e9 hS3 F13 hEL (List.mem_of_getElem? (i := 0) rfl) C10.1 (vs := []) (z := (0 : Int32)) ⟨by decide, by decide⟩ (by decide) rfl (g := (mkF m 18 #[.val (.ref a), .val (.ref va), .val (.int (0 : Int32)), .val (.int (0 : Int32)), .val .null, .unset] [(.ref a)])) rfl (hb hby d3_18) (n := 0) (by decide) (by decide) (by decide) (by decide)
  have C15 : CHr Z own_EL s.vm h0 T12.vm h12 := C10.trans CH12
  have Sf16 : Safe Z own_EL T12.vm h12 a := CH12.safe F14.lt Sf11
  obtain ⟨ne_a_q2, ne_a_q2b⟩ := sf12 _ Sf16
  refine Go.by st12 ?_
  show Go _ _ _ _ T12 (mkF m 20 #[.val (.ref a), .val (.ref va), .val (.int (0 : Int32)), .val (.int (0 : Int32)), .val .null, .unset] [(.ref q2), (.ref a)])
  obtain ⟨T17, X17, e17, st17⟩ := getF X12 hx hZ12 hown12 (host := "") (Or.inl (hw _ (List.mem_of_getElem? (i := 28) rfl))) Via.refl e12 Fc12 (g := (mkF m 20 #[.val (.ref a), .val (.ref va), .val (.int (0 : Int32)), .val (.int (0 : Int32)), .val .null, .unset] [(.ref q2), (.ref a)])) rfl rfl (hb hby d3_20)
  refine Go.by st17 ?_
  show Go _ _ _ _ T17 (mkF m 23 #[.val (.ref a), .val (.ref va), .val (.int (0 : Int32)), .val (.int (0 : Int32)), .val .null, .unset] [(.int (0 : Int32)), (.ref a)])
  have F18 : Fld Z h3 a "java/lang/String" "coder" "B" (.int (0 : Int32)) := F_a_coder.ext E3
  have F19 : Fld Z h9 a "java/lang/String" "coder" "B" (.int (0 : Int32)) := F18.other W9 (Or.inr (slot_ne (Or.inr (hw _ (List.mem_of_getElem? (i := 24) rfl))) (Or.inr (hw _ (List.mem_of_getElem? (i := 23) rfl))) (by decide) (t := .byte) (t' := (.array .byte)) (by decide) (by decide)))
  have F20 : Fld Z h12 a "java/lang/String" "coder" "B" (.int (0 : Int32)) := F19.ext E12
  have F21 : Exa Z h12 a "java/lang/String" := F14.ext E12
  obtain ⟨T22, h22, X22, e22, W22, st22⟩ := putFN X17 hx hZ12 hown12 (hw _ (List.mem_of_getElem? (i := 28) rfl)) Via.refl e17 F20 F21 (Or.inr ⟨(hw _ (List.mem_of_getElem? (i := 24) rfl)), rfl, hnm⟩) (hw _ (List.mem_of_getElem? (i := 8) rfl)) (ty := .byte) (v' := (.int (0 : Int32))) (by decide) rfl rfl (g := (mkF m 23 #[.val (.ref a), .val (.ref va), .val (.int (0 : Int32)), .val (.int (0 : Int32)), .val .null, .unset] [(.int (0 : Int32)), (.ref a)])) rfl rfl (hb hby d3_23)
  have C23 : CHr Z own_EL s.vm h0 T12.vm h22 := C15.trans (CHr.wr W22 Sf16 C15.1)
  have Sf24 : Safe Z own_EL T12.vm h22 a := Safe.wr W22 Sf16 C15.1 Sf16
  have N22 := Fr.snoc X22 N9 g_a
  have Fw22 : Fld Z h22 a "java/lang/String" "coder" "B" (.int (0 : Int32)) := F20.same W22
  refine Go.by st22 ?_
  show Go _ _ _ _ T22 (mkF m 26 #[.val (.ref a), .val (.ref va), .val (.int (0 : Int32)), .val (.int (0 : Int32)), .val .null, .unset] [])
  have F25 : Keep h0 h3 [a] := (Keep.refl h0 [a]).ext E3
  have F26 : Keep h0 h9 [a] := F25.wr W9 (Or.inl (List.mem_of_getElem? (i := 0) rfl))
  have F27 : Keep h0 h12 [a] := F26.ext E12
  have F28 : Keep h0 h22 [a] := F27.wr W22 (Or.inl (List.mem_of_getElem? (i := 0) rfl))
  have F29 : Exa Z h22 a "java/lang/String" := F21.wr W22
  have F30 : Fld Z h12 a "java/lang/String" "value" "[B" (.ref q1b) := Fw9.ext E12
  have F31 : Fld Z h22 a "java/lang/String" "value" "[B" (.ref q1b) := F30.other W22 (Or.inr (slot_ne (Or.inr (hw _ (List.mem_of_getElem? (i := 23) rfl))) (Or.inr (hw _ (List.mem_of_getElem? (i := 24) rfl))) (by decide) (t := (.array .byte)) (t' := .byte) (by decide) (by decide)))
  have F32 : Arv Z h9 q1b k3 .byte (0 : Int32) [] (.int 0) := Va3.other W9 (Ne.symm ne_a_q1b)
  have F33 : Arv Z h12 q1b k3 .byte (0 : Int32) [] (.int 0) := F32.ext E12
  have F34 : Arv Z h22 q1b k3 .byte (0 : Int32) [] (.int 0) := F33.other W22 (Ne.symm ne_a_q1b)
  have F35 : kq12 ≤ h22.size := Nat.le_trans hk12 (Nat.le_of_eq (Wr.size W22).symm)
  exact Go.retVW X22 hx Bd.notSynchronized hS12 (by rw [e22]; exact F35) hZ12 hEL (by rw [hh, e22]; exact C23) Bd.returns (hb hby d3_26) (by rw [e22]; exact ⟨q1b, k3, rfl, N22, F28, F29, Fw22, F31, F34⟩) (by decide) (by decide)
theorem ef_19 (m : MethodId) (x0 : Addr) (x1 : Addr) : entryFrame m #[(.ref x0), (.ref x1)] 2 = mkF m 0 #[.val (.ref x0), .val (.ref x1)] [] := by (first | (simp [entryFrame, mkF, argsToLocals, Value.category]; done) | rfl)
theorem d2_0 : decode jdk_42_method_3_code 0 = .ok (.aload_n 0, 1) := by decide +kernel
theorem d2_1 : decode jdk_42_method_3_code 1 = .ok (.aload_n 1, 1) := by decide +kernel
theorem d2_2 : decode jdk_42_method_3_code 2 = .ok (.iconst 0, 1) := by decide +kernel
theorem d2_3 : decode jdk_42_method_3_code 3 = .ok (.aload_n 1, 1) := by decide +kernel
theorem d2_4 : decode jdk_42_method_3_code 4 = .ok (.arraylength, 1) := by decide +kernel
theorem d2_5 : decode jdk_42_method_3_code 5 = .ok (.aconst_null, 1) := by decide +kernel
theorem pd_26 : parseMethodDescriptor "([CIILjava/lang/Void;)V" = some ⟨[(.array .char), .int, .int, (.object "java/lang/Void")], none⟩ := by decide +kernel
theorem d2_6 : decode jdk_42_method_3_code 6 = .ok (.invokespecial 27, 3) := by decide +kernel
theorem d2_9 : decode jdk_42_method_3_code 9 = .ok (.return_, 1) := by decide +kernel
def Q_rmS1_e (Z : State) (a : Addr) (va : Addr) (kv : ClassId) (h0 : Heap) (n0 : Nat) (v : Option Value) (h : Heap) (L : List Loc) : Prop := ∃ b : Addr, ∃ kb : ClassId, v = none ∧ Fr n0 L ∧ Keep h0 h [a] ∧ Exa Z h a "java/lang/String" ∧ Fld Z h a "java/lang/String" "coder" "B" (.int (0 : Int32)) ∧ Fld Z h a "java/lang/String" "value" "[B" (.ref b) ∧ Arv Z h b kb .byte (0 : Int32) ([]) (.int (0 : Int32))
set_option maxRecDepth 65536 in
set_option maxHeartbeats 40000000 in
theorem rmS1_e (l : Launch) (Z : State) (a0 : Array Value) (hw : ∀ d ∈ tables_1, d.before a0 Z = true) (ws : List Jvm.Cond) (a : Addr) (va : Addr) (kv : ClassId) (h0 : Heap) (n0 : Nat) (Z0 : n0 ≤ h0.size) (O0 : Old Z n0 h0) (E_a : Exa Z h0 a "java/lang/String") (F_a_value : Fld Z h0 a "java/lang/String" "value" "[B" .null) (F_a_coder : Fld Z h0 a "java/lang/String" "coder" "B" (.int (0 : Int32))) (g_a : n0 ≤ a) (V_va : Arv Z h0 va kv .char (0 : Int32) ([]) (.int (0 : Int32))) :
    MetFree l (⟨"java/lang/String", "<init>", "([C)V"⟩ : MethodName) (head1 (Jvm.Cond.code (⟨"java/lang/String", "<init>", "([C)V"⟩ : MethodName) jdk_42_method_3_code 2 none :: ws) ({ frames := 2, cells := 4, slots := 8, locals := 29 } : Room)) (fun as' U => as' = #[(.ref a), (.ref va)] ∧ Z.Warmed39 U.vm ∧ U.heap = h0 ∧ CHv Z own_EL U.vm h0) (fun _ _ _ _ _ => True) (fun _ U o U' => ∃ v L, o = .returned v ∧ Q_rmS1_e Z a va kv h0 n0 v U'.heap L ∧ CHr Z own_EL U.vm U.heap U'.vm U'.heap ∧ ReturnedEndW U o U' L ({ frames := 2, cells := 4, slots := 8, locals := 29 } : Room).cells ({ frames := 2, cells := 4, slots := 8, locals := 29 } : Room).slots) := by
  refine MetFree.of_bodySF (plainFor_of_name pn_4) hisR ?_
  intro p e s m args below meth c s₁ Bd hml0 hP hK
  obtain ⟨rfl, hZ, hh, hH⟩ := hP
  have hx := Bd.exec
  have hby := Bd.bytes
  have hml : c.maxLocals = 2 := hml0
  have hown : s.vm.findClass "java/lang/String" = some m.cls := findClass_of_methodNamed Bd.named
  have hnm := (name_of_methodNamed Bd.named Bd.method).1
  have X0 : Stand p l e ({ frames := 2, cells := 4, slots := 8, locals := 29 } : Room) (s.setVm s.vm) m #[(.ref a), (.ref va)] below meth c s₁ [] 0 0 := Stand.of_body Bd
  have e0 : s₁.heap = h0 := by rw [← hh, Bd.state]; rfl
  have N0 := Fr.nil n0
  have hS0 : s.Since s.vm s.heap.size := (State.WarmedH.refl s).since _
  have hk0 : s.heap.size ≤ h0.size := Nat.le_of_eq (by rw [hh])
  have C0 : CHr Z own_EL s.vm h0 s.vm h0 := CHr.refl hH
  have hEL := own_EW hw
  have hSA := own_SA hw
  refine Go.enter (F := EndW Z own_EL s (Q_rmS1_e Z a va kv h0 n0) ({ frames := 2, cells := 4, slots := 8, locals := 29 } : Room).cells ({ frames := 2, cells := 4, slots := 8, locals := 29 } : Room).slots) (ef_19 m a va) ?_
  have Sf1 : Safe Z own_EL s.vm h0 a := own_safe hZ.alike E_a F_a_value
  show Go _ _ _ _ s₁ (mkF m 0 #[.val (.ref a), .val (.ref va)] [])
  refine Go.by (fun _ gk => XS.aloadN X0.here hx rfl (hb hby d2_0) rfl rfl gk) ?_
  show Go _ _ _ _ s₁ (mkF m 1 #[.val (.ref a), .val (.ref va)] [(.ref a)])
  refine Go.by (fun _ gk => XS.aloadN X0.here hx rfl (hb hby d2_1) rfl rfl gk) ?_
  show Go _ _ _ _ s₁ (mkF m 2 #[.val (.ref a), .val (.ref va)] [(.ref va), (.ref a)])
  refine Go.by (fun _ gk => XT.iconstV X0.here hx rfl (0 : Int32) (hb hby d2_2) (by decide) gk) ?_
  show Go _ _ _ _ s₁ (mkF m 3 #[.val (.ref a), .val (.ref va)] [(.int (0 : Int32)), (.ref va), (.ref a)])
  refine Go.by (fun _ gk => XS.aloadN X0.here hx rfl (hb hby d2_3) rfl rfl gk) ?_
  show Go _ _ _ _ s₁ (mkF m 4 #[.val (.ref a), .val (.ref va)] [(.ref va), (.int (0 : Int32)), (.ref va), (.ref a)])
  obtain ⟨cl2, Ar2, -, S2, M2, -, -⟩ := id V_va
  refine Go.by (fun _ gk => X0.arraylength hx (by rw [e0]; exact Ar2.1) (State.isArrayOf_alike hZ.alike Ar2.2.1) (g := (mkF m 4 #[.val (.ref a), .val (.ref va)] [(.ref va), (.int (0 : Int32)), (.ref va), (.ref a)])) rfl rfl (hb hby d2_4) _ gk) ?_
  rw [len_of S2 M2]
  show Go _ _ _ _ s₁ (mkF m 5 #[.val (.ref a), .val (.ref va)] [(.int (0 : Int32)), (.int (0 : Int32)), (.ref va), (.ref a)])
  refine Go.by (fun _ gk => XS.aconstNull X0.here hx rfl (hb hby d2_5) gk) ?_
  show Go _ _ _ _ s₁ (mkF m 6 #[.val (.ref a), .val (.ref va)] [.null, (.int (0 : Int32)), (.int (0 : Int32)), (.ref va), (.ref a)])
  obtain ⟨_, _, ⟨T3, L3, k3, n3⟩, -, Xq3, hSq3, hgr3, ⟨Lc3, hQ3, l3, y3, z3, CH3⟩, st3⟩ := X0.specialBackS hx (y := (⟨"java/lang/String", "<init>", "([CIILjava/lang/Void;)V"⟩ : MethodName)) rfl hown (mvT hZ (hw _ (List.mem_of_getElem? (i := 14) rfl))) (mvT hZ (hw _ (List.mem_of_getElem? (i := 15) rfl))) (mvT hZ (hw _ (List.mem_of_getElem? (i := 17) rfl))) (by decide) (backOfSH (W := 0) (rmS4_e l Z a0 hw [] a va h0 n0 Z0 O0 E_a F_a_value F_a_coder g_a) hZ (hw _ (List.mem_of_getElem? (i := 17) rfl)) (hw _ (List.mem_of_getElem? (i := 9) rfl)) (by decide) (by decide) hEL C0.1) (g := (mkF m 6 #[.val (.ref a), .val (.ref va)] [.null, (.int (0 : Int32)), (.int (0 : Int32)), (.ref va), (.ref a)])) rfl (by rw [hml]; rfl) (Steps.refl _) (a := a) (argsL := [(.ref va), (.int (0 : Int32)), (.int (0 : Int32)), .null]) (rest := []) (lenOf pd_26 rfl) rfl (by show 2 * 0 + _ ≤ _; exact Nat.le_of_eq rfl) (hb hby d2_6) (fun _ _ => ⟨rfl, e0, (by decide : 0 + 4 ≤ _), (by decide : 0 + 8 ≤ _)⟩)
  dsimp only [Pt.U, Pt.locs, Pt.cells, Pt.slots] at Xq3 hSq3 hgr3 l3 y3 z3 st3 hQ3 CH3
  subst l3 y3 z3
  obtain ⟨b, kb, rfl, N3q, K3, Q3_0, Q3_1, Q3_2, Q3_3⟩ := hQ3
  have N3 := Fr.app N0 N3q
  obtain ⟨X3, hS3, hZ3, hown3⟩ := rebS hS0 (by rw [e0]; exact hk0) Xq3 hSq3 hgr3 hZ hown
  have C4 : CHr Z own_EL s.vm h0 T3.vm T3.heap := C0.trans CH3
  have Sf5 : Safe Z own_EL T3.vm T3.heap a := CH3.safe E_a.lt Sf1
  refine Go.to st3 ?_
  show Go _ _ _ _ T3 (mkF m 9 #[.val (.ref a), .val (.ref va)] [])
  have F6 : Keep h0 T3.heap [a] := (Keep.refl h0 [a]).trans K3 (allS (Or.inl (List.mem_of_getElem? (i := 0) rfl)) all0)
  exact Go.retVW X3 hx Bd.notSynchronized hS3 (by exact (Nat.le_refl T3.heap.size)) hZ3 hEL (by rw [hh]; exact C4) Bd.returns (hb hby d2_9) ⟨b, kb, rfl, N3, F6, Q3_0, Q3_1, Q3_2, Q3_3⟩ (by decide) (by decide)
theorem d1_0 : decode method_2_code 0 = .ok (.iload_n 0, 1) := by decide +kernel
theorem d1_1 : decode method_2_code 1 = .ok (.ifCond .ne 14, 3) := by decide +kernel
theorem d1_4 : decode method_2_code 4 = .ok (.new 7, 3) := by decide +kernel
theorem d1_7 : decode method_2_code 7 = .ok (.dup, 1) := by decide +kernel
theorem d1_8 : decode method_2_code 8 = .ok (.iconst 0, 1) := by decide +kernel
theorem d1_9 : decode method_2_code 9 = .ok (.newarray .char, 2) := by decide +kernel
theorem pd_35 : parseMethodDescriptor "([C)V" = some ⟨[(.array .char)], none⟩ := by decide +kernel
theorem d1_11 : decode method_2_code 11 = .ok (.invokespecial 9, 3) := by decide +kernel
theorem d1_14 : decode method_2_code 14 = .ok (.areturn, 1) := by decide +kernel
theorem pn_38 : plainName "java/lang/StringUTF16" = true := by first | (simp [plainName, overriddenIn]; done) | decide +kernel
theorem ef_39 (m : MethodId) (x0 : Addr) (x1 : Int32) (x2 : Addr) (x3 : Int32) (x4 : Int32) : entryFrame m #[(.ref x0), (.int x1), (.ref x2), (.int x3), (.int x4)] 7 = mkF m 0 #[.val (.ref x0), .val (.int x1), .val (.ref x2), .val (.int x3), .val (.int x4), .unset, .unset] [] := by (first | (simp [entryFrame, mkF, argsToLocals, Value.category]; done) | rfl)
theorem d7_0 : decode jdk_52_method_21_code 0 = .ok (.iconst 0, 1) := by decide +kernel
theorem d7_1 : decode jdk_52_method_21_code 1 = .ok (.istore 5, 2) := by decide +kernel
theorem d7_3 : decode jdk_52_method_21_code 3 = .ok (.iload 5, 2) := by decide +kernel
theorem d7_5 : decode jdk_52_method_21_code 5 = .ok (.iload 4, 2) := by decide +kernel
theorem d7_7 : decode jdk_52_method_21_code 7 = .ok (.if_icmp .ge 37, 3) := by decide +kernel
theorem d7_10 : decode jdk_52_method_21_code 10 = .ok (.aload_n 0, 1) := by decide +kernel
theorem d7_11 : decode jdk_52_method_21_code 11 = .ok (.iload_n 1, 1) := by decide +kernel
theorem d7_12 : decode jdk_52_method_21_code 12 = .ok (.caload, 1) := by decide +kernel
theorem d7_13 : decode jdk_52_method_21_code 13 = .ok (.istore 6, 2) := by decide +kernel
theorem d7_15 : decode jdk_52_method_21_code 15 = .ok (.iload 6, 2) := by decide +kernel
theorem d7_17 : decode jdk_52_method_21_code 17 = .ok (.sipush 255, 3) := by decide +kernel
theorem d7_20 : decode jdk_52_method_21_code 20 = .ok (.if_icmp .le 6, 3) := by decide +kernel
theorem d7_26 : decode jdk_52_method_21_code 26 = .ok (.aload_n 2, 1) := by decide +kernel
theorem d7_27 : decode jdk_52_method_21_code 27 = .ok (.iload_n 3, 1) := by decide +kernel
theorem d7_28 : decode jdk_52_method_21_code 28 = .ok (.iload 6, 2) := by decide +kernel
theorem d7_30 : decode jdk_52_method_21_code 30 = .ok (.i2b, 1) := by decide +kernel
theorem d7_31 : decode jdk_52_method_21_code 31 = .ok (.bastore, 1) := by decide +kernel
theorem d7_32 : decode jdk_52_method_21_code 32 = .ok (.iinc 1 1, 3) := by decide +kernel
theorem d7_35 : decode jdk_52_method_21_code 35 = .ok (.iinc 3 1, 3) := by decide +kernel
theorem d7_38 : decode jdk_52_method_21_code 38 = .ok (.iinc 5 1, 3) := by decide +kernel
theorem d7_41 : decode jdk_52_method_21_code 41 = .ok (.goto (-38), 3) := by decide +kernel
theorem d7_44 : decode jdk_52_method_21_code 44 = .ok (.iload 4, 2) := by decide +kernel
theorem d7_46 : decode jdk_52_method_21_code 46 = .ok (.ireturn, 1) := by decide +kernel
def Q_rmC5_1 (Z : State) (va : Addr) (da : Addr) (kv : ClassId) (kd : ClassId) (c0 : Int32) (h0 : Heap) (n0 : Nat) (v : Option Value) (h : Heap) (L : List Loc) : Prop := v = some (.int (1 : Int32)) ∧ Fr n0 L ∧ Keep h0 h [da] ∧ Arv Z h da kd .byte (1 : Int32) ([(.int (own_b c0))]) (.int (0 : Int32))
set_option maxRecDepth 65536 in
set_option maxHeartbeats 40000000 in
theorem rmC5_1 (l : Launch) (Z : State) (a0 : Array Value) (hw : ∀ d ∈ tables_1, d.before a0 Z = true) (ws : List Jvm.Cond) (va : Addr) (da : Addr) (kv : ClassId) (kd : ClassId) (c0 : Int32) (h0 : Heap) (n0 : Nat) (Z0 : n0 ≤ h0.size) (V_va : Arv Z h0 va kv .char (1 : Int32) ([(.int c0)]) (.int (0 : Int32))) (V_da : Arv Z h0 da kd .byte (1 : Int32) ([(.int (0 : Int32))]) (.int (0 : Int32))) (g_da : n0 ≤ da) (ne_va_da : va ≠ da) (hc0 : (¬ (255 : Int32) < c0)) :
    MetFree l (⟨"java/lang/StringUTF16", "compress", "([CI[BII)I"⟩ : MethodName) (head1 (Jvm.Cond.code (⟨"java/lang/StringUTF16", "compress", "([CI[BII)I"⟩ : MethodName) jdk_52_method_21_code 7 (some .int) :: ws) ({ frames := 0, cells := 0, slots := 0, locals := 0 } : Room)) (fun as' U => as' = #[(.ref va), (.int (0 : Int32)), (.ref da), (.int (0 : Int32)), (.int (1 : Int32))] ∧ Z.Warmed39 U.vm ∧ U.heap = h0) (fun _ _ _ _ _ => True) (fun _ U o U' => ∃ v L, o = .returned v ∧ Q_rmC5_1 Z va da kv kd c0 h0 n0 v U'.heap L ∧ FrameEnd U o U' L ({ frames := 0, cells := 0, slots := 0, locals := 0 } : Room).cells ({ frames := 0, cells := 0, slots := 0, locals := 0 } : Room).slots) := by
  refine MetFree.of_bodySF (plainFor_of_name pn_38) hisR ?_
  intro p e s m args below meth c s₁ Bd hml0 hP hK
  obtain ⟨rfl, hZ, hh⟩ := hP
  have hx := Bd.exec
  have hby := Bd.bytes
  have hml : c.maxLocals = 7 := hml0
  have hown : s.vm.findClass "java/lang/StringUTF16" = some m.cls := findClass_of_methodNamed Bd.named
  have hnm := (name_of_methodNamed Bd.named Bd.method).1
  have X0 : Stand p l e ({ frames := 0, cells := 0, slots := 0, locals := 0 } : Room) s m #[(.ref va), (.int (0 : Int32)), (.ref da), (.int (0 : Int32)), (.int (1 : Int32))] below meth c s₁ [] 0 0 := Stand.of_body Bd
  have e0 : s₁.heap = h0 := by rw [← hh, Bd.state]; rfl
  have N0 := Fr.nil n0
  refine Go.enter (F := EndN s (Q_rmC5_1 Z va da kv kd c0 h0 n0) ({ frames := 0, cells := 0, slots := 0, locals := 0 } : Room).cells ({ frames := 0, cells := 0, slots := 0, locals := 0 } : Room).slots) (ef_39 m va (0 : Int32) da (0 : Int32) (1 : Int32)) ?_
  show Go _ _ _ _ s₁ (mkF m 0 #[.val (.ref va), .val (.int (0 : Int32)), .val (.ref da), .val (.int (0 : Int32)), .val (.int (1 : Int32)), .unset, .unset] [])
  refine Go.by (fun _ gk => XT.iconstV X0.here hx rfl (0 : Int32) (hb hby d7_0) (by decide) gk) ?_
  show Go _ _ _ _ s₁ (mkF m 1 #[.val (.ref va), .val (.int (0 : Int32)), .val (.ref da), .val (.int (0 : Int32)), .val (.int (1 : Int32)), .unset, .unset] [(.int (0 : Int32))])
  refine Go.by (fun _ gk => XS.istore X0.here hx rfl (hb hby d7_1) rfl (l' := #[.val (.ref va), .val (.int (0 : Int32)), .val (.ref da), .val (.int (0 : Int32)), .val (.int (1 : Int32)), .val (.int (0 : Int32)), .unset]) rfl gk) ?_
  show Go _ _ _ _ s₁ (mkF m 3 #[.val (.ref va), .val (.int (0 : Int32)), .val (.ref da), .val (.int (0 : Int32)), .val (.int (1 : Int32)), .val (.int (0 : Int32)), .unset] [])
  refine Go.by (fun _ gk => XS.iload X0.here hx rfl (hb hby d7_3) rfl gk) ?_
  show Go _ _ _ _ s₁ (mkF m 5 #[.val (.ref va), .val (.int (0 : Int32)), .val (.ref da), .val (.int (0 : Int32)), .val (.int (1 : Int32)), .val (.int (0 : Int32)), .unset] [(.int (0 : Int32))])
  refine Go.by (fun _ gk => XS.iload X0.here hx rfl (hb hby d7_5) rfl gk) ?_
  show Go _ _ _ _ s₁ (mkF m 7 #[.val (.ref va), .val (.int (0 : Int32)), .val (.ref da), .val (.int (0 : Int32)), .val (.int (1 : Int32)), .val (.int (0 : Int32)), .unset] [(.int (1 : Int32)), (.int (0 : Int32))])
  refine Go.by (fun _ gk => XS.icmpNo X0.here hx rfl (hb hby d7_7) rfl (XT.ii_ge_f (by decide)) gk) ?_
  show Go _ _ _ _ s₁ (mkF m 10 #[.val (.ref va), .val (.int (0 : Int32)), .val (.ref da), .val (.int (0 : Int32)), .val (.int (1 : Int32)), .val (.int (0 : Int32)), .unset] [])
  refine Go.by (fun _ gk => XS.aloadN X0.here hx rfl (hb hby d7_10) rfl rfl gk) ?_
  show Go _ _ _ _ s₁ (mkF m 11 #[.val (.ref va), .val (.int (0 : Int32)), .val (.ref da), .val (.int (0 : Int32)), .val (.int (1 : Int32)), .val (.int (0 : Int32)), .unset] [(.ref va)])
  refine Go.by (fun _ gk => XS.iloadN X0.here hx rfl (hb hby d7_11) rfl gk) ?_
  show Go _ _ _ _ s₁ (mkF m 12 #[.val (.ref va), .val (.int (0 : Int32)), .val (.ref da), .val (.int (0 : Int32)), .val (.int (1 : Int32)), .val (.int (0 : Int32)), .unset] [(.int (0 : Int32)), (.ref va)])
  obtain ⟨cl1, Ar1, -, S1, M1, H1, -⟩ := id V_va
  have hin1 : ¬ ((0 : Int32) < 0 ∨ cl1.slots.size ≤ (0 : Int32).toNatClampNeg) := inb_of S1 ⟨by decide, by decide⟩
  refine Go.by (fun _ gk => X0.caload hx (j := (0 : Int32)) (v := (.int c0)) (by rw [e0]; exact Ar1.1) (State.isArrayOf_alike hZ.alike Ar1.2.1) Ar1.2.2 hin1 (Has.at H1 hin1 rfl) (g := (mkF m 12 #[.val (.ref va), .val (.int (0 : Int32)), .val (.ref da), .val (.int (0 : Int32)), .val (.int (1 : Int32)), .val (.int (0 : Int32)), .unset] [(.int (0 : Int32)), (.ref va)])) rfl rfl (hb hby d7_12) _ gk) ?_
  show Go _ _ _ _ s₁ (mkF m 13 #[.val (.ref va), .val (.int (0 : Int32)), .val (.ref da), .val (.int (0 : Int32)), .val (.int (1 : Int32)), .val (.int (0 : Int32)), .unset] [(.int c0)])
  refine Go.by (fun _ gk => XS.istore X0.here hx rfl (hb hby d7_13) rfl (l' := #[.val (.ref va), .val (.int (0 : Int32)), .val (.ref da), .val (.int (0 : Int32)), .val (.int (1 : Int32)), .val (.int (0 : Int32)), .val (.int c0)]) rfl gk) ?_
  show Go _ _ _ _ s₁ (mkF m 15 #[.val (.ref va), .val (.int (0 : Int32)), .val (.ref da), .val (.int (0 : Int32)), .val (.int (1 : Int32)), .val (.int (0 : Int32)), .val (.int c0)] [])
  refine Go.by (fun _ gk => XS.iload X0.here hx rfl (hb hby d7_15) rfl gk) ?_
  show Go _ _ _ _ s₁ (mkF m 17 #[.val (.ref va), .val (.int (0 : Int32)), .val (.ref da), .val (.int (0 : Int32)), .val (.int (1 : Int32)), .val (.int (0 : Int32)), .val (.int c0)] [(.int c0)])
  refine Go.by (fun _ gk => XT.sipushV X0.here hx rfl (255 : Int32) (hb hby d7_17) (by decide) gk) ?_
  show Go _ _ _ _ s₁ (mkF m 20 #[.val (.ref va), .val (.int (0 : Int32)), .val (.ref da), .val (.int (0 : Int32)), .val (.int (1 : Int32)), .val (.int (0 : Int32)), .val (.int c0)] [(.int (255 : Int32)), (.int c0)])
  refine Go.by (fun _ gk => XS.icmpYes X0.here hx rfl (pc0 := 20) (pc' := 26) rfl (hb hby d7_20) rfl (XT.ii_le_t hc0) (by decide) (by decide) gk) ?_
  show Go _ _ _ _ s₁ (mkF m 26 #[.val (.ref va), .val (.int (0 : Int32)), .val (.ref da), .val (.int (0 : Int32)), .val (.int (1 : Int32)), .val (.int (0 : Int32)), .val (.int c0)] [])
  refine Go.by (fun _ gk => XS.aloadN X0.here hx rfl (hb hby d7_26) rfl rfl gk) ?_
  show Go _ _ _ _ s₁ (mkF m 27 #[.val (.ref va), .val (.int (0 : Int32)), .val (.ref da), .val (.int (0 : Int32)), .val (.int (1 : Int32)), .val (.int (0 : Int32)), .val (.int c0)] [(.ref da)])
  refine Go.by (fun _ gk => XS.iloadN X0.here hx rfl (hb hby d7_27) rfl gk) ?_
  show Go _ _ _ _ s₁ (mkF m 28 #[.val (.ref va), .val (.int (0 : Int32)), .val (.ref da), .val (.int (0 : Int32)), .val (.int (1 : Int32)), .val (.int (0 : Int32)), .val (.int c0)] [(.int (0 : Int32)), (.ref da)])
  refine Go.by (fun _ gk => XS.iload X0.here hx rfl (hb hby d7_28) rfl gk) ?_
  show Go _ _ _ _ s₁ (mkF m 30 #[.val (.ref va), .val (.int (0 : Int32)), .val (.ref da), .val (.int (0 : Int32)), .val (.int (1 : Int32)), .val (.int (0 : Int32)), .val (.int c0)] [(.int c0), (.int (0 : Int32)), (.ref da)])
  refine Go.by (fun _ gk => XT.i2b X0.here hx rfl (hb hby d7_30) rfl gk) ?_
  show Go _ _ _ _ s₁ (mkF m 31 #[.val (.ref va), .val (.int (0 : Int32)), .val (.ref da), .val (.int (0 : Int32)), .val (.int (1 : Int32)), .val (.int (0 : Int32)), .val (.int c0)] [(.int (c0.toInt8.toInt32)), (.int (0 : Int32)), (.ref da)])
  obtain ⟨cl2, Ar2, q2, S2, M2, H2, G2⟩ := id V_da
  have hin2 : ¬ ((0 : Int32) < 0 ∨ cl2.slots.size ≤ (0 : Int32).toNatClampNeg) := inb_of S2 ⟨by decide, by decide⟩
  obtain ⟨T2, h2, X2, e2, W2, st2⟩ := stB X0 hx hZ e0 Ar2 (j := (0 : Int32)) hin2 (g := (mkF m 31 #[.val (.ref va), .val (.int (0 : Int32)), .val (.ref da), .val (.int (0 : Int32)), .val (.int (1 : Int32)), .val (.int (0 : Int32)), .val (.int c0)] [(.int (c0.toInt8.toInt32)), (.int (0 : Int32)), (.ref da)])) rfl rfl (hb hby d7_31)
  have N2 := Fr.snoc X2 N0 g_da
  have V2 : Arv Z h2 da kd .byte (1 : Int32) [(.int (nar .byte (c0.toInt8.toInt32)))] (.int (0 : Int32)) := Arv.set Ar2 q2 S2 M2 H2 G2 (fits_nar_byte _) W2 0 rfl (Nat.le_of_ble_eq_true rfl)
  refine Go.by st2 ?_
  show Go _ _ _ _ T2 (mkF m 32 #[.val (.ref va), .val (.int (0 : Int32)), .val (.ref da), .val (.int (0 : Int32)), .val (.int (1 : Int32)), .val (.int (0 : Int32)), .val (.int c0)] [])
  rw [own_bn] at V2
  refine Go.by (fun _ gk => XT.iincV X2.here hx rfl (1 : Int32) (hb hby d7_32) (by decide) rfl (l' := #[.val (.ref va), .val (.int (1 : Int32)), .val (.ref da), .val (.int (0 : Int32)), .val (.int (1 : Int32)), .val (.int (0 : Int32)), .val (.int c0)]) rfl gk) ?_
  show Go _ _ _ _ T2 (mkF m 35 #[.val (.ref va), .val (.int (1 : Int32)), .val (.ref da), .val (.int (0 : Int32)), .val (.int (1 : Int32)), .val (.int (0 : Int32)), .val (.int c0)] [])
  refine Go.by (fun _ gk => XT.iincV X2.here hx rfl (1 : Int32) (hb hby d7_35) (by decide) rfl (l' := #[.val (.ref va), .val (.int (1 : Int32)), .val (.ref da), .val (.int (1 : Int32)), .val (.int (1 : Int32)), .val (.int (0 : Int32)), .val (.int c0)]) rfl gk) ?_
  show Go _ _ _ _ T2 (mkF m 38 #[.val (.ref va), .val (.int (1 : Int32)), .val (.ref da), .val (.int (1 : Int32)), .val (.int (1 : Int32)), .val (.int (0 : Int32)), .val (.int c0)] [])
  refine Go.by (fun _ gk => XT.iincV X2.here hx rfl (1 : Int32) (hb hby d7_38) (by decide) rfl (l' := #[.val (.ref va), .val (.int (1 : Int32)), .val (.ref da), .val (.int (1 : Int32)), .val (.int (1 : Int32)), .val (.int (1 : Int32)), .val (.int c0)]) rfl gk) ?_
  show Go _ _ _ _ T2 (mkF m 41 #[.val (.ref va), .val (.int (1 : Int32)), .val (.ref da), .val (.int (1 : Int32)), .val (.int (1 : Int32)), .val (.int (1 : Int32)), .val (.int c0)] [])
  refine Go.by (fun _ gk => XS.goto X2.here hx rfl (pc0 := 41) (pc' := 3) rfl (hb hby d7_41) (by decide) (by decide) gk) ?_
  show Go _ _ _ _ T2 (mkF m 3 #[.val (.ref va), .val (.int (1 : Int32)), .val (.ref da), .val (.int (1 : Int32)), .val (.int (1 : Int32)), .val (.int (1 : Int32)), .val (.int c0)] [])
  refine Go.by (fun _ gk => XS.iload X2.here hx rfl (hb hby d7_3) rfl gk) ?_
  show Go _ _ _ _ T2 (mkF m 5 #[.val (.ref va), .val (.int (1 : Int32)), .val (.ref da), .val (.int (1 : Int32)), .val (.int (1 : Int32)), .val (.int (1 : Int32)), .val (.int c0)] [(.int (1 : Int32))])
  refine Go.by (fun _ gk => XS.iload X2.here hx rfl (hb hby d7_5) rfl gk) ?_
  show Go _ _ _ _ T2 (mkF m 7 #[.val (.ref va), .val (.int (1 : Int32)), .val (.ref da), .val (.int (1 : Int32)), .val (.int (1 : Int32)), .val (.int (1 : Int32)), .val (.int c0)] [(.int (1 : Int32)), (.int (1 : Int32))])
  refine Go.by (fun _ gk => XS.icmpYes X2.here hx rfl (pc0 := 7) (pc' := 44) rfl (hb hby d7_7) rfl (XT.ii_ge_t (by decide)) (by decide) (by decide) gk) ?_
  show Go _ _ _ _ T2 (mkF m 44 #[.val (.ref va), .val (.int (1 : Int32)), .val (.ref da), .val (.int (1 : Int32)), .val (.int (1 : Int32)), .val (.int (1 : Int32)), .val (.int c0)] [])
  refine Go.by (fun _ gk => XS.iload X2.here hx rfl (hb hby d7_44) rfl gk) ?_
  show Go _ _ _ _ T2 (mkF m 46 #[.val (.ref va), .val (.int (1 : Int32)), .val (.ref da), .val (.int (1 : Int32)), .val (.int (1 : Int32)), .val (.int (1 : Int32)), .val (.int c0)] [(.int (1 : Int32))])
  have F3 : Keep h0 h2 [da] := (Keep.refl h0 [da]).wr W2 (Or.inl (List.mem_of_getElem? (i := 0) rfl))
  exact Go.retI X2 hx Bd.notSynchronized Bd.returns rfl (by simp) (hb hby d7_46) (by rw [e2]; exact ⟨rfl, N2, F3, V2⟩) (by decide) (by decide)
theorem ef_63 (m : MethodId) (x0 : Addr) (x1 : Int32) (x2 : Int32) : entryFrame m #[(.ref x0), (.int x1), (.int x2)] 6 = mkF m 0 #[.val (.ref x0), .val (.int x1), .val (.int x2), .unset, .unset, .unset] [] := by (first | (simp [entryFrame, mkF, argsToLocals, Value.category]; done) | rfl)
theorem d6_0 : decode jdk_52_method_16_code 0 = .ok (.iload_n 2, 1) := by decide +kernel
theorem d6_1 : decode jdk_52_method_16_code 1 = .ok (.newarray .byte, 2) := by decide +kernel
theorem d6_3 : decode jdk_52_method_16_code 3 = .ok (.astore_n 3, 1) := by decide +kernel
theorem d6_4 : decode jdk_52_method_16_code 4 = .ok (.aload_n 0, 1) := by decide +kernel
theorem d6_5 : decode jdk_52_method_16_code 5 = .ok (.iload_n 1, 1) := by decide +kernel
theorem d6_6 : decode jdk_52_method_16_code 6 = .ok (.aload_n 3, 1) := by decide +kernel
theorem d6_7 : decode jdk_52_method_16_code 7 = .ok (.iconst 0, 1) := by decide +kernel
theorem d6_8 : decode jdk_52_method_16_code 8 = .ok (.iload_n 2, 1) := by decide +kernel
theorem pd_72 : parseMethodDescriptor "([CI[BII)I" = some ⟨[(.array .char), .int, (.array .byte), .int, .int], some .int⟩ := by decide +kernel
theorem d6_9 : decode jdk_52_method_16_code 9 = .ok (.invokestatic 115, 3) := by decide +kernel
theorem d6_12 : decode jdk_52_method_16_code 12 = .ok (.istore 4, 2) := by decide +kernel
theorem d6_14 : decode jdk_52_method_16_code 14 = .ok (.iload 4, 2) := by decide +kernel
theorem d6_16 : decode jdk_52_method_16_code 16 = .ok (.iload_n 2, 1) := by decide +kernel
theorem d6_17 : decode jdk_52_method_16_code 17 = .ok (.if_icmp .eq 40, 3) := by decide +kernel
theorem d6_57 : decode jdk_52_method_16_code 57 = .ok (.aload_n 3, 1) := by decide +kernel
theorem d6_58 : decode jdk_52_method_16_code 58 = .ok (.areturn, 1) := by decide +kernel
def Q_rmC3_1 (Z : State) (va : Addr) (kv : ClassId) (c0 : Int32) (h0 : Heap) (n0 : Nat) (v : Option Value) (h : Heap) (L : List Loc) : Prop := ∃ da : Addr, ∃ kd : ClassId, v = some (.ref da) ∧ Fr n0 L ∧ Keep h0 h [] ∧ Arv Z h da kd .byte (1 : Int32) ([(.int (own_b c0))]) (.int (0 : Int32)) ∧ h0.size ≤ da
set_option maxRecDepth 65536 in
set_option maxHeartbeats 40000000 in
theorem rmC3_1 (l : Launch) (Z : State) (a0 : Array Value) (hw : ∀ d ∈ tables_1, d.before a0 Z = true) (ws : List Jvm.Cond) (va : Addr) (kv : ClassId) (c0 : Int32) (h0 : Heap) (n0 : Nat) (Z0 : n0 ≤ h0.size) (V_va : Arv Z h0 va kv .char (1 : Int32) ([(.int c0)]) (.int (0 : Int32))) (hc0 : (¬ (255 : Int32) < c0)) :
    MetFree l (⟨"java/lang/StringUTF16", "compress", "([CII)[B"⟩ : MethodName) (head1 (Jvm.Cond.code (⟨"java/lang/StringUTF16", "compress", "([CII)[B"⟩ : MethodName) jdk_52_method_16_code 6 (some (.array .byte)) :: ws) ({ frames := 1, cells := 1, slots := 1, locals := 18 } : Room)) (fun as' U => as' = #[(.ref va), (.int (0 : Int32)), (.int (1 : Int32))] ∧ Z.Warmed39 U.vm ∧ U.heap = h0) (fun _ _ _ _ _ => True) (fun _ U o U' => ∃ v L, o = .returned v ∧ Q_rmC3_1 Z va kv c0 h0 n0 v U'.heap L ∧ FrameEnd U o U' L ({ frames := 1, cells := 1, slots := 1, locals := 18 } : Room).cells ({ frames := 1, cells := 1, slots := 1, locals := 18 } : Room).slots) := by
  refine MetFree.of_bodySF (plainFor_of_name pn_38) hisR ?_
  intro p e s m args below meth c s₁ Bd hml0 hP hK
  obtain ⟨rfl, hZ, hh⟩ := hP
  have hx := Bd.exec
  have hby := Bd.bytes
  have hml : c.maxLocals = 6 := hml0
  have hown : s.vm.findClass "java/lang/StringUTF16" = some m.cls := findClass_of_methodNamed Bd.named
  have hnm := (name_of_methodNamed Bd.named Bd.method).1
  have X0 : Stand p l e ({ frames := 1, cells := 1, slots := 1, locals := 18 } : Room) s m #[(.ref va), (.int (0 : Int32)), (.int (1 : Int32))] below meth c s₁ [] 0 0 := Stand.of_body Bd
  have e0 : s₁.heap = h0 := by rw [← hh, Bd.state]; rfl
  have N0 := Fr.nil n0
  refine Go.enter (F := EndN s (Q_rmC3_1 Z va kv c0 h0 n0) ({ frames := 1, cells := 1, slots := 1, locals := 18 } : Room).cells ({ frames := 1, cells := 1, slots := 1, locals := 18 } : Room).slots) (ef_63 m va (0 : Int32) (1 : Int32)) ?_
  show Go _ _ _ _ s₁ (mkF m 0 #[.val (.ref va), .val (.int (0 : Int32)), .val (.int (1 : Int32)), .unset, .unset, .unset] [])
  refine Go.by (fun _ gk => XS.iloadN X0.here hx rfl (hb hby d6_0) rfl gk) ?_
  show Go _ _ _ _ s₁ (mkF m 1 #[.val (.ref va), .val (.int (0 : Int32)), .val (.int (1 : Int32)), .unset, .unset, .unset] [(.int (1 : Int32))])
  obtain ⟨da, g1⟩ : ∃ z, z = h0.size := ⟨_, rfl⟩
  have ge_da : n0 ≤ da := Nat.le_trans Z0 (Nat.le_of_eq g1.symm)
  have sz_da : h0.size ≤ da := Nat.le_trans (Keep.refl h0 []).1 (Nat.le_of_eq g1.symm)
  have ne_va_da : va ≠ da := Nat.ne_of_lt (Nat.lt_of_lt_of_le V_va.lt (Nat.le_of_eq g1.symm))
  obtain ⟨T1, h1, k1, X1, e1, E1, A1, Ea1, st1⟩ := newPE X0 hx hZ (hw _ (List.mem_of_getElem? (i := 22) rfl)) e0 (g := (mkF m 1 #[.val (.ref va), .val (.int (0 : Int32)), .val (.int (1 : Int32)), .unset, .unset, .unset] [(.int (1 : Int32))])) rfl (hb hby d6_1) rfl (by decide) (cap := 1) (by decide) (by decide) (by decide) (by decide) (ad := "[B") rfl
  rw [← g1] at A1 Ea1 st1
  have V_da : Arv Z h1 da k1 .byte (1 : Int32) [(.int (0 : Int32))] (.int (0 : Int32)) := (Arv.new A1 (by decide)).pad (pad_rep [] (.int (0 : Int32)) 1)
  refine Go.by st1 ?_
  show Go _ _ _ _ T1 (mkF m 3 #[.val (.ref va), .val (.int (0 : Int32)), .val (.int (1 : Int32)), .unset, .unset, .unset] [(.ref da)])
  refine Go.by (fun _ gk => XS.astoreN X1.here hx rfl (hb hby d6_3) rfl rfl (l' := #[.val (.ref va), .val (.int (0 : Int32)), .val (.int (1 : Int32)), .val (.ref da), .unset, .unset]) rfl gk) ?_
  show Go _ _ _ _ T1 (mkF m 4 #[.val (.ref va), .val (.int (0 : Int32)), .val (.int (1 : Int32)), .val (.ref da), .unset, .unset] [])
  refine Go.by (fun _ gk => XS.aloadN X1.here hx rfl (hb hby d6_4) rfl rfl gk) ?_
  show Go _ _ _ _ T1 (mkF m 5 #[.val (.ref va), .val (.int (0 : Int32)), .val (.int (1 : Int32)), .val (.ref da), .unset, .unset] [(.ref va)])
  refine Go.by (fun _ gk => XS.iloadN X1.here hx rfl (hb hby d6_5) rfl gk) ?_
  show Go _ _ _ _ T1 (mkF m 6 #[.val (.ref va), .val (.int (0 : Int32)), .val (.int (1 : Int32)), .val (.ref da), .unset, .unset] [(.int (0 : Int32)), (.ref va)])
  refine Go.by (fun _ gk => XS.aloadN X1.here hx rfl (hb hby d6_6) rfl rfl gk) ?_
  show Go _ _ _ _ T1 (mkF m 7 #[.val (.ref va), .val (.int (0 : Int32)), .val (.int (1 : Int32)), .val (.ref da), .unset, .unset] [(.ref da), (.int (0 : Int32)), (.ref va)])
  refine Go.by (fun _ gk => XT.iconstV X1.here hx rfl (0 : Int32) (hb hby d6_7) (by decide) gk) ?_
  show Go _ _ _ _ T1 (mkF m 8 #[.val (.ref va), .val (.int (0 : Int32)), .val (.int (1 : Int32)), .val (.ref da), .unset, .unset] [(.int (0 : Int32)), (.ref da), (.int (0 : Int32)), (.ref va)])
  refine Go.by (fun _ gk => XS.iloadN X1.here hx rfl (hb hby d6_8) rfl gk) ?_
  show Go _ _ _ _ T1 (mkF m 9 #[.val (.ref va), .val (.int (0 : Int32)), .val (.int (1 : Int32)), .val (.ref da), .unset, .unset] [(.int (1 : Int32)), (.int (0 : Int32)), (.ref da), (.int (0 : Int32)), (.ref va)])
  have F2 : Arv Z h1 va kv .char (1 : Int32) [(.int c0)] (.int (0 : Int32)) := V_va.ext E1
  have F3 : n0 ≤ h1.size := Nat.le_trans Z0 E1.1
  obtain ⟨_, _, ⟨T4, L4, k4, n4⟩, -, X4, ⟨Lc4, hQ4, l4, y4, z4⟩, st4⟩ := Jvm.LawKit.callS X1 hx (y := (⟨"java/lang/StringUTF16", "compress", "([CI[BII)I"⟩ : MethodName)) hown (mvT hZ (hw _ (List.mem_of_getElem? (i := 41) rfl))) (mvT hZ (hw _ (List.mem_of_getElem? (i := 42) rfl))) (mvT hZ (hw _ (List.mem_of_getElem? (i := 39) rfl))) (mvT hZ (hw _ (List.mem_of_getElem? (i := 43) rfl))) (by decide) (backOf (W := 0) (rmC5_1 l Z a0 hw [] va da kv k1 c0 h1 n0 F3 F2 V_da ge_da ne_va_da hc0) hZ (hw _ (List.mem_of_getElem? (i := 43) rfl)) (hw _ (List.mem_of_getElem? (i := 39) rfl)) (by decide) (by decide)) (g := (mkF m 9 #[.val (.ref va), .val (.int (0 : Int32)), .val (.int (1 : Int32)), .val (.ref da), .unset, .unset] [(.int (1 : Int32)), (.int (0 : Int32)), (.ref da), (.int (0 : Int32)), (.ref va)])) rfl (by rw [hml]; rfl) (argsL := [(.ref va), (.int (0 : Int32)), (.ref da), (.int (0 : Int32)), (.int (1 : Int32))]) (rest := []) (lenOf pd_72 rfl) rfl (by show 2 * 0 + _ ≤ _; exact Nat.le_of_eq rfl) (hb hby d6_9) (fun _ _ => ⟨rfl, e1, (by decide : 1 + 0 ≤ _), (by decide : 1 + 0 ≤ _)⟩)
  dsimp only [Pt.U, Pt.locs, Pt.cells, Pt.slots] at X4 l4 y4 z4 st4 hQ4
  subst l4 y4 z4
  obtain ⟨rfl, N4q, K4, Q4_0⟩ := hQ4
  have N4 := Fr.app N0 N4q
  refine Go.by st4 ?_
  show Go _ _ _ _ T4 (mkF m 12 #[.val (.ref va), .val (.int (0 : Int32)), .val (.int (1 : Int32)), .val (.ref da), .unset, .unset] [(.int (1 : Int32))])
  refine Go.by (fun _ gk => XS.istore X4.here hx rfl (hb hby d6_12) rfl (l' := #[.val (.ref va), .val (.int (0 : Int32)), .val (.int (1 : Int32)), .val (.ref da), .val (.int (1 : Int32)), .unset]) rfl gk) ?_
  show Go _ _ _ _ T4 (mkF m 14 #[.val (.ref va), .val (.int (0 : Int32)), .val (.int (1 : Int32)), .val (.ref da), .val (.int (1 : Int32)), .unset] [])
  refine Go.by (fun _ gk => XS.iload X4.here hx rfl (hb hby d6_14) rfl gk) ?_
  show Go _ _ _ _ T4 (mkF m 16 #[.val (.ref va), .val (.int (0 : Int32)), .val (.int (1 : Int32)), .val (.ref da), .val (.int (1 : Int32)), .unset] [(.int (1 : Int32))])
  refine Go.by (fun _ gk => XS.iloadN X4.here hx rfl (hb hby d6_16) rfl gk) ?_
  show Go _ _ _ _ T4 (mkF m 17 #[.val (.ref va), .val (.int (0 : Int32)), .val (.int (1 : Int32)), .val (.ref da), .val (.int (1 : Int32)), .unset] [(.int (1 : Int32)), (.int (1 : Int32))])
  refine Go.by (fun _ gk => XS.icmpYes X4.here hx rfl (pc0 := 17) (pc' := 57) rfl (hb hby d6_17) rfl (XT.ii_eq_t rfl) (by decide) (by decide) gk) ?_
  show Go _ _ _ _ T4 (mkF m 57 #[.val (.ref va), .val (.int (0 : Int32)), .val (.int (1 : Int32)), .val (.ref da), .val (.int (1 : Int32)), .unset] [])
  refine Go.by (fun _ gk => XS.aloadN X4.here hx rfl (hb hby d6_57) rfl rfl gk) ?_
  show Go _ _ _ _ T4 (mkF m 58 #[.val (.ref va), .val (.int (0 : Int32)), .val (.int (1 : Int32)), .val (.ref da), .val (.int (1 : Int32)), .unset] [(.ref da)])
  have F5 : Keep h0 h1 [] := (Keep.refl h0 []).ext E1
  have F6 : Keep h0 T4.heap [] := F5.trans K4 (allS (Or.inr sz_da) all0)
  exact Go.retA X4 hx Bd.notSynchronized Bd.returns rfl rfl (hb hby d6_58) ⟨da, k1, rfl, N4, F6, Q4_0, sz_da⟩ (by decide) (by decide)
theorem ef_80 (m : MethodId) (x0 : Addr) (x1 : Int32) : entryFrame m #[(.ref x0), (.int x1)] 2 = mkF m 0 #[.val (.ref x0), .val (.int x1)] [] := by (first | (simp [entryFrame, mkF, argsToLocals, Value.category]; done) | rfl)
theorem d8_0 : decode jdk_52_method_15_code 0 = .ok (.iload_n 1, 1) := by decide +kernel
theorem d8_1 : decode jdk_52_method_15_code 1 = .ok (.aload_n 0, 1) := by decide +kernel
theorem d8_2 : decode jdk_52_method_15_code 2 = .ok (.arraylength, 1) := by decide +kernel
theorem d8_3 : decode jdk_52_method_15_code 3 = .ok (.isub, 1) := by decide +kernel
theorem d8_4 : decode jdk_52_method_15_code 4 = .ok (.bipush 31, 2) := by decide +kernel
theorem d8_6 : decode jdk_52_method_15_code 6 = .ok (.iushr, 1) := by decide +kernel
theorem d8_7 : decode jdk_52_method_15_code 7 = .ok (.i2b, 1) := by decide +kernel
theorem d8_8 : decode jdk_52_method_15_code 8 = .ok (.ireturn, 1) := by decide +kernel
def Q_rmCoder_1 (Z : State) (da : Addr) (kd : ClassId) (vs : List Value) (h0 : Heap) (n0 : Nat) (v : Option Value) (h : Heap) (L : List Loc) : Prop := v = some (.int (0 : Int32)) ∧ Fr n0 L ∧ h = h0
set_option maxRecDepth 65536 in
set_option maxHeartbeats 40000000 in
theorem rmCoder_1 (l : Launch) (Z : State) (a0 : Array Value) (hw : ∀ d ∈ tables_1, d.before a0 Z = true) (ws : List Jvm.Cond) (da : Addr) (kd : ClassId) (vs : List Value) (h0 : Heap) (n0 : Nat) (Z0 : n0 ≤ h0.size) (V_da : Arv Z h0 da kd .byte (1 : Int32) vs (.int (0 : Int32))) :
    MetFree l (⟨"java/lang/StringUTF16", "coderFromArrayLen", "([BI)B"⟩ : MethodName) (head1 (Jvm.Cond.code (⟨"java/lang/StringUTF16", "coderFromArrayLen", "([BI)B"⟩ : MethodName) jdk_52_method_15_code 2 (some .byte) :: ws) ({ frames := 0, cells := 0, slots := 0, locals := 0 } : Room)) (fun as' U => as' = #[(.ref da), (.int (1 : Int32))] ∧ Z.Warmed39 U.vm ∧ U.heap = h0) (fun _ _ _ _ _ => True) (fun _ U o U' => ∃ v L, o = .returned v ∧ Q_rmCoder_1 Z da kd vs h0 n0 v U'.heap L ∧ FrameEnd U o U' L ({ frames := 0, cells := 0, slots := 0, locals := 0 } : Room).cells ({ frames := 0, cells := 0, slots := 0, locals := 0 } : Room).slots) := by
  refine MetFree.of_bodySF (plainFor_of_name pn_38) hisR ?_
  intro p e s m args below meth c s₁ Bd hml0 hP hK
  obtain ⟨rfl, hZ, hh⟩ := hP
  have hx := Bd.exec
  have hby := Bd.bytes
  have hml : c.maxLocals = 2 := hml0
  have hown : s.vm.findClass "java/lang/StringUTF16" = some m.cls := findClass_of_methodNamed Bd.named
  have hnm := (name_of_methodNamed Bd.named Bd.method).1
  have X0 : Stand p l e ({ frames := 0, cells := 0, slots := 0, locals := 0 } : Room) s m #[(.ref da), (.int (1 : Int32))] below meth c s₁ [] 0 0 := Stand.of_body Bd
  have e0 : s₁.heap = h0 := by rw [← hh, Bd.state]; rfl
  have N0 := Fr.nil n0
  refine Go.enter (F := EndN s (Q_rmCoder_1 Z da kd vs h0 n0) ({ frames := 0, cells := 0, slots := 0, locals := 0 } : Room).cells ({ frames := 0, cells := 0, slots := 0, locals := 0 } : Room).slots) (ef_80 m da (1 : Int32)) ?_
  show Go _ _ _ _ s₁ (mkF m 0 #[.val (.ref da), .val (.int (1 : Int32))] [])
  refine Go.by (fun _ gk => XS.iloadN X0.here hx rfl (hb hby d8_0) rfl gk) ?_
  show Go _ _ _ _ s₁ (mkF m 1 #[.val (.ref da), .val (.int (1 : Int32))] [(.int (1 : Int32))])
  refine Go.by (fun _ gk => XS.aloadN X0.here hx rfl (hb hby d8_1) rfl rfl gk) ?_
  show Go _ _ _ _ s₁ (mkF m 2 #[.val (.ref da), .val (.int (1 : Int32))] [(.ref da), (.int (1 : Int32))])
  obtain ⟨cl1, Ar1, -, S1, M1, -, -⟩ := id V_da
  refine Go.by (fun _ gk => X0.arraylength hx (by rw [e0]; exact Ar1.1) (State.isArrayOf_alike hZ.alike Ar1.2.1) (g := (mkF m 2 #[.val (.ref da), .val (.int (1 : Int32))] [(.ref da), (.int (1 : Int32))])) rfl rfl (hb hby d8_2) _ gk) ?_
  rw [len_of S1 M1]
  show Go _ _ _ _ s₁ (mkF m 3 #[.val (.ref da), .val (.int (1 : Int32))] [(.int (1 : Int32)), (.int (1 : Int32))])
  refine Go.by (fun _ gk => XS.isub X0.here hx rfl (hb hby d8_3) rfl gk) ?_
  show Go _ _ _ _ s₁ (mkF m 4 #[.val (.ref da), .val (.int (1 : Int32))] [(.int ((1 : Int32) - (1 : Int32)))])
  rw [(by decide : ((1 : Int32) - (1 : Int32)) = (0 : Int32))]
  show Go _ _ _ _ s₁ (mkF m 4 #[.val (.ref da), .val (.int (1 : Int32))] [(.int (0 : Int32))])
  refine Go.by (fun _ gk => XT.bipushV X0.here hx rfl (31 : Int32) (hb hby d8_4) (by decide) gk) ?_
  show Go _ _ _ _ s₁ (mkF m 6 #[.val (.ref da), .val (.int (1 : Int32))] [(.int (31 : Int32)), (.int (0 : Int32))])
  refine Go.by (fun _ gk => XT.iushr X0.here hx rfl (hb hby d8_6) rfl gk) ?_
  show Go _ _ _ _ s₁ (mkF m 7 #[.val (.ref da), .val (.int (1 : Int32))] [(.int (XT.ushr (0 : Int32) (31 : Int32)))])
  rw [(by decide : (XT.ushr (0 : Int32) (31 : Int32)) = (0 : Int32))]
  show Go _ _ _ _ s₁ (mkF m 7 #[.val (.ref da), .val (.int (1 : Int32))] [(.int (0 : Int32))])
  refine Go.by (fun _ gk => XT.i2b X0.here hx rfl (hb hby d8_7) rfl gk) ?_
  show Go _ _ _ _ s₁ (mkF m 8 #[.val (.ref da), .val (.int (1 : Int32))] [(.int ((0 : Int32).toInt8.toInt32))])
  rw [(by decide : ((0 : Int32).toInt8.toInt32) = (0 : Int32))]
  show Go _ _ _ _ s₁ (mkF m 8 #[.val (.ref da), .val (.int (1 : Int32))] [(.int (0 : Int32))])
  exact Go.retI X0 hx Bd.notSynchronized Bd.returns rfl (by simp) (hb hby d8_8) (by rw [e0]; exact ⟨rfl, N0, rfl⟩) (by decide) (by decide)
theorem d3_27 : decode jdk_42_method_149_code 27 = .ok (.getstatic 38, 3) := by decide +kernel
theorem d3_30 : decode jdk_42_method_149_code 30 = .ok (.ifCond .eq 28, 3) := by decide +kernel
theorem d3_33 : decode jdk_42_method_149_code 33 = .ok (.aload_n 1, 1) := by decide +kernel
theorem d3_34 : decode jdk_42_method_149_code 34 = .ok (.iload_n 2, 1) := by decide +kernel
theorem d3_35 : decode jdk_42_method_149_code 35 = .ok (.iload_n 3, 1) := by decide +kernel
theorem pd_94 : parseMethodDescriptor "([CII)[B" = some ⟨[(.array .char), .int, .int], some (.array .byte)⟩ := by decide +kernel
theorem d3_36 : decode jdk_42_method_149_code 36 = .ok (.invokestatic 177, 3) := by decide +kernel
theorem d3_39 : decode jdk_42_method_149_code 39 = .ok (.astore 5, 2) := by decide +kernel
theorem d3_41 : decode jdk_42_method_149_code 41 = .ok (.aload_n 0, 1) := by decide +kernel
theorem d3_42 : decode jdk_42_method_149_code 42 = .ok (.aload 5, 2) := by decide +kernel
theorem d3_44 : decode jdk_42_method_149_code 44 = .ok (.iload_n 3, 1) := by decide +kernel
theorem pd_100 : parseMethodDescriptor "([BI)B" = some ⟨[(.array .byte), .int], some .byte⟩ := by decide +kernel
theorem d3_45 : decode jdk_42_method_149_code 45 = .ok (.invokestatic 47, 3) := by decide +kernel
theorem d3_48 : decode jdk_42_method_149_code 48 = .ok (.putfield 15, 3) := by decide +kernel
theorem d3_51 : decode jdk_42_method_149_code 51 = .ok (.aload_n 0, 1) := by decide +kernel
theorem d3_52 : decode jdk_42_method_149_code 52 = .ok (.aload 5, 2) := by decide +kernel
theorem d3_54 : decode jdk_42_method_149_code 54 = .ok (.putfield 9, 3) := by decide +kernel
theorem d3_57 : decode jdk_42_method_149_code 57 = .ok (.return_, 1) := by decide +kernel
def Q_rmS4_1 (Z : State) (a : Addr) (va : Addr) (kv : ClassId) (c0 : Int32) (cs : Int32) (h0 : Heap) (n0 : Nat) (v : Option Value) (h : Heap) (L : List Loc) : Prop := ∃ b : Addr, ∃ kb : ClassId, v = none ∧ Fr n0 L ∧ Keep h0 h [a] ∧ Exa Z h a "java/lang/String" ∧ Fld Z h a "java/lang/String" "coder" "B" (.int (0 : Int32)) ∧ Fld Z h a "java/lang/String" "value" "[B" (.ref b) ∧ Arv Z h b kb .byte (1 : Int32) ([(.int (own_b c0))]) (.int (0 : Int32)) ∧ h0.size ≤ b
set_option maxRecDepth 65536 in
set_option maxHeartbeats 40000000 in
theorem rmS4_1 (l : Launch) (Z : State) (a0 : Array Value) (hw : ∀ d ∈ tables_1, d.before a0 Z = true) (ws : List Jvm.Cond) (a : Addr) (va : Addr) (kv : ClassId) (c0 : Int32) (cs : Int32) (h0 : Heap) (n0 : Nat) (Z0 : n0 ≤ h0.size) (O0 : Old Z n0 h0) (E_a : Exa Z h0 a "java/lang/String") (F_a_value : Fld Z h0 a "java/lang/String" "value" "[B" .null) (F_a_coder : Fld Z h0 a "java/lang/String" "coder" "B" (.int (0 : Int32))) (g_a : n0 ≤ a) (V_va : Arv Z h0 va kv .char (1 : Int32) ([(.int c0)]) (.int (0 : Int32))) (hc0 : (¬ (255 : Int32) < c0)) (S_cs : Sta Z Z.heap "java/lang/String" "COMPACT_STRINGS" "Z" (.int cs)) (n_cs : ¬ cs = 0) :
    MetFree l (⟨"java/lang/String", "<init>", "([CIILjava/lang/Void;)V"⟩ : MethodName) (head1 (Jvm.Cond.code (⟨"java/lang/String", "<init>", "([CIILjava/lang/Void;)V"⟩ : MethodName) jdk_42_method_149_code 6 none :: ws) ({ frames := 2, cells := 1, slots := 1, locals := 35 } : Room)) (fun as' U => as' = #[(.ref a), (.ref va), (.int (0 : Int32)), (.int (1 : Int32)), .null] ∧ Z.Warmed39 U.vm ∧ U.heap = h0) (fun _ _ _ _ _ => True) (fun _ U o U' => ∃ v L, o = .returned v ∧ Q_rmS4_1 Z a va kv c0 cs h0 n0 v U'.heap L ∧ FrameEnd U o U' L ({ frames := 2, cells := 1, slots := 1, locals := 35 } : Room).cells ({ frames := 2, cells := 1, slots := 1, locals := 35 } : Room).slots) := by
  refine MetFree.of_bodySF (plainFor_of_name pn_4) hisR ?_
  intro p e s m args below meth c s₁ Bd hml0 hP hK
  obtain ⟨rfl, hZ, hh⟩ := hP
  have hx := Bd.exec
  have hby := Bd.bytes
  have hml : c.maxLocals = 6 := hml0
  have hown : s.vm.findClass "java/lang/String" = some m.cls := findClass_of_methodNamed Bd.named
  have hnm := (name_of_methodNamed Bd.named Bd.method).1
  have X0 : Stand p l e ({ frames := 2, cells := 1, slots := 1, locals := 35 } : Room) s m #[(.ref a), (.ref va), (.int (0 : Int32)), (.int (1 : Int32)), .null] below meth c s₁ [] 0 0 := Stand.of_body Bd
  have e0 : s₁.heap = h0 := by rw [← hh, Bd.state]; rfl
  have N0 := Fr.nil n0
  refine Go.enter (F := EndN s (Q_rmS4_1 Z a va kv c0 cs h0 n0) ({ frames := 2, cells := 1, slots := 1, locals := 35 } : Room).cells ({ frames := 2, cells := 1, slots := 1, locals := 35 } : Room).slots) (ef_5 m a va (0 : Int32) (1 : Int32)) ?_
  show Go _ _ _ _ s₁ (mkF m 0 #[.val (.ref a), .val (.ref va), .val (.int (0 : Int32)), .val (.int (1 : Int32)), .val .null, .unset] [])
  refine Go.by (fun _ gk => XS.aloadN X0.here hx rfl (hb hby d3_0) rfl rfl gk) ?_
  show Go _ _ _ _ s₁ (mkF m 1 #[.val (.ref a), .val (.ref va), .val (.int (0 : Int32)), .val (.int (1 : Int32)), .val .null, .unset] [(.ref a)])
  obtain ⟨T1, X1, e1, st1⟩ := initO X0 hx hZ hown (hw _ (List.mem_of_getElem? (i := 18) rfl)) (hw _ (List.mem_of_getElem? (i := 19) rfl)) (hw _ (List.mem_of_getElem? (i := 20) rfl)) e0 (g := (mkF m 1 #[.val (.ref a), .val (.ref va), .val (.int (0 : Int32)), .val (.int (1 : Int32)), .val .null, .unset] [(.ref a)])) rfl (by rw [hml]; rfl) rfl (hb hby d3_1) (by decide) (W := 0) (by show 2 * 0 + _ ≤ _; exact Nat.le_of_eq rfl) (by decide)
  refine Go.by st1 ?_
  show Go _ _ _ _ T1 (mkF m 4 #[.val (.ref a), .val (.ref va), .val (.int (0 : Int32)), .val (.int (1 : Int32)), .val .null, .unset] [])
  refine Go.by (fun _ gk => XS.iloadN X1.here hx rfl (hb hby d3_4) rfl gk) ?_
  show Go _ _ _ _ T1 (mkF m 5 #[.val (.ref a), .val (.ref va), .val (.int (0 : Int32)), .val (.int (1 : Int32)), .val .null, .unset] [(.int (1 : Int32))])
  refine Go.by (fun _ gk => XS.ifYes X1.here hx rfl (pc0 := 5) (pc' := 27) rfl (hb hby d3_5) rfl (XT.i0_ne_t (by decide)) (by decide) (by decide) gk) ?_
  show Go _ _ _ _ T1 (mkF m 27 #[.val (.ref a), .val (.ref va), .val (.int (0 : Int32)), .val (.int (1 : Int32)), .val .null, .unset] [])
  have F2 : Sta Z h0 "java/lang/String" "COMPACT_STRINGS" "Z" (.int cs) := S_cs.ext O0.2
  obtain ⟨T3, X3, e3, st3⟩ := getS2 X1 hx hZ hown (host := "") (Or.inl (hw _ (List.mem_of_getElem? (i := 36) rfl))) Via.refl e1 F2 (g := (mkF m 27 #[.val (.ref a), .val (.ref va), .val (.int (0 : Int32)), .val (.int (1 : Int32)), .val .null, .unset] [])) rfl (hb hby d3_27)
  refine Go.by st3 ?_
  show Go _ _ _ _ T3 (mkF m 30 #[.val (.ref a), .val (.ref va), .val (.int (0 : Int32)), .val (.int (1 : Int32)), .val .null, .unset] [(.int cs)])
  refine Go.by (fun _ gk => XS.ifNo X3.here hx rfl (hb hby d3_30) rfl (XT.i0_eq_f n_cs) gk) ?_
  show Go _ _ _ _ T3 (mkF m 33 #[.val (.ref a), .val (.ref va), .val (.int (0 : Int32)), .val (.int (1 : Int32)), .val .null, .unset] [])
  refine Go.by (fun _ gk => XS.aloadN X3.here hx rfl (hb hby d3_33) rfl rfl gk) ?_
  show Go _ _ _ _ T3 (mkF m 34 #[.val (.ref a), .val (.ref va), .val (.int (0 : Int32)), .val (.int (1 : Int32)), .val .null, .unset] [(.ref va)])
  refine Go.by (fun _ gk => XS.iloadN X3.here hx rfl (hb hby d3_34) rfl gk) ?_
  show Go _ _ _ _ T3 (mkF m 35 #[.val (.ref a), .val (.ref va), .val (.int (0 : Int32)), .val (.int (1 : Int32)), .val .null, .unset] [(.int (0 : Int32)), (.ref va)])
  refine Go.by (fun _ gk => XS.iloadN X3.here hx rfl (hb hby d3_35) rfl gk) ?_
  show Go _ _ _ _ T3 (mkF m 36 #[.val (.ref a), .val (.ref va), .val (.int (0 : Int32)), .val (.int (1 : Int32)), .val .null, .unset] [(.int (1 : Int32)), (.int (0 : Int32)), (.ref va)])
  obtain ⟨_, _, ⟨T4, L4, k4, n4⟩, -, X4, ⟨Lc4, hQ4, l4, y4, z4⟩, st4⟩ := Jvm.LawKit.callS X3 hx (y := (⟨"java/lang/StringUTF16", "compress", "([CII)[B"⟩ : MethodName)) hown (mvT hZ (hw _ (List.mem_of_getElem? (i := 37) rfl))) (mvT hZ (hw _ (List.mem_of_getElem? (i := 38) rfl))) (mvT hZ (hw _ (List.mem_of_getElem? (i := 39) rfl))) (mvT hZ (hw _ (List.mem_of_getElem? (i := 40) rfl))) (by decide) (backOf (W := 0) (rmC3_1 l Z a0 hw [] va kv c0 h0 n0 Z0 V_va hc0) hZ (hw _ (List.mem_of_getElem? (i := 40) rfl)) (hw _ (List.mem_of_getElem? (i := 39) rfl)) (by decide) (by decide)) (g := (mkF m 36 #[.val (.ref a), .val (.ref va), .val (.int (0 : Int32)), .val (.int (1 : Int32)), .val .null, .unset] [(.int (1 : Int32)), (.int (0 : Int32)), (.ref va)])) rfl (by rw [hml]; rfl) (argsL := [(.ref va), (.int (0 : Int32)), (.int (1 : Int32))]) (rest := []) (lenOf pd_94 rfl) rfl (by show 2 * 0 + _ ≤ _; exact Nat.le_of_eq rfl) (hb hby d3_36) (fun _ _ => ⟨rfl, e3, (by decide : 0 + 1 ≤ _), (by decide : 0 + 1 ≤ _)⟩)
  dsimp only [Pt.U, Pt.locs, Pt.cells, Pt.slots] at X4 l4 y4 z4 st4 hQ4
  subst l4 y4 z4
  obtain ⟨b, kb, rfl, N4q, K4, Q4_0, Q4_1⟩ := hQ4
  have N4 := Fr.app N0 N4q
  refine Go.by st4 ?_
  show Go _ _ _ _ T4 (mkF m 39 #[.val (.ref a), .val (.ref va), .val (.int (0 : Int32)), .val (.int (1 : Int32)), .val .null, .unset] [(.ref b)])
  have ge_b : n0 ≤ b := Nat.le_trans Z0 Q4_1
  have sz_b : h0.size ≤ b := Nat.le_trans (Keep.refl h0 [a]).1 Q4_1
  have ne_a_b : a ≠ b := Nat.ne_of_lt (Nat.lt_of_lt_of_le E_a.lt Q4_1)
  have ne_va_b : va ≠ b := Nat.ne_of_lt (Nat.lt_of_lt_of_le V_va.lt Q4_1)
  refine Go.by (fun _ gk => XS.astore X4.here hx rfl (hb hby d3_39) rfl rfl (l' := #[.val (.ref a), .val (.ref va), .val (.int (0 : Int32)), .val (.int (1 : Int32)), .val .null, .val (.ref b)]) rfl gk) ?_
  show Go _ _ _ _ T4 (mkF m 41 #[.val (.ref a), .val (.ref va), .val (.int (0 : Int32)), .val (.int (1 : Int32)), .val .null, .val (.ref b)] [])
  refine Go.by (fun _ gk => XS.aloadN X4.here hx rfl (hb hby d3_41) rfl rfl gk) ?_
  show Go _ _ _ _ T4 (mkF m 42 #[.val (.ref a), .val (.ref va), .val (.int (0 : Int32)), .val (.int (1 : Int32)), .val .null, .val (.ref b)] [(.ref a)])
  refine Go.by (fun _ gk => XS.aload X4.here hx rfl (hb hby d3_42) rfl rfl gk) ?_
  show Go _ _ _ _ T4 (mkF m 44 #[.val (.ref a), .val (.ref va), .val (.int (0 : Int32)), .val (.int (1 : Int32)), .val .null, .val (.ref b)] [(.ref b), (.ref a)])
  refine Go.by (fun _ gk => XS.iloadN X4.here hx rfl (hb hby d3_44) rfl gk) ?_
  show Go _ _ _ _ T4 (mkF m 45 #[.val (.ref a), .val (.ref va), .val (.int (0 : Int32)), .val (.int (1 : Int32)), .val .null, .val (.ref b)] [(.int (1 : Int32)), (.ref b), (.ref a)])
  have F5 : n0 ≤ T4.heap.size := Nat.le_trans Z0 K4.1
  obtain ⟨_, _, ⟨T6, L6, k6, n6⟩, -, X6, ⟨Lc6, hQ6, l6, y6, z6⟩, st6⟩ := Jvm.LawKit.callS X4 hx (y := (⟨"java/lang/StringUTF16", "coderFromArrayLen", "([BI)B"⟩ : MethodName)) hown (mvT hZ (hw _ (List.mem_of_getElem? (i := 44) rfl))) (mvT hZ (hw _ (List.mem_of_getElem? (i := 45) rfl))) (mvT hZ (hw _ (List.mem_of_getElem? (i := 39) rfl))) (mvT hZ (hw _ (List.mem_of_getElem? (i := 46) rfl))) (by decide) (backOf (W := 1) (rmCoder_1 l Z a0 hw [] b kb ([(.int (own_b c0))]) T4.heap n0 F5 Q4_0) hZ (hw _ (List.mem_of_getElem? (i := 46) rfl)) (hw _ (List.mem_of_getElem? (i := 39) rfl)) (by decide) (by decide)) (g := (mkF m 45 #[.val (.ref a), .val (.ref va), .val (.int (0 : Int32)), .val (.int (1 : Int32)), .val .null, .val (.ref b)] [(.int (1 : Int32)), (.ref b), (.ref a)])) rfl (by rw [hml]; rfl) (argsL := [(.ref b), (.int (1 : Int32))]) (rest := [(.ref a)]) (lenOf pd_100 rfl) rfl (by show 2 * 0 + _ ≤ _; exact Nat.le_of_eq rfl) (hb hby d3_45) (fun _ _ => ⟨rfl, rfl, (by decide : 1 + 0 ≤ _), (by decide : 1 + 0 ≤ _)⟩)
  dsimp only [Pt.U, Pt.locs, Pt.cells, Pt.slots] at X6 l6 y6 z6 st6 hQ6
  subst l6 y6 z6
  obtain ⟨rfl, N6q, e6⟩ := hQ6
  have N6 := Fr.app N4 N6q
  refine Go.by st6 ?_
  show Go _ _ _ _ T6 (mkF m 48 #[.val (.ref a), .val (.ref va), .val (.int (0 : Int32)), .val (.int (1 : Int32)), .val .null, .val (.ref b)] [(.int (0 : Int32)), (.ref a)])
  have F7 : Fld Z T4.heap a "java/lang/String" "coder" "B" (.int (0 : Int32)) := F_a_coder.keep K4 nin0
  have F8 : Exa Z T4.heap a "java/lang/String" := E_a.keep K4
  obtain ⟨T9, h9, X9, e9, W9, st9⟩ := putFN X6 hx hZ hown (hw _ (List.mem_of_getElem? (i := 28) rfl)) Via.refl e6 F7 F8 (Or.inr ⟨(hw _ (List.mem_of_getElem? (i := 24) rfl)), rfl, hnm⟩) (hw _ (List.mem_of_getElem? (i := 8) rfl)) (ty := .byte) (v' := (.int (0 : Int32))) (by decide) rfl rfl (g := (mkF m 48 #[.val (.ref a), .val (.ref va), .val (.int (0 : Int32)), .val (.int (1 : Int32)), .val .null, .val (.ref b)] [(.int (0 : Int32)), (.ref a)])) rfl rfl (hb hby d3_48)
  have N9 := Fr.snoc X9 N6 g_a
  have Fw9 : Fld Z h9 a "java/lang/String" "coder" "B" (.int (0 : Int32)) := F7.same W9
  refine Go.by st9 ?_
  show Go _ _ _ _ T9 (mkF m 51 #[.val (.ref a), .val (.ref va), .val (.int (0 : Int32)), .val (.int (1 : Int32)), .val .null, .val (.ref b)] [])
  refine Go.by (fun _ gk => XS.aloadN X9.here hx rfl (hb hby d3_51) rfl rfl gk) ?_
  show Go _ _ _ _ T9 (mkF m 52 #[.val (.ref a), .val (.ref va), .val (.int (0 : Int32)), .val (.int (1 : Int32)), .val .null, .val (.ref b)] [(.ref a)])
  refine Go.by (fun _ gk => XS.aload X9.here hx rfl (hb hby d3_52) rfl rfl gk) ?_
  show Go _ _ _ _ T9 (mkF m 54 #[.val (.ref a), .val (.ref va), .val (.int (0 : Int32)), .val (.int (1 : Int32)), .val .null, .val (.ref b)] [(.ref b), (.ref a)])
  have F10 : Fld Z T4.heap a "java/lang/String" "value" "[B" .null := F_a_value.keep K4 nin0
  have F11 : Fld Z h9 a "java/lang/String" "value" "[B" .null := F10.other W9 (Or.inr (slot_ne (Or.inr (hw _ (List.mem_of_getElem? (i := 23) rfl))) (Or.inr (hw _ (List.mem_of_getElem? (i := 24) rfl))) (by decide) (t := (.array .byte)) (t' := .byte) (by decide) (by decide)))
  have F12 : Exa Z h9 a "java/lang/String" := F8.wr W9
  obtain ⟨T13, h13, X13, e13, W13, st13⟩ := putF X9 hx hZ hown (host := "") (Or.inl (hw _ (List.mem_of_getElem? (i := 27) rfl))) Via.refl e9 F11 F12 (Or.inr ⟨(hw _ (List.mem_of_getElem? (i := 23) rfl)), rfl, hnm⟩) (hw _ (List.mem_of_getElem? (i := 8) rfl)) (ty := (.array .byte)) (by decide) rfl rfl (g := (mkF m 54 #[.val (.ref a), .val (.ref va), .val (.int (0 : Int32)), .val (.int (1 : Int32)), .val .null, .val (.ref b)] [(.ref b), (.ref a)])) rfl rfl (hb hby d3_54)
  have N13 := Fr.snoc X13 N9 g_a
  have Fw13 : Fld Z h13 a "java/lang/String" "value" "[B" (.ref b) := F11.same W13
  refine Go.by st13 ?_
  show Go _ _ _ _ T13 (mkF m 57 #[.val (.ref a), .val (.ref va), .val (.int (0 : Int32)), .val (.int (1 : Int32)), .val .null, .val (.ref b)] [])
  have F14 : Keep h0 T4.heap [a] := (Keep.refl h0 [a]).trans K4 all0
  have F15 : Keep h0 h9 [a] := F14.wr W9 (Or.inl (List.mem_of_getElem? (i := 0) rfl))
  have F16 : Keep h0 h13 [a] := F15.wr W13 (Or.inl (List.mem_of_getElem? (i := 0) rfl))
  have F17 : Exa Z h13 a "java/lang/String" := F12.wr W13
  have F18 : Fld Z h13 a "java/lang/String" "coder" "B" (.int (0 : Int32)) := Fw9.other W13 (Or.inr (slot_ne (Or.inr (hw _ (List.mem_of_getElem? (i := 24) rfl))) (Or.inr (hw _ (List.mem_of_getElem? (i := 23) rfl))) (by decide) (t := .byte) (t' := (.array .byte)) (by decide) (by decide)))
  have F19 : Arv Z h9 b kb .byte (1 : Int32) [(.int (own_b c0))] (.int (0 : Int32)) := Q4_0.other W9 (Ne.symm ne_a_b)
  have F20 : Arv Z h13 b kb .byte (1 : Int32) [(.int (own_b c0))] (.int (0 : Int32)) := F19.other W13 (Ne.symm ne_a_b)
  exact Go.retV X13 hx Bd.notSynchronized Bd.returns (hb hby d3_57) (by rw [e13]; exact ⟨b, kb, rfl, N13, F16, F17, F18, Fw13, F20, sz_b⟩) (by decide) (by decide)
def Q_rmS1_1 (Z : State) (a : Addr) (va : Addr) (kv : ClassId) (c0 : Int32) (cs : Int32) (h0 : Heap) (n0 : Nat) (v : Option Value) (h : Heap) (L : List Loc) : Prop := ∃ b : Addr, ∃ kb : ClassId, v = none ∧ Fr n0 L ∧ Keep h0 h [a] ∧ Exa Z h a "java/lang/String" ∧ Fld Z h a "java/lang/String" "coder" "B" (.int (0 : Int32)) ∧ Fld Z h a "java/lang/String" "value" "[B" (.ref b) ∧ Arv Z h b kb .byte (1 : Int32) ([(.int (own_b c0))]) (.int (0 : Int32)) ∧ h0.size ≤ b
set_option maxRecDepth 65536 in
set_option maxHeartbeats 40000000 in
theorem rmS1_1 (l : Launch) (Z : State) (a0 : Array Value) (hw : ∀ d ∈ tables_1, d.before a0 Z = true) (ws : List Jvm.Cond) (a : Addr) (va : Addr) (kv : ClassId) (c0 : Int32) (cs : Int32) (h0 : Heap) (n0 : Nat) (Z0 : n0 ≤ h0.size) (O0 : Old Z n0 h0) (E_a : Exa Z h0 a "java/lang/String") (F_a_value : Fld Z h0 a "java/lang/String" "value" "[B" .null) (F_a_coder : Fld Z h0 a "java/lang/String" "coder" "B" (.int (0 : Int32))) (g_a : n0 ≤ a) (V_va : Arv Z h0 va kv .char (1 : Int32) ([(.int c0)]) (.int (0 : Int32))) (hc0 : (¬ (255 : Int32) < c0)) (S_cs : Sta Z Z.heap "java/lang/String" "COMPACT_STRINGS" "Z" (.int cs)) (n_cs : ¬ cs = 0) :
    MetFree l (⟨"java/lang/String", "<init>", "([C)V"⟩ : MethodName) (head1 (Jvm.Cond.code (⟨"java/lang/String", "<init>", "([C)V"⟩ : MethodName) jdk_42_method_3_code 2 none :: ws) ({ frames := 3, cells := 1, slots := 1, locals := 52 } : Room)) (fun as' U => as' = #[(.ref a), (.ref va)] ∧ Z.Warmed39 U.vm ∧ U.heap = h0) (fun _ _ _ _ _ => True) (fun _ U o U' => ∃ v L, o = .returned v ∧ Q_rmS1_1 Z a va kv c0 cs h0 n0 v U'.heap L ∧ FrameEnd U o U' L ({ frames := 3, cells := 1, slots := 1, locals := 52 } : Room).cells ({ frames := 3, cells := 1, slots := 1, locals := 52 } : Room).slots) := by
  refine MetFree.of_bodySF (plainFor_of_name pn_4) hisR ?_
  intro p e s m args below meth c s₁ Bd hml0 hP hK
  obtain ⟨rfl, hZ, hh⟩ := hP
  have hx := Bd.exec
  have hby := Bd.bytes
  have hml : c.maxLocals = 2 := hml0
  have hown : s.vm.findClass "java/lang/String" = some m.cls := findClass_of_methodNamed Bd.named
  have hnm := (name_of_methodNamed Bd.named Bd.method).1
  have X0 : Stand p l e ({ frames := 3, cells := 1, slots := 1, locals := 52 } : Room) s m #[(.ref a), (.ref va)] below meth c s₁ [] 0 0 := Stand.of_body Bd
  have e0 : s₁.heap = h0 := by rw [← hh, Bd.state]; rfl
  have N0 := Fr.nil n0
  refine Go.enter (F := EndN s (Q_rmS1_1 Z a va kv c0 cs h0 n0) ({ frames := 3, cells := 1, slots := 1, locals := 52 } : Room).cells ({ frames := 3, cells := 1, slots := 1, locals := 52 } : Room).slots) (ef_19 m a va) ?_
  show Go _ _ _ _ s₁ (mkF m 0 #[.val (.ref a), .val (.ref va)] [])
  refine Go.by (fun _ gk => XS.aloadN X0.here hx rfl (hb hby d2_0) rfl rfl gk) ?_
  show Go _ _ _ _ s₁ (mkF m 1 #[.val (.ref a), .val (.ref va)] [(.ref a)])
  refine Go.by (fun _ gk => XS.aloadN X0.here hx rfl (hb hby d2_1) rfl rfl gk) ?_
  show Go _ _ _ _ s₁ (mkF m 2 #[.val (.ref a), .val (.ref va)] [(.ref va), (.ref a)])
  refine Go.by (fun _ gk => XT.iconstV X0.here hx rfl (0 : Int32) (hb hby d2_2) (by decide) gk) ?_
  show Go _ _ _ _ s₁ (mkF m 3 #[.val (.ref a), .val (.ref va)] [(.int (0 : Int32)), (.ref va), (.ref a)])
  refine Go.by (fun _ gk => XS.aloadN X0.here hx rfl (hb hby d2_3) rfl rfl gk) ?_
  show Go _ _ _ _ s₁ (mkF m 4 #[.val (.ref a), .val (.ref va)] [(.ref va), (.int (0 : Int32)), (.ref va), (.ref a)])
  obtain ⟨cl1, Ar1, -, S1, M1, -, -⟩ := id V_va
  refine Go.by (fun _ gk => X0.arraylength hx (by rw [e0]; exact Ar1.1) (State.isArrayOf_alike hZ.alike Ar1.2.1) (g := (mkF m 4 #[.val (.ref a), .val (.ref va)] [(.ref va), (.int (0 : Int32)), (.ref va), (.ref a)])) rfl rfl (hb hby d2_4) _ gk) ?_
  rw [len_of S1 M1]
  show Go _ _ _ _ s₁ (mkF m 5 #[.val (.ref a), .val (.ref va)] [(.int (1 : Int32)), (.int (0 : Int32)), (.ref va), (.ref a)])
  refine Go.by (fun _ gk => XS.aconstNull X0.here hx rfl (hb hby d2_5) gk) ?_
  show Go _ _ _ _ s₁ (mkF m 6 #[.val (.ref a), .val (.ref va)] [.null, (.int (1 : Int32)), (.int (0 : Int32)), (.ref va), (.ref a)])
  obtain ⟨_, _, ⟨T2, L2, k2, n2⟩, -, X2, ⟨Lc2, hQ2, l2, y2, z2⟩, st2⟩ := X0.specialBack hx (y := (⟨"java/lang/String", "<init>", "([CIILjava/lang/Void;)V"⟩ : MethodName)) rfl hown (mvT hZ (hw _ (List.mem_of_getElem? (i := 14) rfl))) (mvT hZ (hw _ (List.mem_of_getElem? (i := 15) rfl))) (mvT hZ (hw _ (List.mem_of_getElem? (i := 17) rfl))) (by decide) (backOf (W := 0) (rmS4_1 l Z a0 hw [] a va kv c0 cs h0 n0 Z0 O0 E_a F_a_value F_a_coder g_a V_va hc0 S_cs n_cs) hZ (hw _ (List.mem_of_getElem? (i := 17) rfl)) (hw _ (List.mem_of_getElem? (i := 9) rfl)) (by decide) (by decide)) (g := (mkF m 6 #[.val (.ref a), .val (.ref va)] [.null, (.int (1 : Int32)), (.int (0 : Int32)), (.ref va), (.ref a)])) rfl (by rw [hml]; rfl) (Steps.refl _) (a := a) (argsL := [(.ref va), (.int (0 : Int32)), (.int (1 : Int32)), .null]) (rest := []) (lenOf pd_26 rfl) rfl (by show 2 * 0 + _ ≤ _; exact Nat.le_of_eq rfl) (hb hby d2_6) (fun _ _ => ⟨rfl, e0, (by decide : 0 + 1 ≤ _), (by decide : 0 + 1 ≤ _)⟩)
  dsimp only [Pt.U, Pt.locs, Pt.cells, Pt.slots] at X2 l2 y2 z2 st2 hQ2
  subst l2 y2 z2
  obtain ⟨b, kb, rfl, N2q, K2, Q2_0, Q2_1, Q2_2, Q2_3, Q2_4⟩ := hQ2
  have N2 := Fr.app N0 N2q
  refine Go.to st2 ?_
  show Go _ _ _ _ T2 (mkF m 9 #[.val (.ref a), .val (.ref va)] [])
  have ge_b : n0 ≤ b := Nat.le_trans Z0 Q2_4
  have sz_b : h0.size ≤ b := Nat.le_trans (Keep.refl h0 [a]).1 Q2_4
  have ne_a_b : a ≠ b := Nat.ne_of_lt (Nat.lt_of_lt_of_le E_a.lt Q2_4)
  have ne_va_b : va ≠ b := Nat.ne_of_lt (Nat.lt_of_lt_of_le V_va.lt Q2_4)
  have F3 : Keep h0 T2.heap [a] := (Keep.refl h0 [a]).trans K2 (allS (Or.inl (List.mem_of_getElem? (i := 0) rfl)) all0)
  exact Go.retV X2 hx Bd.notSynchronized Bd.returns (hb hby d2_9) ⟨b, kb, rfl, N2, F3, Q2_0, Q2_1, Q2_2, Q2_3, sz_b⟩ (by decide) (by decide)
theorem d1_15 : decode method_2_code 15 = .ok (.iload_n 0, 1) := by decide +kernel
theorem d1_16 : decode method_2_code 16 = .ok (.iconst 1, 1) := by decide +kernel
theorem d1_17 : decode method_2_code 17 = .ok (.if_icmp .ne 18, 3) := by decide +kernel
theorem d1_20 : decode method_2_code 20 = .ok (.new 7, 3) := by decide +kernel
theorem d1_23 : decode method_2_code 23 = .ok (.dup, 1) := by decide +kernel
theorem d1_24 : decode method_2_code 24 = .ok (.iconst 1, 1) := by decide +kernel
theorem d1_25 : decode method_2_code 25 = .ok (.newarray .char, 2) := by decide +kernel
theorem d1_27 : decode method_2_code 27 = .ok (.dup, 1) := by decide +kernel
theorem d1_28 : decode method_2_code 28 = .ok (.iconst 0, 1) := by decide +kernel
theorem d1_29 : decode method_2_code 29 = .ok (.iload_n 1, 1) := by decide +kernel
theorem d1_30 : decode method_2_code 30 = .ok (.castore, 1) := by decide +kernel
theorem d1_31 : decode method_2_code 31 = .ok (.invokespecial 9, 3) := by decide +kernel
theorem d1_34 : decode method_2_code 34 = .ok (.areturn, 1) := by decide +kernel
def Q_rmC5_2 (Z : State) (va : Addr) (da : Addr) (kv : ClassId) (kd : ClassId) (c0 : Int32) (c1 : Int32) (h0 : Heap) (n0 : Nat) (v : Option Value) (h : Heap) (L : List Loc) : Prop := v = some (.int (2 : Int32)) ∧ Fr n0 L ∧ Keep h0 h [da] ∧ Arv Z h da kd .byte (2 : Int32) ([(.int (own_b c0)), (.int (own_b c1))]) (.int (0 : Int32))
set_option maxRecDepth 65536 in
set_option maxHeartbeats 40000000 in
theorem rmC5_2 (l : Launch) (Z : State) (a0 : Array Value) (hw : ∀ d ∈ tables_1, d.before a0 Z = true) (ws : List Jvm.Cond) (va : Addr) (da : Addr) (kv : ClassId) (kd : ClassId) (c0 : Int32) (c1 : Int32) (h0 : Heap) (n0 : Nat) (Z0 : n0 ≤ h0.size) (V_va : Arv Z h0 va kv .char (2 : Int32) ([(.int c0), (.int c1)]) (.int (0 : Int32))) (V_da : Arv Z h0 da kd .byte (2 : Int32) ([(.int (0 : Int32)), (.int (0 : Int32))]) (.int (0 : Int32))) (g_da : n0 ≤ da) (ne_va_da : va ≠ da) (hc0 : (¬ (255 : Int32) < c0)) (hc1 : (¬ (255 : Int32) < c1)) :
    MetFree l (⟨"java/lang/StringUTF16", "compress", "([CI[BII)I"⟩ : MethodName) (head1 (Jvm.Cond.code (⟨"java/lang/StringUTF16", "compress", "([CI[BII)I"⟩ : MethodName) jdk_52_method_21_code 7 (some .int) :: ws) ({ frames := 0, cells := 0, slots := 0, locals := 0 } : Room)) (fun as' U => as' = #[(.ref va), (.int (0 : Int32)), (.ref da), (.int (0 : Int32)), (.int (2 : Int32))] ∧ Z.Warmed39 U.vm ∧ U.heap = h0) (fun _ _ _ _ _ => True) (fun _ U o U' => ∃ v L, o = .returned v ∧ Q_rmC5_2 Z va da kv kd c0 c1 h0 n0 v U'.heap L ∧ FrameEnd U o U' L ({ frames := 0, cells := 0, slots := 0, locals := 0 } : Room).cells ({ frames := 0, cells := 0, slots := 0, locals := 0 } : Room).slots) := by
  refine MetFree.of_bodySF (plainFor_of_name pn_38) hisR ?_
  intro p e s m args below meth c s₁ Bd hml0 hP hK
  obtain ⟨rfl, hZ, hh⟩ := hP
  have hx := Bd.exec
  have hby := Bd.bytes
  have hml : c.maxLocals = 7 := hml0
  have hown : s.vm.findClass "java/lang/StringUTF16" = some m.cls := findClass_of_methodNamed Bd.named
  have hnm := (name_of_methodNamed Bd.named Bd.method).1
  have X0 : Stand p l e ({ frames := 0, cells := 0, slots := 0, locals := 0 } : Room) s m #[(.ref va), (.int (0 : Int32)), (.ref da), (.int (0 : Int32)), (.int (2 : Int32))] below meth c s₁ [] 0 0 := Stand.of_body Bd
  have e0 : s₁.heap = h0 := by rw [← hh, Bd.state]; rfl
  have N0 := Fr.nil n0
  refine Go.enter (F := EndN s (Q_rmC5_2 Z va da kv kd c0 c1 h0 n0) ({ frames := 0, cells := 0, slots := 0, locals := 0 } : Room).cells ({ frames := 0, cells := 0, slots := 0, locals := 0 } : Room).slots) (ef_39 m va (0 : Int32) da (0 : Int32) (2 : Int32)) ?_
  show Go _ _ _ _ s₁ (mkF m 0 #[.val (.ref va), .val (.int (0 : Int32)), .val (.ref da), .val (.int (0 : Int32)), .val (.int (2 : Int32)), .unset, .unset] [])
  refine Go.by (fun _ gk => XT.iconstV X0.here hx rfl (0 : Int32) (hb hby d7_0) (by decide) gk) ?_
  show Go _ _ _ _ s₁ (mkF m 1 #[.val (.ref va), .val (.int (0 : Int32)), .val (.ref da), .val (.int (0 : Int32)), .val (.int (2 : Int32)), .unset, .unset] [(.int (0 : Int32))])
  refine Go.by (fun _ gk => XS.istore X0.here hx rfl (hb hby d7_1) rfl (l' := #[.val (.ref va), .val (.int (0 : Int32)), .val (.ref da), .val (.int (0 : Int32)), .val (.int (2 : Int32)), .val (.int (0 : Int32)), .unset]) rfl gk) ?_
  show Go _ _ _ _ s₁ (mkF m 3 #[.val (.ref va), .val (.int (0 : Int32)), .val (.ref da), .val (.int (0 : Int32)), .val (.int (2 : Int32)), .val (.int (0 : Int32)), .unset] [])
  refine Go.by (fun _ gk => XS.iload X0.here hx rfl (hb hby d7_3) rfl gk) ?_
  show Go _ _ _ _ s₁ (mkF m 5 #[.val (.ref va), .val (.int (0 : Int32)), .val (.ref da), .val (.int (0 : Int32)), .val (.int (2 : Int32)), .val (.int (0 : Int32)), .unset] [(.int (0 : Int32))])
  refine Go.by (fun _ gk => XS.iload X0.here hx rfl (hb hby d7_5) rfl gk) ?_
  show Go _ _ _ _ s₁ (mkF m 7 #[.val (.ref va), .val (.int (0 : Int32)), .val (.ref da), .val (.int (0 : Int32)), .val (.int (2 : Int32)), .val (.int (0 : Int32)), .unset] [(.int (2 : Int32)), (.int (0 : Int32))])
  refine Go.by (fun _ gk => XS.icmpNo X0.here hx rfl (hb hby d7_7) rfl (XT.ii_ge_f (by decide)) gk) ?_
  show Go _ _ _ _ s₁ (mkF m 10 #[.val (.ref va), .val (.int (0 : Int32)), .val (.ref da), .val (.int (0 : Int32)), .val (.int (2 : Int32)), .val (.int (0 : Int32)), .unset] [])
  refine Go.by (fun _ gk => XS.aloadN X0.here hx rfl (hb hby d7_10) rfl rfl gk) ?_
  show Go _ _ _ _ s₁ (mkF m 11 #[.val (.ref va), .val (.int (0 : Int32)), .val (.ref da), .val (.int (0 : Int32)), .val (.int (2 : Int32)), .val (.int (0 : Int32)), .unset] [(.ref va)])
  refine Go.by (fun _ gk => XS.iloadN X0.here hx rfl (hb hby d7_11) rfl gk) ?_
  show Go _ _ _ _ s₁ (mkF m 12 #[.val (.ref va), .val (.int (0 : Int32)), .val (.ref da), .val (.int (0 : Int32)), .val (.int (2 : Int32)), .val (.int (0 : Int32)), .unset] [(.int (0 : Int32)), (.ref va)])
  obtain ⟨cl1, Ar1, -, S1, M1, H1, -⟩ := id V_va
  have hin1 : ¬ ((0 : Int32) < 0 ∨ cl1.slots.size ≤ (0 : Int32).toNatClampNeg) := inb_of S1 ⟨by decide, by decide⟩
  refine Go.by (fun _ gk => X0.caload hx (j := (0 : Int32)) (v := (.int c0)) (by rw [e0]; exact Ar1.1) (State.isArrayOf_alike hZ.alike Ar1.2.1) Ar1.2.2 hin1 (Has.at H1 hin1 rfl) (g := (mkF m 12 #[.val (.ref va), .val (.int (0 : Int32)), .val (.ref da), .val (.int (0 : Int32)), .val (.int (2 : Int32)), .val (.int (0 : Int32)), .unset] [(.int (0 : Int32)), (.ref va)])) rfl rfl (hb hby d7_12) _ gk) ?_
  show Go _ _ _ _ s₁ (mkF m 13 #[.val (.ref va), .val (.int (0 : Int32)), .val (.ref da), .val (.int (0 : Int32)), .val (.int (2 : Int32)), .val (.int (0 : Int32)), .unset] [(.int c0)])
  refine Go.by (fun _ gk => XS.istore X0.here hx rfl (hb hby d7_13) rfl (l' := #[.val (.ref va), .val (.int (0 : Int32)), .val (.ref da), .val (.int (0 : Int32)), .val (.int (2 : Int32)), .val (.int (0 : Int32)), .val (.int c0)]) rfl gk) ?_
  show Go _ _ _ _ s₁ (mkF m 15 #[.val (.ref va), .val (.int (0 : Int32)), .val (.ref da), .val (.int (0 : Int32)), .val (.int (2 : Int32)), .val (.int (0 : Int32)), .val (.int c0)] [])
  refine Go.by (fun _ gk => XS.iload X0.here hx rfl (hb hby d7_15) rfl gk) ?_
  show Go _ _ _ _ s₁ (mkF m 17 #[.val (.ref va), .val (.int (0 : Int32)), .val (.ref da), .val (.int (0 : Int32)), .val (.int (2 : Int32)), .val (.int (0 : Int32)), .val (.int c0)] [(.int c0)])
  refine Go.by (fun _ gk => XT.sipushV X0.here hx rfl (255 : Int32) (hb hby d7_17) (by decide) gk) ?_
  show Go _ _ _ _ s₁ (mkF m 20 #[.val (.ref va), .val (.int (0 : Int32)), .val (.ref da), .val (.int (0 : Int32)), .val (.int (2 : Int32)), .val (.int (0 : Int32)), .val (.int c0)] [(.int (255 : Int32)), (.int c0)])
  refine Go.by (fun _ gk => XS.icmpYes X0.here hx rfl (pc0 := 20) (pc' := 26) rfl (hb hby d7_20) rfl (XT.ii_le_t hc0) (by decide) (by decide) gk) ?_
  show Go _ _ _ _ s₁ (mkF m 26 #[.val (.ref va), .val (.int (0 : Int32)), .val (.ref da), .val (.int (0 : Int32)), .val (.int (2 : Int32)), .val (.int (0 : Int32)), .val (.int c0)] [])
  refine Go.by (fun _ gk => XS.aloadN X0.here hx rfl (hb hby d7_26) rfl rfl gk) ?_
  show Go _ _ _ _ s₁ (mkF m 27 #[.val (.ref va), .val (.int (0 : Int32)), .val (.ref da), .val (.int (0 : Int32)), .val (.int (2 : Int32)), .val (.int (0 : Int32)), .val (.int c0)] [(.ref da)])
  refine Go.by (fun _ gk => XS.iloadN X0.here hx rfl (hb hby d7_27) rfl gk) ?_
  show Go _ _ _ _ s₁ (mkF m 28 #[.val (.ref va), .val (.int (0 : Int32)), .val (.ref da), .val (.int (0 : Int32)), .val (.int (2 : Int32)), .val (.int (0 : Int32)), .val (.int c0)] [(.int (0 : Int32)), (.ref da)])
  refine Go.by (fun _ gk => XS.iload X0.here hx rfl (hb hby d7_28) rfl gk) ?_
  show Go _ _ _ _ s₁ (mkF m 30 #[.val (.ref va), .val (.int (0 : Int32)), .val (.ref da), .val (.int (0 : Int32)), .val (.int (2 : Int32)), .val (.int (0 : Int32)), .val (.int c0)] [(.int c0), (.int (0 : Int32)), (.ref da)])
  refine Go.by (fun _ gk => XT.i2b X0.here hx rfl (hb hby d7_30) rfl gk) ?_
  show Go _ _ _ _ s₁ (mkF m 31 #[.val (.ref va), .val (.int (0 : Int32)), .val (.ref da), .val (.int (0 : Int32)), .val (.int (2 : Int32)), .val (.int (0 : Int32)), .val (.int c0)] [(.int (c0.toInt8.toInt32)), (.int (0 : Int32)), (.ref da)])
  obtain ⟨cl2, Ar2, q2, S2, M2, H2, G2⟩ := id V_da
  have hin2 : ¬ ((0 : Int32) < 0 ∨ cl2.slots.size ≤ (0 : Int32).toNatClampNeg) := inb_of S2 ⟨by decide, by decide⟩
  obtain ⟨T2, h2, X2, e2, W2, st2⟩ := stB X0 hx hZ e0 Ar2 (j := (0 : Int32)) hin2 (g := (mkF m 31 #[.val (.ref va), .val (.int (0 : Int32)), .val (.ref da), .val (.int (0 : Int32)), .val (.int (2 : Int32)), .val (.int (0 : Int32)), .val (.int c0)] [(.int (c0.toInt8.toInt32)), (.int (0 : Int32)), (.ref da)])) rfl rfl (hb hby d7_31)
  have N2 := Fr.snoc X2 N0 g_da
  have V2 : Arv Z h2 da kd .byte (2 : Int32) [(.int (nar .byte (c0.toInt8.toInt32))), (.int (0 : Int32))] (.int (0 : Int32)) := Arv.set Ar2 q2 S2 M2 H2 G2 (fits_nar_byte _) W2 0 rfl (Nat.le_of_ble_eq_true rfl)
  refine Go.by st2 ?_
  show Go _ _ _ _ T2 (mkF m 32 #[.val (.ref va), .val (.int (0 : Int32)), .val (.ref da), .val (.int (0 : Int32)), .val (.int (2 : Int32)), .val (.int (0 : Int32)), .val (.int c0)] [])
  rw [own_bn] at V2
  refine Go.by (fun _ gk => XT.iincV X2.here hx rfl (1 : Int32) (hb hby d7_32) (by decide) rfl (l' := #[.val (.ref va), .val (.int (1 : Int32)), .val (.ref da), .val (.int (0 : Int32)), .val (.int (2 : Int32)), .val (.int (0 : Int32)), .val (.int c0)]) rfl gk) ?_
  show Go _ _ _ _ T2 (mkF m 35 #[.val (.ref va), .val (.int (1 : Int32)), .val (.ref da), .val (.int (0 : Int32)), .val (.int (2 : Int32)), .val (.int (0 : Int32)), .val (.int c0)] [])
  refine Go.by (fun _ gk => XT.iincV X2.here hx rfl (1 : Int32) (hb hby d7_35) (by decide) rfl (l' := #[.val (.ref va), .val (.int (1 : Int32)), .val (.ref da), .val (.int (1 : Int32)), .val (.int (2 : Int32)), .val (.int (0 : Int32)), .val (.int c0)]) rfl gk) ?_
  show Go _ _ _ _ T2 (mkF m 38 #[.val (.ref va), .val (.int (1 : Int32)), .val (.ref da), .val (.int (1 : Int32)), .val (.int (2 : Int32)), .val (.int (0 : Int32)), .val (.int c0)] [])
  refine Go.by (fun _ gk => XT.iincV X2.here hx rfl (1 : Int32) (hb hby d7_38) (by decide) rfl (l' := #[.val (.ref va), .val (.int (1 : Int32)), .val (.ref da), .val (.int (1 : Int32)), .val (.int (2 : Int32)), .val (.int (1 : Int32)), .val (.int c0)]) rfl gk) ?_
  show Go _ _ _ _ T2 (mkF m 41 #[.val (.ref va), .val (.int (1 : Int32)), .val (.ref da), .val (.int (1 : Int32)), .val (.int (2 : Int32)), .val (.int (1 : Int32)), .val (.int c0)] [])
  refine Go.by (fun _ gk => XS.goto X2.here hx rfl (pc0 := 41) (pc' := 3) rfl (hb hby d7_41) (by decide) (by decide) gk) ?_
  show Go _ _ _ _ T2 (mkF m 3 #[.val (.ref va), .val (.int (1 : Int32)), .val (.ref da), .val (.int (1 : Int32)), .val (.int (2 : Int32)), .val (.int (1 : Int32)), .val (.int c0)] [])
  refine Go.by (fun _ gk => XS.iload X2.here hx rfl (hb hby d7_3) rfl gk) ?_
  show Go _ _ _ _ T2 (mkF m 5 #[.val (.ref va), .val (.int (1 : Int32)), .val (.ref da), .val (.int (1 : Int32)), .val (.int (2 : Int32)), .val (.int (1 : Int32)), .val (.int c0)] [(.int (1 : Int32))])
  refine Go.by (fun _ gk => XS.iload X2.here hx rfl (hb hby d7_5) rfl gk) ?_
  show Go _ _ _ _ T2 (mkF m 7 #[.val (.ref va), .val (.int (1 : Int32)), .val (.ref da), .val (.int (1 : Int32)), .val (.int (2 : Int32)), .val (.int (1 : Int32)), .val (.int c0)] [(.int (2 : Int32)), (.int (1 : Int32))])
  refine Go.by (fun _ gk => XS.icmpNo X2.here hx rfl (hb hby d7_7) rfl (XT.ii_ge_f (by decide)) gk) ?_
  show Go _ _ _ _ T2 (mkF m 10 #[.val (.ref va), .val (.int (1 : Int32)), .val (.ref da), .val (.int (1 : Int32)), .val (.int (2 : Int32)), .val (.int (1 : Int32)), .val (.int c0)] [])
  refine Go.by (fun _ gk => XS.aloadN X2.here hx rfl (hb hby d7_10) rfl rfl gk) ?_
  show Go _ _ _ _ T2 (mkF m 11 #[.val (.ref va), .val (.int (1 : Int32)), .val (.ref da), .val (.int (1 : Int32)), .val (.int (2 : Int32)), .val (.int (1 : Int32)), .val (.int c0)] [(.ref va)])
  refine Go.by (fun _ gk => XS.iloadN X2.here hx rfl (hb hby d7_11) rfl gk) ?_
  show Go _ _ _ _ T2 (mkF m 12 #[.val (.ref va), .val (.int (1 : Int32)), .val (.ref da), .val (.int (1 : Int32)), .val (.int (2 : Int32)), .val (.int (1 : Int32)), .val (.int c0)] [(.int (1 : Int32)), (.ref va)])
  have F3 : Arv Z h2 va kv .char (2 : Int32) [(.int c0), (.int c1)] (.int (0 : Int32)) := V_va.other W2 ne_va_da
  obtain ⟨cl4, Ar4, -, S4, M4, H4, -⟩ := id F3
  have hin4 : ¬ ((1 : Int32) < 0 ∨ cl4.slots.size ≤ (1 : Int32).toNatClampNeg) := inb_of S4 ⟨by decide, by decide⟩
  refine Go.by (fun _ gk => X2.caload hx (j := (1 : Int32)) (v := (.int c1)) (by rw [e2]; exact Ar4.1) (State.isArrayOf_alike hZ.alike Ar4.2.1) Ar4.2.2 hin4 (Has.at H4 hin4 rfl) (g := (mkF m 12 #[.val (.ref va), .val (.int (1 : Int32)), .val (.ref da), .val (.int (1 : Int32)), .val (.int (2 : Int32)), .val (.int (1 : Int32)), .val (.int c0)] [(.int (1 : Int32)), (.ref va)])) rfl rfl (hb hby d7_12) _ gk) ?_
  show Go _ _ _ _ T2 (mkF m 13 #[.val (.ref va), .val (.int (1 : Int32)), .val (.ref da), .val (.int (1 : Int32)), .val (.int (2 : Int32)), .val (.int (1 : Int32)), .val (.int c0)] [(.int c1)])
  refine Go.by (fun _ gk => XS.istore X2.here hx rfl (hb hby d7_13) rfl (l' := #[.val (.ref va), .val (.int (1 : Int32)), .val (.ref da), .val (.int (1 : Int32)), .val (.int (2 : Int32)), .val (.int (1 : Int32)), .val (.int c1)]) rfl gk) ?_
  show Go _ _ _ _ T2 (mkF m 15 #[.val (.ref va), .val (.int (1 : Int32)), .val (.ref da), .val (.int (1 : Int32)), .val (.int (2 : Int32)), .val (.int (1 : Int32)), .val (.int c1)] [])
  refine Go.by (fun _ gk => XS.iload X2.here hx rfl (hb hby d7_15) rfl gk) ?_
  show Go _ _ _ _ T2 (mkF m 17 #[.val (.ref va), .val (.int (1 : Int32)), .val (.ref da), .val (.int (1 : Int32)), .val (.int (2 : Int32)), .val (.int (1 : Int32)), .val (.int c1)] [(.int c1)])
  refine Go.by (fun _ gk => XT.sipushV X2.here hx rfl (255 : Int32) (hb hby d7_17) (by decide) gk) ?_
  show Go _ _ _ _ T2 (mkF m 20 #[.val (.ref va), .val (.int (1 : Int32)), .val (.ref da), .val (.int (1 : Int32)), .val (.int (2 : Int32)), .val (.int (1 : Int32)), .val (.int c1)] [(.int (255 : Int32)), (.int c1)])
  refine Go.by (fun _ gk => XS.icmpYes X2.here hx rfl (pc0 := 20) (pc' := 26) rfl (hb hby d7_20) rfl (XT.ii_le_t hc1) (by decide) (by decide) gk) ?_
  show Go _ _ _ _ T2 (mkF m 26 #[.val (.ref va), .val (.int (1 : Int32)), .val (.ref da), .val (.int (1 : Int32)), .val (.int (2 : Int32)), .val (.int (1 : Int32)), .val (.int c1)] [])
  refine Go.by (fun _ gk => XS.aloadN X2.here hx rfl (hb hby d7_26) rfl rfl gk) ?_
  show Go _ _ _ _ T2 (mkF m 27 #[.val (.ref va), .val (.int (1 : Int32)), .val (.ref da), .val (.int (1 : Int32)), .val (.int (2 : Int32)), .val (.int (1 : Int32)), .val (.int c1)] [(.ref da)])
  refine Go.by (fun _ gk => XS.iloadN X2.here hx rfl (hb hby d7_27) rfl gk) ?_
  show Go _ _ _ _ T2 (mkF m 28 #[.val (.ref va), .val (.int (1 : Int32)), .val (.ref da), .val (.int (1 : Int32)), .val (.int (2 : Int32)), .val (.int (1 : Int32)), .val (.int c1)] [(.int (1 : Int32)), (.ref da)])
  refine Go.by (fun _ gk => XS.iload X2.here hx rfl (hb hby d7_28) rfl gk) ?_
  show Go _ _ _ _ T2 (mkF m 30 #[.val (.ref va), .val (.int (1 : Int32)), .val (.ref da), .val (.int (1 : Int32)), .val (.int (2 : Int32)), .val (.int (1 : Int32)), .val (.int c1)] [(.int c1), (.int (1 : Int32)), (.ref da)])
  refine Go.by (fun _ gk => XT.i2b X2.here hx rfl (hb hby d7_30) rfl gk) ?_
  show Go _ _ _ _ T2 (mkF m 31 #[.val (.ref va), .val (.int (1 : Int32)), .val (.ref da), .val (.int (1 : Int32)), .val (.int (2 : Int32)), .val (.int (1 : Int32)), .val (.int c1)] [(.int (c1.toInt8.toInt32)), (.int (1 : Int32)), (.ref da)])
  obtain ⟨cl5, Ar5, q5, S5, M5, H5, G5⟩ := id V2
  have hin5 : ¬ ((1 : Int32) < 0 ∨ cl5.slots.size ≤ (1 : Int32).toNatClampNeg) := inb_of S5 ⟨by decide, by decide⟩
  obtain ⟨T5, h5, X5, e5, W5, st5⟩ := stB X2 hx hZ e2 Ar5 (j := (1 : Int32)) hin5 (g := (mkF m 31 #[.val (.ref va), .val (.int (1 : Int32)), .val (.ref da), .val (.int (1 : Int32)), .val (.int (2 : Int32)), .val (.int (1 : Int32)), .val (.int c1)] [(.int (c1.toInt8.toInt32)), (.int (1 : Int32)), (.ref da)])) rfl rfl (hb hby d7_31)
  have N5 := Fr.snoc X5 N2 g_da
  have V5 : Arv Z h5 da kd .byte (2 : Int32) [(.int (own_b c0)), (.int (nar .byte (c1.toInt8.toInt32)))] (.int (0 : Int32)) := Arv.set Ar5 q5 S5 M5 H5 G5 (fits_nar_byte _) W5 1 rfl (Nat.le_of_ble_eq_true rfl)
  refine Go.by st5 ?_
  show Go _ _ _ _ T5 (mkF m 32 #[.val (.ref va), .val (.int (1 : Int32)), .val (.ref da), .val (.int (1 : Int32)), .val (.int (2 : Int32)), .val (.int (1 : Int32)), .val (.int c1)] [])
  rw [own_bn] at V5
  refine Go.by (fun _ gk => XT.iincV X5.here hx rfl (1 : Int32) (hb hby d7_32) (by decide) rfl (l' := #[.val (.ref va), .val (.int (2 : Int32)), .val (.ref da), .val (.int (1 : Int32)), .val (.int (2 : Int32)), .val (.int (1 : Int32)), .val (.int c1)]) rfl gk) ?_
  show Go _ _ _ _ T5 (mkF m 35 #[.val (.ref va), .val (.int (2 : Int32)), .val (.ref da), .val (.int (1 : Int32)), .val (.int (2 : Int32)), .val (.int (1 : Int32)), .val (.int c1)] [])
  refine Go.by (fun _ gk => XT.iincV X5.here hx rfl (1 : Int32) (hb hby d7_35) (by decide) rfl (l' := #[.val (.ref va), .val (.int (2 : Int32)), .val (.ref da), .val (.int (2 : Int32)), .val (.int (2 : Int32)), .val (.int (1 : Int32)), .val (.int c1)]) rfl gk) ?_
  show Go _ _ _ _ T5 (mkF m 38 #[.val (.ref va), .val (.int (2 : Int32)), .val (.ref da), .val (.int (2 : Int32)), .val (.int (2 : Int32)), .val (.int (1 : Int32)), .val (.int c1)] [])
  refine Go.by (fun _ gk => XT.iincV X5.here hx rfl (1 : Int32) (hb hby d7_38) (by decide) rfl (l' := #[.val (.ref va), .val (.int (2 : Int32)), .val (.ref da), .val (.int (2 : Int32)), .val (.int (2 : Int32)), .val (.int (2 : Int32)), .val (.int c1)]) rfl gk) ?_
  show Go _ _ _ _ T5 (mkF m 41 #[.val (.ref va), .val (.int (2 : Int32)), .val (.ref da), .val (.int (2 : Int32)), .val (.int (2 : Int32)), .val (.int (2 : Int32)), .val (.int c1)] [])
  refine Go.by (fun _ gk => XS.goto X5.here hx rfl (pc0 := 41) (pc' := 3) rfl (hb hby d7_41) (by decide) (by decide) gk) ?_
  show Go _ _ _ _ T5 (mkF m 3 #[.val (.ref va), .val (.int (2 : Int32)), .val (.ref da), .val (.int (2 : Int32)), .val (.int (2 : Int32)), .val (.int (2 : Int32)), .val (.int c1)] [])
  refine Go.by (fun _ gk => XS.iload X5.here hx rfl (hb hby d7_3) rfl gk) ?_
  show Go _ _ _ _ T5 (mkF m 5 #[.val (.ref va), .val (.int (2 : Int32)), .val (.ref da), .val (.int (2 : Int32)), .val (.int (2 : Int32)), .val (.int (2 : Int32)), .val (.int c1)] [(.int (2 : Int32))])
  refine Go.by (fun _ gk => XS.iload X5.here hx rfl (hb hby d7_5) rfl gk) ?_
  show Go _ _ _ _ T5 (mkF m 7 #[.val (.ref va), .val (.int (2 : Int32)), .val (.ref da), .val (.int (2 : Int32)), .val (.int (2 : Int32)), .val (.int (2 : Int32)), .val (.int c1)] [(.int (2 : Int32)), (.int (2 : Int32))])
  refine Go.by (fun _ gk => XS.icmpYes X5.here hx rfl (pc0 := 7) (pc' := 44) rfl (hb hby d7_7) rfl (XT.ii_ge_t (by decide)) (by decide) (by decide) gk) ?_
  show Go _ _ _ _ T5 (mkF m 44 #[.val (.ref va), .val (.int (2 : Int32)), .val (.ref da), .val (.int (2 : Int32)), .val (.int (2 : Int32)), .val (.int (2 : Int32)), .val (.int c1)] [])
  refine Go.by (fun _ gk => XS.iload X5.here hx rfl (hb hby d7_44) rfl gk) ?_
  show Go _ _ _ _ T5 (mkF m 46 #[.val (.ref va), .val (.int (2 : Int32)), .val (.ref da), .val (.int (2 : Int32)), .val (.int (2 : Int32)), .val (.int (2 : Int32)), .val (.int c1)] [(.int (2 : Int32))])
  have F6 : Keep h0 h2 [da] := (Keep.refl h0 [da]).wr W2 (Or.inl (List.mem_of_getElem? (i := 0) rfl))
  have F7 : Keep h0 h5 [da] := F6.wr W5 (Or.inl (List.mem_of_getElem? (i := 0) rfl))
  exact Go.retI X5 hx Bd.notSynchronized Bd.returns rfl (by simp) (hb hby d7_46) (by rw [e5]; exact ⟨rfl, N5, F7, V5⟩) (by decide) (by decide)
def Q_rmC3_2 (Z : State) (va : Addr) (kv : ClassId) (c0 : Int32) (c1 : Int32) (h0 : Heap) (n0 : Nat) (v : Option Value) (h : Heap) (L : List Loc) : Prop := ∃ da : Addr, ∃ kd : ClassId, v = some (.ref da) ∧ Fr n0 L ∧ Keep h0 h [] ∧ Arv Z h da kd .byte (2 : Int32) ([(.int (own_b c0)), (.int (own_b c1))]) (.int (0 : Int32)) ∧ h0.size ≤ da
set_option maxRecDepth 65536 in
set_option maxHeartbeats 40000000 in
theorem rmC3_2 (l : Launch) (Z : State) (a0 : Array Value) (hw : ∀ d ∈ tables_1, d.before a0 Z = true) (ws : List Jvm.Cond) (va : Addr) (kv : ClassId) (c0 : Int32) (c1 : Int32) (h0 : Heap) (n0 : Nat) (Z0 : n0 ≤ h0.size) (V_va : Arv Z h0 va kv .char (2 : Int32) ([(.int c0), (.int c1)]) (.int (0 : Int32))) (hc0 : (¬ (255 : Int32) < c0)) (hc1 : (¬ (255 : Int32) < c1)) :
    MetFree l (⟨"java/lang/StringUTF16", "compress", "([CII)[B"⟩ : MethodName) (head1 (Jvm.Cond.code (⟨"java/lang/StringUTF16", "compress", "([CII)[B"⟩ : MethodName) jdk_52_method_16_code 6 (some (.array .byte)) :: ws) ({ frames := 1, cells := 1, slots := 2, locals := 18 } : Room)) (fun as' U => as' = #[(.ref va), (.int (0 : Int32)), (.int (2 : Int32))] ∧ Z.Warmed39 U.vm ∧ U.heap = h0) (fun _ _ _ _ _ => True) (fun _ U o U' => ∃ v L, o = .returned v ∧ Q_rmC3_2 Z va kv c0 c1 h0 n0 v U'.heap L ∧ FrameEnd U o U' L ({ frames := 1, cells := 1, slots := 2, locals := 18 } : Room).cells ({ frames := 1, cells := 1, slots := 2, locals := 18 } : Room).slots) := by
  refine MetFree.of_bodySF (plainFor_of_name pn_38) hisR ?_
  intro p e s m args below meth c s₁ Bd hml0 hP hK
  obtain ⟨rfl, hZ, hh⟩ := hP
  have hx := Bd.exec
  have hby := Bd.bytes
  have hml : c.maxLocals = 6 := hml0
  have hown : s.vm.findClass "java/lang/StringUTF16" = some m.cls := findClass_of_methodNamed Bd.named
  have hnm := (name_of_methodNamed Bd.named Bd.method).1
  have X0 : Stand p l e ({ frames := 1, cells := 1, slots := 2, locals := 18 } : Room) s m #[(.ref va), (.int (0 : Int32)), (.int (2 : Int32))] below meth c s₁ [] 0 0 := Stand.of_body Bd
  have e0 : s₁.heap = h0 := by rw [← hh, Bd.state]; rfl
  have N0 := Fr.nil n0
  refine Go.enter (F := EndN s (Q_rmC3_2 Z va kv c0 c1 h0 n0) ({ frames := 1, cells := 1, slots := 2, locals := 18 } : Room).cells ({ frames := 1, cells := 1, slots := 2, locals := 18 } : Room).slots) (ef_63 m va (0 : Int32) (2 : Int32)) ?_
  show Go _ _ _ _ s₁ (mkF m 0 #[.val (.ref va), .val (.int (0 : Int32)), .val (.int (2 : Int32)), .unset, .unset, .unset] [])
  refine Go.by (fun _ gk => XS.iloadN X0.here hx rfl (hb hby d6_0) rfl gk) ?_
  show Go _ _ _ _ s₁ (mkF m 1 #[.val (.ref va), .val (.int (0 : Int32)), .val (.int (2 : Int32)), .unset, .unset, .unset] [(.int (2 : Int32))])
  obtain ⟨da, g1⟩ : ∃ z, z = h0.size := ⟨_, rfl⟩
  have ge_da : n0 ≤ da := Nat.le_trans Z0 (Nat.le_of_eq g1.symm)
  have sz_da : h0.size ≤ da := Nat.le_trans (Keep.refl h0 []).1 (Nat.le_of_eq g1.symm)
  have ne_va_da : va ≠ da := Nat.ne_of_lt (Nat.lt_of_lt_of_le V_va.lt (Nat.le_of_eq g1.symm))
  obtain ⟨T1, h1, k1, X1, e1, E1, A1, Ea1, st1⟩ := newPE X0 hx hZ (hw _ (List.mem_of_getElem? (i := 22) rfl)) e0 (g := (mkF m 1 #[.val (.ref va), .val (.int (0 : Int32)), .val (.int (2 : Int32)), .unset, .unset, .unset] [(.int (2 : Int32))])) rfl (hb hby d6_1) rfl (by decide) (cap := 2) (by decide) (by decide) (by decide) (by decide) (ad := "[B") rfl
  rw [← g1] at A1 Ea1 st1
  have V_da : Arv Z h1 da k1 .byte (2 : Int32) [(.int (0 : Int32)), (.int (0 : Int32))] (.int (0 : Int32)) := (Arv.new A1 (by decide)).pad (pad_rep [] (.int (0 : Int32)) 2)
  refine Go.by st1 ?_
  show Go _ _ _ _ T1 (mkF m 3 #[.val (.ref va), .val (.int (0 : Int32)), .val (.int (2 : Int32)), .unset, .unset, .unset] [(.ref da)])
  refine Go.by (fun _ gk => XS.astoreN X1.here hx rfl (hb hby d6_3) rfl rfl (l' := #[.val (.ref va), .val (.int (0 : Int32)), .val (.int (2 : Int32)), .val (.ref da), .unset, .unset]) rfl gk) ?_
  show Go _ _ _ _ T1 (mkF m 4 #[.val (.ref va), .val (.int (0 : Int32)), .val (.int (2 : Int32)), .val (.ref da), .unset, .unset] [])
  refine Go.by (fun _ gk => XS.aloadN X1.here hx rfl (hb hby d6_4) rfl rfl gk) ?_
  show Go _ _ _ _ T1 (mkF m 5 #[.val (.ref va), .val (.int (0 : Int32)), .val (.int (2 : Int32)), .val (.ref da), .unset, .unset] [(.ref va)])
  refine Go.by (fun _ gk => XS.iloadN X1.here hx rfl (hb hby d6_5) rfl gk) ?_
  show Go _ _ _ _ T1 (mkF m 6 #[.val (.ref va), .val (.int (0 : Int32)), .val (.int (2 : Int32)), .val (.ref da), .unset, .unset] [(.int (0 : Int32)), (.ref va)])
  refine Go.by (fun _ gk => XS.aloadN X1.here hx rfl (hb hby d6_6) rfl rfl gk) ?_
  show Go _ _ _ _ T1 (mkF m 7 #[.val (.ref va), .val (.int (0 : Int32)), .val (.int (2 : Int32)), .val (.ref da), .unset, .unset] [(.ref da), (.int (0 : Int32)), (.ref va)])
  refine Go.by (fun _ gk => XT.iconstV X1.here hx rfl (0 : Int32) (hb hby d6_7) (by decide) gk) ?_
  show Go _ _ _ _ T1 (mkF m 8 #[.val (.ref va), .val (.int (0 : Int32)), .val (.int (2 : Int32)), .val (.ref da), .unset, .unset] [(.int (0 : Int32)), (.ref da), (.int (0 : Int32)), (.ref va)])
  refine Go.by (fun _ gk => XS.iloadN X1.here hx rfl (hb hby d6_8) rfl gk) ?_
  show Go _ _ _ _ T1 (mkF m 9 #[.val (.ref va), .val (.int (0 : Int32)), .val (.int (2 : Int32)), .val (.ref da), .unset, .unset] [(.int (2 : Int32)), (.int (0 : Int32)), (.ref da), (.int (0 : Int32)), (.ref va)])
  have F2 : Arv Z h1 va kv .char (2 : Int32) [(.int c0), (.int c1)] (.int (0 : Int32)) := V_va.ext E1
  have F3 : n0 ≤ h1.size := Nat.le_trans Z0 E1.1
  obtain ⟨_, _, ⟨T4, L4, k4, n4⟩, -, X4, ⟨Lc4, hQ4, l4, y4, z4⟩, st4⟩ := Jvm.LawKit.callS X1 hx (y := (⟨"java/lang/StringUTF16", "compress", "([CI[BII)I"⟩ : MethodName)) hown (mvT hZ (hw _ (List.mem_of_getElem? (i := 41) rfl))) (mvT hZ (hw _ (List.mem_of_getElem? (i := 42) rfl))) (mvT hZ (hw _ (List.mem_of_getElem? (i := 39) rfl))) (mvT hZ (hw _ (List.mem_of_getElem? (i := 43) rfl))) (by decide) (backOf (W := 0) (rmC5_2 l Z a0 hw [] va da kv k1 c0 c1 h1 n0 F3 F2 V_da ge_da ne_va_da hc0 hc1) hZ (hw _ (List.mem_of_getElem? (i := 43) rfl)) (hw _ (List.mem_of_getElem? (i := 39) rfl)) (by decide) (by decide)) (g := (mkF m 9 #[.val (.ref va), .val (.int (0 : Int32)), .val (.int (2 : Int32)), .val (.ref da), .unset, .unset] [(.int (2 : Int32)), (.int (0 : Int32)), (.ref da), (.int (0 : Int32)), (.ref va)])) rfl (by rw [hml]; rfl) (argsL := [(.ref va), (.int (0 : Int32)), (.ref da), (.int (0 : Int32)), (.int (2 : Int32))]) (rest := []) (lenOf pd_72 rfl) rfl (by show 2 * 0 + _ ≤ _; exact Nat.le_of_eq rfl) (hb hby d6_9) (fun _ _ => ⟨rfl, e1, (by decide : 1 + 0 ≤ _), (by decide : 2 + 0 ≤ _)⟩)
  dsimp only [Pt.U, Pt.locs, Pt.cells, Pt.slots] at X4 l4 y4 z4 st4 hQ4
  subst l4 y4 z4
  obtain ⟨rfl, N4q, K4, Q4_0⟩ := hQ4
  have N4 := Fr.app N0 N4q
  refine Go.by st4 ?_
  show Go _ _ _ _ T4 (mkF m 12 #[.val (.ref va), .val (.int (0 : Int32)), .val (.int (2 : Int32)), .val (.ref da), .unset, .unset] [(.int (2 : Int32))])
  refine Go.by (fun _ gk => XS.istore X4.here hx rfl (hb hby d6_12) rfl (l' := #[.val (.ref va), .val (.int (0 : Int32)), .val (.int (2 : Int32)), .val (.ref da), .val (.int (2 : Int32)), .unset]) rfl gk) ?_
  show Go _ _ _ _ T4 (mkF m 14 #[.val (.ref va), .val (.int (0 : Int32)), .val (.int (2 : Int32)), .val (.ref da), .val (.int (2 : Int32)), .unset] [])
  refine Go.by (fun _ gk => XS.iload X4.here hx rfl (hb hby d6_14) rfl gk) ?_
  show Go _ _ _ _ T4 (mkF m 16 #[.val (.ref va), .val (.int (0 : Int32)), .val (.int (2 : Int32)), .val (.ref da), .val (.int (2 : Int32)), .unset] [(.int (2 : Int32))])
  refine Go.by (fun _ gk => XS.iloadN X4.here hx rfl (hb hby d6_16) rfl gk) ?_
  show Go _ _ _ _ T4 (mkF m 17 #[.val (.ref va), .val (.int (0 : Int32)), .val (.int (2 : Int32)), .val (.ref da), .val (.int (2 : Int32)), .unset] [(.int (2 : Int32)), (.int (2 : Int32))])
  refine Go.by (fun _ gk => XS.icmpYes X4.here hx rfl (pc0 := 17) (pc' := 57) rfl (hb hby d6_17) rfl (XT.ii_eq_t rfl) (by decide) (by decide) gk) ?_
  show Go _ _ _ _ T4 (mkF m 57 #[.val (.ref va), .val (.int (0 : Int32)), .val (.int (2 : Int32)), .val (.ref da), .val (.int (2 : Int32)), .unset] [])
  refine Go.by (fun _ gk => XS.aloadN X4.here hx rfl (hb hby d6_57) rfl rfl gk) ?_
  show Go _ _ _ _ T4 (mkF m 58 #[.val (.ref va), .val (.int (0 : Int32)), .val (.int (2 : Int32)), .val (.ref da), .val (.int (2 : Int32)), .unset] [(.ref da)])
  have F5 : Keep h0 h1 [] := (Keep.refl h0 []).ext E1
  have F6 : Keep h0 T4.heap [] := F5.trans K4 (allS (Or.inr sz_da) all0)
  exact Go.retA X4 hx Bd.notSynchronized Bd.returns rfl rfl (hb hby d6_58) ⟨da, k1, rfl, N4, F6, Q4_0, sz_da⟩ (by decide) (by decide)
def Q_rmCoder_2 (Z : State) (da : Addr) (kd : ClassId) (vs : List Value) (h0 : Heap) (n0 : Nat) (v : Option Value) (h : Heap) (L : List Loc) : Prop := v = some (.int (0 : Int32)) ∧ Fr n0 L ∧ h = h0
set_option maxRecDepth 65536 in
set_option maxHeartbeats 40000000 in
theorem rmCoder_2 (l : Launch) (Z : State) (a0 : Array Value) (hw : ∀ d ∈ tables_1, d.before a0 Z = true) (ws : List Jvm.Cond) (da : Addr) (kd : ClassId) (vs : List Value) (h0 : Heap) (n0 : Nat) (Z0 : n0 ≤ h0.size) (V_da : Arv Z h0 da kd .byte (2 : Int32) vs (.int (0 : Int32))) :
    MetFree l (⟨"java/lang/StringUTF16", "coderFromArrayLen", "([BI)B"⟩ : MethodName) (head1 (Jvm.Cond.code (⟨"java/lang/StringUTF16", "coderFromArrayLen", "([BI)B"⟩ : MethodName) jdk_52_method_15_code 2 (some .byte) :: ws) ({ frames := 0, cells := 0, slots := 0, locals := 0 } : Room)) (fun as' U => as' = #[(.ref da), (.int (2 : Int32))] ∧ Z.Warmed39 U.vm ∧ U.heap = h0) (fun _ _ _ _ _ => True) (fun _ U o U' => ∃ v L, o = .returned v ∧ Q_rmCoder_2 Z da kd vs h0 n0 v U'.heap L ∧ FrameEnd U o U' L ({ frames := 0, cells := 0, slots := 0, locals := 0 } : Room).cells ({ frames := 0, cells := 0, slots := 0, locals := 0 } : Room).slots) := by
  refine MetFree.of_bodySF (plainFor_of_name pn_38) hisR ?_
  intro p e s m args below meth c s₁ Bd hml0 hP hK
  obtain ⟨rfl, hZ, hh⟩ := hP
  have hx := Bd.exec
  have hby := Bd.bytes
  have hml : c.maxLocals = 2 := hml0
  have hown : s.vm.findClass "java/lang/StringUTF16" = some m.cls := findClass_of_methodNamed Bd.named
  have hnm := (name_of_methodNamed Bd.named Bd.method).1
  have X0 : Stand p l e ({ frames := 0, cells := 0, slots := 0, locals := 0 } : Room) s m #[(.ref da), (.int (2 : Int32))] below meth c s₁ [] 0 0 := Stand.of_body Bd
  have e0 : s₁.heap = h0 := by rw [← hh, Bd.state]; rfl
  have N0 := Fr.nil n0
  refine Go.enter (F := EndN s (Q_rmCoder_2 Z da kd vs h0 n0) ({ frames := 0, cells := 0, slots := 0, locals := 0 } : Room).cells ({ frames := 0, cells := 0, slots := 0, locals := 0 } : Room).slots) (ef_80 m da (2 : Int32)) ?_
  show Go _ _ _ _ s₁ (mkF m 0 #[.val (.ref da), .val (.int (2 : Int32))] [])
  refine Go.by (fun _ gk => XS.iloadN X0.here hx rfl (hb hby d8_0) rfl gk) ?_
  show Go _ _ _ _ s₁ (mkF m 1 #[.val (.ref da), .val (.int (2 : Int32))] [(.int (2 : Int32))])
  refine Go.by (fun _ gk => XS.aloadN X0.here hx rfl (hb hby d8_1) rfl rfl gk) ?_
  show Go _ _ _ _ s₁ (mkF m 2 #[.val (.ref da), .val (.int (2 : Int32))] [(.ref da), (.int (2 : Int32))])
  obtain ⟨cl1, Ar1, -, S1, M1, -, -⟩ := id V_da
  refine Go.by (fun _ gk => X0.arraylength hx (by rw [e0]; exact Ar1.1) (State.isArrayOf_alike hZ.alike Ar1.2.1) (g := (mkF m 2 #[.val (.ref da), .val (.int (2 : Int32))] [(.ref da), (.int (2 : Int32))])) rfl rfl (hb hby d8_2) _ gk) ?_
  rw [len_of S1 M1]
  show Go _ _ _ _ s₁ (mkF m 3 #[.val (.ref da), .val (.int (2 : Int32))] [(.int (2 : Int32)), (.int (2 : Int32))])
  refine Go.by (fun _ gk => XS.isub X0.here hx rfl (hb hby d8_3) rfl gk) ?_
  show Go _ _ _ _ s₁ (mkF m 4 #[.val (.ref da), .val (.int (2 : Int32))] [(.int ((2 : Int32) - (2 : Int32)))])
  rw [(by decide : ((2 : Int32) - (2 : Int32)) = (0 : Int32))]
  show Go _ _ _ _ s₁ (mkF m 4 #[.val (.ref da), .val (.int (2 : Int32))] [(.int (0 : Int32))])
  refine Go.by (fun _ gk => XT.bipushV X0.here hx rfl (31 : Int32) (hb hby d8_4) (by decide) gk) ?_
  show Go _ _ _ _ s₁ (mkF m 6 #[.val (.ref da), .val (.int (2 : Int32))] [(.int (31 : Int32)), (.int (0 : Int32))])
  refine Go.by (fun _ gk => XT.iushr X0.here hx rfl (hb hby d8_6) rfl gk) ?_
  show Go _ _ _ _ s₁ (mkF m 7 #[.val (.ref da), .val (.int (2 : Int32))] [(.int (XT.ushr (0 : Int32) (31 : Int32)))])
  rw [(by decide : (XT.ushr (0 : Int32) (31 : Int32)) = (0 : Int32))]
  show Go _ _ _ _ s₁ (mkF m 7 #[.val (.ref da), .val (.int (2 : Int32))] [(.int (0 : Int32))])
  refine Go.by (fun _ gk => XT.i2b X0.here hx rfl (hb hby d8_7) rfl gk) ?_
  show Go _ _ _ _ s₁ (mkF m 8 #[.val (.ref da), .val (.int (2 : Int32))] [(.int ((0 : Int32).toInt8.toInt32))])
  rw [(by decide : ((0 : Int32).toInt8.toInt32) = (0 : Int32))]
  show Go _ _ _ _ s₁ (mkF m 8 #[.val (.ref da), .val (.int (2 : Int32))] [(.int (0 : Int32))])
  exact Go.retI X0 hx Bd.notSynchronized Bd.returns rfl (by simp) (hb hby d8_8) (by rw [e0]; exact ⟨rfl, N0, rfl⟩) (by decide) (by decide)
def Q_rmS4_2 (Z : State) (a : Addr) (va : Addr) (kv : ClassId) (c0 : Int32) (c1 : Int32) (cs : Int32) (h0 : Heap) (n0 : Nat) (v : Option Value) (h : Heap) (L : List Loc) : Prop := ∃ b : Addr, ∃ kb : ClassId, v = none ∧ Fr n0 L ∧ Keep h0 h [a] ∧ Exa Z h a "java/lang/String" ∧ Fld Z h a "java/lang/String" "coder" "B" (.int (0 : Int32)) ∧ Fld Z h a "java/lang/String" "value" "[B" (.ref b) ∧ Arv Z h b kb .byte (2 : Int32) ([(.int (own_b c0)), (.int (own_b c1))]) (.int (0 : Int32)) ∧ h0.size ≤ b
set_option maxRecDepth 65536 in
set_option maxHeartbeats 40000000 in
theorem rmS4_2 (l : Launch) (Z : State) (a0 : Array Value) (hw : ∀ d ∈ tables_1, d.before a0 Z = true) (ws : List Jvm.Cond) (a : Addr) (va : Addr) (kv : ClassId) (c0 : Int32) (c1 : Int32) (cs : Int32) (h0 : Heap) (n0 : Nat) (Z0 : n0 ≤ h0.size) (O0 : Old Z n0 h0) (E_a : Exa Z h0 a "java/lang/String") (F_a_value : Fld Z h0 a "java/lang/String" "value" "[B" .null) (F_a_coder : Fld Z h0 a "java/lang/String" "coder" "B" (.int (0 : Int32))) (g_a : n0 ≤ a) (V_va : Arv Z h0 va kv .char (2 : Int32) ([(.int c0), (.int c1)]) (.int (0 : Int32))) (hc0 : (¬ (255 : Int32) < c0)) (hc1 : (¬ (255 : Int32) < c1)) (S_cs : Sta Z Z.heap "java/lang/String" "COMPACT_STRINGS" "Z" (.int cs)) (n_cs : ¬ cs = 0) :
    MetFree l (⟨"java/lang/String", "<init>", "([CIILjava/lang/Void;)V"⟩ : MethodName) (head1 (Jvm.Cond.code (⟨"java/lang/String", "<init>", "([CIILjava/lang/Void;)V"⟩ : MethodName) jdk_42_method_149_code 6 none :: ws) ({ frames := 2, cells := 1, slots := 2, locals := 35 } : Room)) (fun as' U => as' = #[(.ref a), (.ref va), (.int (0 : Int32)), (.int (2 : Int32)), .null] ∧ Z.Warmed39 U.vm ∧ U.heap = h0) (fun _ _ _ _ _ => True) (fun _ U o U' => ∃ v L, o = .returned v ∧ Q_rmS4_2 Z a va kv c0 c1 cs h0 n0 v U'.heap L ∧ FrameEnd U o U' L ({ frames := 2, cells := 1, slots := 2, locals := 35 } : Room).cells ({ frames := 2, cells := 1, slots := 2, locals := 35 } : Room).slots) := by
  refine MetFree.of_bodySF (plainFor_of_name pn_4) hisR ?_
  intro p e s m args below meth c s₁ Bd hml0 hP hK
  obtain ⟨rfl, hZ, hh⟩ := hP
  have hx := Bd.exec
  have hby := Bd.bytes
  have hml : c.maxLocals = 6 := hml0
  have hown : s.vm.findClass "java/lang/String" = some m.cls := findClass_of_methodNamed Bd.named
  have hnm := (name_of_methodNamed Bd.named Bd.method).1
  have X0 : Stand p l e ({ frames := 2, cells := 1, slots := 2, locals := 35 } : Room) s m #[(.ref a), (.ref va), (.int (0 : Int32)), (.int (2 : Int32)), .null] below meth c s₁ [] 0 0 := Stand.of_body Bd
  have e0 : s₁.heap = h0 := by rw [← hh, Bd.state]; rfl
  have N0 := Fr.nil n0
  refine Go.enter (F := EndN s (Q_rmS4_2 Z a va kv c0 c1 cs h0 n0) ({ frames := 2, cells := 1, slots := 2, locals := 35 } : Room).cells ({ frames := 2, cells := 1, slots := 2, locals := 35 } : Room).slots) (ef_5 m a va (0 : Int32) (2 : Int32)) ?_
  show Go _ _ _ _ s₁ (mkF m 0 #[.val (.ref a), .val (.ref va), .val (.int (0 : Int32)), .val (.int (2 : Int32)), .val .null, .unset] [])
  refine Go.by (fun _ gk => XS.aloadN X0.here hx rfl (hb hby d3_0) rfl rfl gk) ?_
  show Go _ _ _ _ s₁ (mkF m 1 #[.val (.ref a), .val (.ref va), .val (.int (0 : Int32)), .val (.int (2 : Int32)), .val .null, .unset] [(.ref a)])
  obtain ⟨T1, X1, e1, st1⟩ := initO X0 hx hZ hown (hw _ (List.mem_of_getElem? (i := 18) rfl)) (hw _ (List.mem_of_getElem? (i := 19) rfl)) (hw _ (List.mem_of_getElem? (i := 20) rfl)) e0 (g := (mkF m 1 #[.val (.ref a), .val (.ref va), .val (.int (0 : Int32)), .val (.int (2 : Int32)), .val .null, .unset] [(.ref a)])) rfl (by rw [hml]; rfl) rfl (hb hby d3_1) (by decide) (W := 0) (by show 2 * 0 + _ ≤ _; exact Nat.le_of_eq rfl) (by decide)
  refine Go.by st1 ?_
  show Go _ _ _ _ T1 (mkF m 4 #[.val (.ref a), .val (.ref va), .val (.int (0 : Int32)), .val (.int (2 : Int32)), .val .null, .unset] [])
  refine Go.by (fun _ gk => XS.iloadN X1.here hx rfl (hb hby d3_4) rfl gk) ?_
  show Go _ _ _ _ T1 (mkF m 5 #[.val (.ref a), .val (.ref va), .val (.int (0 : Int32)), .val (.int (2 : Int32)), .val .null, .unset] [(.int (2 : Int32))])
  refine Go.by (fun _ gk => XS.ifYes X1.here hx rfl (pc0 := 5) (pc' := 27) rfl (hb hby d3_5) rfl (XT.i0_ne_t (by decide)) (by decide) (by decide) gk) ?_
  show Go _ _ _ _ T1 (mkF m 27 #[.val (.ref a), .val (.ref va), .val (.int (0 : Int32)), .val (.int (2 : Int32)), .val .null, .unset] [])
  have F2 : Sta Z h0 "java/lang/String" "COMPACT_STRINGS" "Z" (.int cs) := S_cs.ext O0.2
  obtain ⟨T3, X3, e3, st3⟩ := getS2 X1 hx hZ hown (host := "") (Or.inl (hw _ (List.mem_of_getElem? (i := 36) rfl))) Via.refl e1 F2 (g := (mkF m 27 #[.val (.ref a), .val (.ref va), .val (.int (0 : Int32)), .val (.int (2 : Int32)), .val .null, .unset] [])) rfl (hb hby d3_27)
  refine Go.by st3 ?_
  show Go _ _ _ _ T3 (mkF m 30 #[.val (.ref a), .val (.ref va), .val (.int (0 : Int32)), .val (.int (2 : Int32)), .val .null, .unset] [(.int cs)])
  refine Go.by (fun _ gk => XS.ifNo X3.here hx rfl (hb hby d3_30) rfl (XT.i0_eq_f n_cs) gk) ?_
  show Go _ _ _ _ T3 (mkF m 33 #[.val (.ref a), .val (.ref va), .val (.int (0 : Int32)), .val (.int (2 : Int32)), .val .null, .unset] [])
  refine Go.by (fun _ gk => XS.aloadN X3.here hx rfl (hb hby d3_33) rfl rfl gk) ?_
  show Go _ _ _ _ T3 (mkF m 34 #[.val (.ref a), .val (.ref va), .val (.int (0 : Int32)), .val (.int (2 : Int32)), .val .null, .unset] [(.ref va)])
  refine Go.by (fun _ gk => XS.iloadN X3.here hx rfl (hb hby d3_34) rfl gk) ?_
  show Go _ _ _ _ T3 (mkF m 35 #[.val (.ref a), .val (.ref va), .val (.int (0 : Int32)), .val (.int (2 : Int32)), .val .null, .unset] [(.int (0 : Int32)), (.ref va)])
  refine Go.by (fun _ gk => XS.iloadN X3.here hx rfl (hb hby d3_35) rfl gk) ?_
  show Go _ _ _ _ T3 (mkF m 36 #[.val (.ref a), .val (.ref va), .val (.int (0 : Int32)), .val (.int (2 : Int32)), .val .null, .unset] [(.int (2 : Int32)), (.int (0 : Int32)), (.ref va)])
  obtain ⟨_, _, ⟨T4, L4, k4, n4⟩, -, X4, ⟨Lc4, hQ4, l4, y4, z4⟩, st4⟩ := Jvm.LawKit.callS X3 hx (y := (⟨"java/lang/StringUTF16", "compress", "([CII)[B"⟩ : MethodName)) hown (mvT hZ (hw _ (List.mem_of_getElem? (i := 37) rfl))) (mvT hZ (hw _ (List.mem_of_getElem? (i := 38) rfl))) (mvT hZ (hw _ (List.mem_of_getElem? (i := 39) rfl))) (mvT hZ (hw _ (List.mem_of_getElem? (i := 40) rfl))) (by decide) (backOf (W := 0) (rmC3_2 l Z a0 hw [] va kv c0 c1 h0 n0 Z0 V_va hc0 hc1) hZ (hw _ (List.mem_of_getElem? (i := 40) rfl)) (hw _ (List.mem_of_getElem? (i := 39) rfl)) (by decide) (by decide)) (g := (mkF m 36 #[.val (.ref a), .val (.ref va), .val (.int (0 : Int32)), .val (.int (2 : Int32)), .val .null, .unset] [(.int (2 : Int32)), (.int (0 : Int32)), (.ref va)])) rfl (by rw [hml]; rfl) (argsL := [(.ref va), (.int (0 : Int32)), (.int (2 : Int32))]) (rest := []) (lenOf pd_94 rfl) rfl (by show 2 * 0 + _ ≤ _; exact Nat.le_of_eq rfl) (hb hby d3_36) (fun _ _ => ⟨rfl, e3, (by decide : 0 + 1 ≤ _), (by decide : 0 + 2 ≤ _)⟩)
  dsimp only [Pt.U, Pt.locs, Pt.cells, Pt.slots] at X4 l4 y4 z4 st4 hQ4
  subst l4 y4 z4
  obtain ⟨b, kb, rfl, N4q, K4, Q4_0, Q4_1⟩ := hQ4
  have N4 := Fr.app N0 N4q
  refine Go.by st4 ?_
  show Go _ _ _ _ T4 (mkF m 39 #[.val (.ref a), .val (.ref va), .val (.int (0 : Int32)), .val (.int (2 : Int32)), .val .null, .unset] [(.ref b)])
  have ge_b : n0 ≤ b := Nat.le_trans Z0 Q4_1
  have sz_b : h0.size ≤ b := Nat.le_trans (Keep.refl h0 [a]).1 Q4_1
  have ne_a_b : a ≠ b := Nat.ne_of_lt (Nat.lt_of_lt_of_le E_a.lt Q4_1)
  have ne_va_b : va ≠ b := Nat.ne_of_lt (Nat.lt_of_lt_of_le V_va.lt Q4_1)
  refine Go.by (fun _ gk => XS.astore X4.here hx rfl (hb hby d3_39) rfl rfl (l' := #[.val (.ref a), .val (.ref va), .val (.int (0 : Int32)), .val (.int (2 : Int32)), .val .null, .val (.ref b)]) rfl gk) ?_
  show Go _ _ _ _ T4 (mkF m 41 #[.val (.ref a), .val (.ref va), .val (.int (0 : Int32)), .val (.int (2 : Int32)), .val .null, .val (.ref b)] [])
  refine Go.by (fun _ gk => XS.aloadN X4.here hx rfl (hb hby d3_41) rfl rfl gk) ?_
  show Go _ _ _ _ T4 (mkF m 42 #[.val (.ref a), .val (.ref va), .val (.int (0 : Int32)), .val (.int (2 : Int32)), .val .null, .val (.ref b)] [(.ref a)])
  refine Go.by (fun _ gk => XS.aload X4.here hx rfl (hb hby d3_42) rfl rfl gk) ?_
  show Go _ _ _ _ T4 (mkF m 44 #[.val (.ref a), .val (.ref va), .val (.int (0 : Int32)), .val (.int (2 : Int32)), .val .null, .val (.ref b)] [(.ref b), (.ref a)])
  refine Go.by (fun _ gk => XS.iloadN X4.here hx rfl (hb hby d3_44) rfl gk) ?_
  show Go _ _ _ _ T4 (mkF m 45 #[.val (.ref a), .val (.ref va), .val (.int (0 : Int32)), .val (.int (2 : Int32)), .val .null, .val (.ref b)] [(.int (2 : Int32)), (.ref b), (.ref a)])
  have F5 : n0 ≤ T4.heap.size := Nat.le_trans Z0 K4.1
  obtain ⟨_, _, ⟨T6, L6, k6, n6⟩, -, X6, ⟨Lc6, hQ6, l6, y6, z6⟩, st6⟩ := Jvm.LawKit.callS X4 hx (y := (⟨"java/lang/StringUTF16", "coderFromArrayLen", "([BI)B"⟩ : MethodName)) hown (mvT hZ (hw _ (List.mem_of_getElem? (i := 44) rfl))) (mvT hZ (hw _ (List.mem_of_getElem? (i := 45) rfl))) (mvT hZ (hw _ (List.mem_of_getElem? (i := 39) rfl))) (mvT hZ (hw _ (List.mem_of_getElem? (i := 46) rfl))) (by decide) (backOf (W := 1) (rmCoder_2 l Z a0 hw [] b kb ([(.int (own_b c0)), (.int (own_b c1))]) T4.heap n0 F5 Q4_0) hZ (hw _ (List.mem_of_getElem? (i := 46) rfl)) (hw _ (List.mem_of_getElem? (i := 39) rfl)) (by decide) (by decide)) (g := (mkF m 45 #[.val (.ref a), .val (.ref va), .val (.int (0 : Int32)), .val (.int (2 : Int32)), .val .null, .val (.ref b)] [(.int (2 : Int32)), (.ref b), (.ref a)])) rfl (by rw [hml]; rfl) (argsL := [(.ref b), (.int (2 : Int32))]) (rest := [(.ref a)]) (lenOf pd_100 rfl) rfl (by show 2 * 0 + _ ≤ _; exact Nat.le_of_eq rfl) (hb hby d3_45) (fun _ _ => ⟨rfl, rfl, (by decide : 1 + 0 ≤ _), (by decide : 2 + 0 ≤ _)⟩)
  dsimp only [Pt.U, Pt.locs, Pt.cells, Pt.slots] at X6 l6 y6 z6 st6 hQ6
  subst l6 y6 z6
  obtain ⟨rfl, N6q, e6⟩ := hQ6
  have N6 := Fr.app N4 N6q
  refine Go.by st6 ?_
  show Go _ _ _ _ T6 (mkF m 48 #[.val (.ref a), .val (.ref va), .val (.int (0 : Int32)), .val (.int (2 : Int32)), .val .null, .val (.ref b)] [(.int (0 : Int32)), (.ref a)])
  have F7 : Fld Z T4.heap a "java/lang/String" "coder" "B" (.int (0 : Int32)) := F_a_coder.keep K4 nin0
  have F8 : Exa Z T4.heap a "java/lang/String" := E_a.keep K4
  obtain ⟨T9, h9, X9, e9, W9, st9⟩ := putFN X6 hx hZ hown (hw _ (List.mem_of_getElem? (i := 28) rfl)) Via.refl e6 F7 F8 (Or.inr ⟨(hw _ (List.mem_of_getElem? (i := 24) rfl)), rfl, hnm⟩) (hw _ (List.mem_of_getElem? (i := 8) rfl)) (ty := .byte) (v' := (.int (0 : Int32))) (by decide) rfl rfl (g := (mkF m 48 #[.val (.ref a), .val (.ref va), .val (.int (0 : Int32)), .val (.int (2 : Int32)), .val .null, .val (.ref b)] [(.int (0 : Int32)), (.ref a)])) rfl rfl (hb hby d3_48)
  have N9 := Fr.snoc X9 N6 g_a
  have Fw9 : Fld Z h9 a "java/lang/String" "coder" "B" (.int (0 : Int32)) := F7.same W9
  refine Go.by st9 ?_
  show Go _ _ _ _ T9 (mkF m 51 #[.val (.ref a), .val (.ref va), .val (.int (0 : Int32)), .val (.int (2 : Int32)), .val .null, .val (.ref b)] [])
  refine Go.by (fun _ gk => XS.aloadN X9.here hx rfl (hb hby d3_51) rfl rfl gk) ?_
  show Go _ _ _ _ T9 (mkF m 52 #[.val (.ref a), .val (.ref va), .val (.int (0 : Int32)), .val (.int (2 : Int32)), .val .null, .val (.ref b)] [(.ref a)])
  refine Go.by (fun _ gk => XS.aload X9.here hx rfl (hb hby d3_52) rfl rfl gk) ?_
  show Go _ _ _ _ T9 (mkF m 54 #[.val (.ref a), .val (.ref va), .val (.int (0 : Int32)), .val (.int (2 : Int32)), .val .null, .val (.ref b)] [(.ref b), (.ref a)])
  have F10 : Fld Z T4.heap a "java/lang/String" "value" "[B" .null := F_a_value.keep K4 nin0
  have F11 : Fld Z h9 a "java/lang/String" "value" "[B" .null := F10.other W9 (Or.inr (slot_ne (Or.inr (hw _ (List.mem_of_getElem? (i := 23) rfl))) (Or.inr (hw _ (List.mem_of_getElem? (i := 24) rfl))) (by decide) (t := (.array .byte)) (t' := .byte) (by decide) (by decide)))
  have F12 : Exa Z h9 a "java/lang/String" := F8.wr W9
  obtain ⟨T13, h13, X13, e13, W13, st13⟩ := putF X9 hx hZ hown (host := "") (Or.inl (hw _ (List.mem_of_getElem? (i := 27) rfl))) Via.refl e9 F11 F12 (Or.inr ⟨(hw _ (List.mem_of_getElem? (i := 23) rfl)), rfl, hnm⟩) (hw _ (List.mem_of_getElem? (i := 8) rfl)) (ty := (.array .byte)) (by decide) rfl rfl (g := (mkF m 54 #[.val (.ref a), .val (.ref va), .val (.int (0 : Int32)), .val (.int (2 : Int32)), .val .null, .val (.ref b)] [(.ref b), (.ref a)])) rfl rfl (hb hby d3_54)
  have N13 := Fr.snoc X13 N9 g_a
  have Fw13 : Fld Z h13 a "java/lang/String" "value" "[B" (.ref b) := F11.same W13
  refine Go.by st13 ?_
  show Go _ _ _ _ T13 (mkF m 57 #[.val (.ref a), .val (.ref va), .val (.int (0 : Int32)), .val (.int (2 : Int32)), .val .null, .val (.ref b)] [])
  have F14 : Keep h0 T4.heap [a] := (Keep.refl h0 [a]).trans K4 all0
  have F15 : Keep h0 h9 [a] := F14.wr W9 (Or.inl (List.mem_of_getElem? (i := 0) rfl))
  have F16 : Keep h0 h13 [a] := F15.wr W13 (Or.inl (List.mem_of_getElem? (i := 0) rfl))
  have F17 : Exa Z h13 a "java/lang/String" := F12.wr W13
  have F18 : Fld Z h13 a "java/lang/String" "coder" "B" (.int (0 : Int32)) := Fw9.other W13 (Or.inr (slot_ne (Or.inr (hw _ (List.mem_of_getElem? (i := 24) rfl))) (Or.inr (hw _ (List.mem_of_getElem? (i := 23) rfl))) (by decide) (t := .byte) (t' := (.array .byte)) (by decide) (by decide)))
  have F19 : Arv Z h9 b kb .byte (2 : Int32) [(.int (own_b c0)), (.int (own_b c1))] (.int (0 : Int32)) := Q4_0.other W9 (Ne.symm ne_a_b)
  have F20 : Arv Z h13 b kb .byte (2 : Int32) [(.int (own_b c0)), (.int (own_b c1))] (.int (0 : Int32)) := F19.other W13 (Ne.symm ne_a_b)
  exact Go.retV X13 hx Bd.notSynchronized Bd.returns (hb hby d3_57) (by rw [e13]; exact ⟨b, kb, rfl, N13, F16, F17, F18, Fw13, F20, sz_b⟩) (by decide) (by decide)
def Q_rmS1_2 (Z : State) (a : Addr) (va : Addr) (kv : ClassId) (c0 : Int32) (c1 : Int32) (cs : Int32) (h0 : Heap) (n0 : Nat) (v : Option Value) (h : Heap) (L : List Loc) : Prop := ∃ b : Addr, ∃ kb : ClassId, v = none ∧ Fr n0 L ∧ Keep h0 h [a] ∧ Exa Z h a "java/lang/String" ∧ Fld Z h a "java/lang/String" "coder" "B" (.int (0 : Int32)) ∧ Fld Z h a "java/lang/String" "value" "[B" (.ref b) ∧ Arv Z h b kb .byte (2 : Int32) ([(.int (own_b c0)), (.int (own_b c1))]) (.int (0 : Int32)) ∧ h0.size ≤ b
set_option maxRecDepth 65536 in
set_option maxHeartbeats 40000000 in
theorem rmS1_2 (l : Launch) (Z : State) (a0 : Array Value) (hw : ∀ d ∈ tables_1, d.before a0 Z = true) (ws : List Jvm.Cond) (a : Addr) (va : Addr) (kv : ClassId) (c0 : Int32) (c1 : Int32) (cs : Int32) (h0 : Heap) (n0 : Nat) (Z0 : n0 ≤ h0.size) (O0 : Old Z n0 h0) (E_a : Exa Z h0 a "java/lang/String") (F_a_value : Fld Z h0 a "java/lang/String" "value" "[B" .null) (F_a_coder : Fld Z h0 a "java/lang/String" "coder" "B" (.int (0 : Int32))) (g_a : n0 ≤ a) (V_va : Arv Z h0 va kv .char (2 : Int32) ([(.int c0), (.int c1)]) (.int (0 : Int32))) (hc0 : (¬ (255 : Int32) < c0)) (hc1 : (¬ (255 : Int32) < c1)) (S_cs : Sta Z Z.heap "java/lang/String" "COMPACT_STRINGS" "Z" (.int cs)) (n_cs : ¬ cs = 0) :
    MetFree l (⟨"java/lang/String", "<init>", "([C)V"⟩ : MethodName) (head1 (Jvm.Cond.code (⟨"java/lang/String", "<init>", "([C)V"⟩ : MethodName) jdk_42_method_3_code 2 none :: ws) ({ frames := 3, cells := 1, slots := 2, locals := 52 } : Room)) (fun as' U => as' = #[(.ref a), (.ref va)] ∧ Z.Warmed39 U.vm ∧ U.heap = h0) (fun _ _ _ _ _ => True) (fun _ U o U' => ∃ v L, o = .returned v ∧ Q_rmS1_2 Z a va kv c0 c1 cs h0 n0 v U'.heap L ∧ FrameEnd U o U' L ({ frames := 3, cells := 1, slots := 2, locals := 52 } : Room).cells ({ frames := 3, cells := 1, slots := 2, locals := 52 } : Room).slots) := by
  refine MetFree.of_bodySF (plainFor_of_name pn_4) hisR ?_
  intro p e s m args below meth c s₁ Bd hml0 hP hK
  obtain ⟨rfl, hZ, hh⟩ := hP
  have hx := Bd.exec
  have hby := Bd.bytes
  have hml : c.maxLocals = 2 := hml0
  have hown : s.vm.findClass "java/lang/String" = some m.cls := findClass_of_methodNamed Bd.named
  have hnm := (name_of_methodNamed Bd.named Bd.method).1
  have X0 : Stand p l e ({ frames := 3, cells := 1, slots := 2, locals := 52 } : Room) s m #[(.ref a), (.ref va)] below meth c s₁ [] 0 0 := Stand.of_body Bd
  have e0 : s₁.heap = h0 := by rw [← hh, Bd.state]; rfl
  have N0 := Fr.nil n0
  refine Go.enter (F := EndN s (Q_rmS1_2 Z a va kv c0 c1 cs h0 n0) ({ frames := 3, cells := 1, slots := 2, locals := 52 } : Room).cells ({ frames := 3, cells := 1, slots := 2, locals := 52 } : Room).slots) (ef_19 m a va) ?_
  show Go _ _ _ _ s₁ (mkF m 0 #[.val (.ref a), .val (.ref va)] [])
  refine Go.by (fun _ gk => XS.aloadN X0.here hx rfl (hb hby d2_0) rfl rfl gk) ?_
  show Go _ _ _ _ s₁ (mkF m 1 #[.val (.ref a), .val (.ref va)] [(.ref a)])
  refine Go.by (fun _ gk => XS.aloadN X0.here hx rfl (hb hby d2_1) rfl rfl gk) ?_
  show Go _ _ _ _ s₁ (mkF m 2 #[.val (.ref a), .val (.ref va)] [(.ref va), (.ref a)])
  refine Go.by (fun _ gk => XT.iconstV X0.here hx rfl (0 : Int32) (hb hby d2_2) (by decide) gk) ?_
  show Go _ _ _ _ s₁ (mkF m 3 #[.val (.ref a), .val (.ref va)] [(.int (0 : Int32)), (.ref va), (.ref a)])
  refine Go.by (fun _ gk => XS.aloadN X0.here hx rfl (hb hby d2_3) rfl rfl gk) ?_
  show Go _ _ _ _ s₁ (mkF m 4 #[.val (.ref a), .val (.ref va)] [(.ref va), (.int (0 : Int32)), (.ref va), (.ref a)])
  obtain ⟨cl1, Ar1, -, S1, M1, -, -⟩ := id V_va
  refine Go.by (fun _ gk => X0.arraylength hx (by rw [e0]; exact Ar1.1) (State.isArrayOf_alike hZ.alike Ar1.2.1) (g := (mkF m 4 #[.val (.ref a), .val (.ref va)] [(.ref va), (.int (0 : Int32)), (.ref va), (.ref a)])) rfl rfl (hb hby d2_4) _ gk) ?_
  rw [len_of S1 M1]
  show Go _ _ _ _ s₁ (mkF m 5 #[.val (.ref a), .val (.ref va)] [(.int (2 : Int32)), (.int (0 : Int32)), (.ref va), (.ref a)])
  refine Go.by (fun _ gk => XS.aconstNull X0.here hx rfl (hb hby d2_5) gk) ?_
  show Go _ _ _ _ s₁ (mkF m 6 #[.val (.ref a), .val (.ref va)] [.null, (.int (2 : Int32)), (.int (0 : Int32)), (.ref va), (.ref a)])
  obtain ⟨_, _, ⟨T2, L2, k2, n2⟩, -, X2, ⟨Lc2, hQ2, l2, y2, z2⟩, st2⟩ := X0.specialBack hx (y := (⟨"java/lang/String", "<init>", "([CIILjava/lang/Void;)V"⟩ : MethodName)) rfl hown (mvT hZ (hw _ (List.mem_of_getElem? (i := 14) rfl))) (mvT hZ (hw _ (List.mem_of_getElem? (i := 15) rfl))) (mvT hZ (hw _ (List.mem_of_getElem? (i := 17) rfl))) (by decide) (backOf (W := 0) (rmS4_2 l Z a0 hw [] a va kv c0 c1 cs h0 n0 Z0 O0 E_a F_a_value F_a_coder g_a V_va hc0 hc1 S_cs n_cs) hZ (hw _ (List.mem_of_getElem? (i := 17) rfl)) (hw _ (List.mem_of_getElem? (i := 9) rfl)) (by decide) (by decide)) (g := (mkF m 6 #[.val (.ref a), .val (.ref va)] [.null, (.int (2 : Int32)), (.int (0 : Int32)), (.ref va), (.ref a)])) rfl (by rw [hml]; rfl) (Steps.refl _) (a := a) (argsL := [(.ref va), (.int (0 : Int32)), (.int (2 : Int32)), .null]) (rest := []) (lenOf pd_26 rfl) rfl (by show 2 * 0 + _ ≤ _; exact Nat.le_of_eq rfl) (hb hby d2_6) (fun _ _ => ⟨rfl, e0, (by decide : 0 + 1 ≤ _), (by decide : 0 + 2 ≤ _)⟩)
  dsimp only [Pt.U, Pt.locs, Pt.cells, Pt.slots] at X2 l2 y2 z2 st2 hQ2
  subst l2 y2 z2
  obtain ⟨b, kb, rfl, N2q, K2, Q2_0, Q2_1, Q2_2, Q2_3, Q2_4⟩ := hQ2
  have N2 := Fr.app N0 N2q
  refine Go.to st2 ?_
  show Go _ _ _ _ T2 (mkF m 9 #[.val (.ref a), .val (.ref va)] [])
  have ge_b : n0 ≤ b := Nat.le_trans Z0 Q2_4
  have sz_b : h0.size ≤ b := Nat.le_trans (Keep.refl h0 [a]).1 Q2_4
  have ne_a_b : a ≠ b := Nat.ne_of_lt (Nat.lt_of_lt_of_le E_a.lt Q2_4)
  have ne_va_b : va ≠ b := Nat.ne_of_lt (Nat.lt_of_lt_of_le V_va.lt Q2_4)
  have F3 : Keep h0 T2.heap [a] := (Keep.refl h0 [a]).trans K2 (allS (Or.inl (List.mem_of_getElem? (i := 0) rfl)) all0)
  exact Go.retV X2 hx Bd.notSynchronized Bd.returns (hb hby d2_9) ⟨b, kb, rfl, N2, F3, Q2_0, Q2_1, Q2_2, Q2_3, sz_b⟩ (by decide) (by decide)
theorem d1_35 : decode method_2_code 35 = .ok (.new 7, 3) := by decide +kernel
theorem d1_38 : decode method_2_code 38 = .ok (.dup, 1) := by decide +kernel
theorem d1_39 : decode method_2_code 39 = .ok (.iconst 2, 1) := by decide +kernel
theorem d1_40 : decode method_2_code 40 = .ok (.newarray .char, 2) := by decide +kernel
theorem d1_42 : decode method_2_code 42 = .ok (.dup, 1) := by decide +kernel
theorem d1_43 : decode method_2_code 43 = .ok (.iconst 0, 1) := by decide +kernel
theorem d1_44 : decode method_2_code 44 = .ok (.iload_n 1, 1) := by decide +kernel
theorem d1_45 : decode method_2_code 45 = .ok (.castore, 1) := by decide +kernel
theorem d1_46 : decode method_2_code 46 = .ok (.dup, 1) := by decide +kernel
theorem d1_47 : decode method_2_code 47 = .ok (.iconst 1, 1) := by decide +kernel
theorem d1_48 : decode method_2_code 48 = .ok (.iload_n 2, 1) := by decide +kernel
theorem d1_49 : decode method_2_code 49 = .ok (.castore, 1) := by decide +kernel
theorem d1_50 : decode method_2_code 50 = .ok (.invokespecial 9, 3) := by decide +kernel
theorem d1_53 : decode method_2_code 53 = .ok (.areturn, 1) := by decide +kernel
def Q_rmStr (Z : State) (n : Int32) (xa : Int32) (xb : Int32) (cs : Int32) (h0 : Heap) (n0 : Nat) (v : Option Value) (h : Heap) (L : List Loc) : Prop := ∃ st : Addr, ∃ sb : Addr, ∃ kb : ClassId, v = some (.ref st) ∧ Fr n0 L ∧ Keep h0 h [] ∧ Exa Z h st "java/lang/String" ∧ Fld Z h st "java/lang/String" "coder" "B" (.int (0 : Int32)) ∧ Fld Z h st "java/lang/String" "value" "[B" (.ref sb) ∧ Arv Z h sb kb .byte n (own_str n xa xb) (.int (0 : Int32)) ∧ h0.size ≤ st
set_option maxRecDepth 65536 in
set_option maxHeartbeats 40000000 in
theorem rmStr (l : Launch) (Z : State) (a0 : Array Value) (hw : ∀ d ∈ tables_1, d.before a0 Z = true) (ws : List Jvm.Cond) (n : Int32) (xa : Int32) (xb : Int32) (cs : Int32) (h0 : Heap) (n0 : Nat) (Z0 : n0 ≤ h0.size) (O0 : Old Z n0 h0) (hn : (n = 0 ∨ n = 1 ∨ n = 2)) (hxa : (¬ (255 : Int32) < xa ∧ nar .char xa = xa)) (hxb : (¬ (255 : Int32) < xb ∧ nar .char xb = xb)) (S_cs : Sta Z Z.heap "java/lang/String" "COMPACT_STRINGS" "Z" (.int cs)) (n_cs : ¬ cs = 0) :
    MetFree l (⟨"com/example/muster/muster/model/VisibilityShowsPinLaw", "str", "(ICC)Ljava/lang/String;"⟩ : MethodName) (head1 (Jvm.Cond.code (⟨"com/example/muster/muster/model/VisibilityShowsPinLaw", "str", "(ICC)Ljava/lang/String;"⟩ : MethodName) method_2_code 3 (some (.object "java/lang/String")) :: ws) ({ frames := 4, cells := 6, slots := 12, locals := 66 } : Room)) (fun as' U => as' = #[(.int n), (.int xa), (.int xb)] ∧ Z.Warmed39 U.vm ∧ U.heap = h0 ∧ CHv Z own_EL U.vm h0) (fun _ _ _ _ _ => True) (fun _ U o U' => ∃ v L, o = .returned v ∧ Q_rmStr Z n xa xb cs h0 n0 v U'.heap L ∧ CHr Z own_EL U.vm U.heap U'.vm U'.heap ∧ ReturnedEndW U o U' L ({ frames := 4, cells := 6, slots := 12, locals := 66 } : Room).cells ({ frames := 4, cells := 6, slots := 12, locals := 66 } : Room).slots) := by
  refine MetFree.of_bodySF (plainFor_of_name pn_2) hisR ?_
  intro p e s m args below meth c s₁ Bd hml0 hP hK
  obtain ⟨rfl, hZ, hh, hH⟩ := hP
  have hx := Bd.exec
  have hby := Bd.bytes
  have hml : c.maxLocals = 3 := hml0
  have hown : s.vm.findClass "com/example/muster/muster/model/VisibilityShowsPinLaw" = some m.cls := findClass_of_methodNamed Bd.named
  have hnm := (name_of_methodNamed Bd.named Bd.method).1
  have X0 : Stand p l e ({ frames := 4, cells := 6, slots := 12, locals := 66 } : Room) (s.setVm s.vm) m #[(.int n), (.int xa), (.int xb)] below meth c s₁ [] 0 0 := Stand.of_body Bd
  have e0 : s₁.heap = h0 := by rw [← hh, Bd.state]; rfl
  have N0 := Fr.nil n0
  have hS0 : s.Since s.vm s.heap.size := (State.WarmedH.refl s).since _
  have hk0 : s.heap.size ≤ h0.size := Nat.le_of_eq (by rw [hh])
  have C0 : CHr Z own_EL s.vm h0 s.vm h0 := CHr.refl hH
  have hEL := own_EW hw
  have hSA := own_SA hw
  refine Go.enter (F := EndW Z own_EL s (Q_rmStr Z n xa xb cs h0 n0) ({ frames := 4, cells := 6, slots := 12, locals := 66 } : Room).cells ({ frames := 4, cells := 6, slots := 12, locals := 66 } : Room).slots) (ef_3 m n xa xb) ?_
  show Go _ _ _ _ s₁ (mkF m 0 #[.val (.int n), .val (.int xa), .val (.int xb)] [])
  rcases hn with rfl | rfl | rfl
  · show Go _ _ _ _ s₁ (mkF m 0 #[.val (.int (0 : Int32)), .val (.int xa), .val (.int xb)] [])
    refine Go.by (fun _ gk => XS.iloadN X0.here hx rfl (hb hby d1_0) rfl gk) ?_
    show Go _ _ _ _ s₁ (mkF m 1 #[.val (.int (0 : Int32)), .val (.int xa), .val (.int xb)] [(.int (0 : Int32))])
    refine Go.by (fun _ gk => XS.ifNo X0.here hx rfl (hb hby d1_1) rfl (XT.i0_ne_f rfl) gk) ?_
    show Go _ _ _ _ s₁ (mkF m 4 #[.val (.int (0 : Int32)), .val (.int xa), .val (.int xb)] [])
    obtain ⟨st, g1⟩ : ∃ z, z = h0.size := ⟨_, rfl⟩
    have ge_st : n0 ≤ st := Nat.le_trans Z0 (Nat.le_of_eq g1.symm)
    have sz_st : h0.size ≤ st := Nat.le_trans (Keep.refl h0 []).1 (Nat.le_of_eq g1.symm)
    obtain ⟨T1, h1, X1, e1, E1, A1, D1, -, st1⟩ := newO X0 hx hZ hown (hw _ (List.mem_of_getElem? (i := 7) rfl)) (hw _ (List.mem_of_getElem? (i := 8) rfl)) (hw _ (List.mem_of_getElem? (i := 9) rfl)) e0 (g := (mkF m 4 #[.val (.int (0 : Int32)), .val (.int xa), .val (.int xb)] [])) rfl (hb hby d1_4) (by decide) (by decide)
    rw [← g1] at A1 D1 st1
    have C2 : CHr Z own_EL s.vm h0 s.vm h1 := C0.trans (CHr.ext E1 C0.1)
    have Sf3 : Safe Z own_EL s.vm h1 st := Safe.ext E1 C0.1 (Safe.new (Nat.le_of_eq g1.symm))
    have F_value_st : Fld Z h1 st "java/lang/String" "value" "[B" .null := D1 (Or.inr (hw _ (List.mem_of_getElem? (i := 23) rfl))) (ty := (.array .byte)) (by decide)
    have F_coder_st : Fld Z h1 st "java/lang/String" "coder" "B" (.int (0 : Int32)) := D1 (Or.inr (hw _ (List.mem_of_getElem? (i := 24) rfl))) (ty := .byte) (by decide)
    refine Go.by st1 ?_
    show Go _ _ _ _ T1 (mkF m 7 #[.val (.int (0 : Int32)), .val (.int xa), .val (.int xb)] [(.ref st)])
    refine Go.by (fun _ gk => XS.dup X1.here hx rfl (hb hby d1_7) rfl rfl gk) ?_
    show Go _ _ _ _ T1 (mkF m 8 #[.val (.int (0 : Int32)), .val (.int xa), .val (.int xb)] [(.ref st), (.ref st)])
    refine Go.by (fun _ gk => XT.iconstV X1.here hx rfl (0 : Int32) (hb hby d1_8) (by decide) gk) ?_
    show Go _ _ _ _ T1 (mkF m 9 #[.val (.int (0 : Int32)), .val (.int xa), .val (.int xb)] [(.int (0 : Int32)), (.ref st), (.ref st)])
    obtain ⟨ca, g4⟩ : ∃ z, z = h1.size := ⟨_, rfl⟩
    have F5 : n0 ≤ h1.size := Nat.le_trans Z0 E1.1
    have ge_ca : n0 ≤ ca := Nat.le_trans F5 (Nat.le_of_eq g4.symm)
    have F6 : Keep h0 h1 [] := (Keep.refl h0 []).ext E1
    have sz_ca : h0.size ≤ ca := Nat.le_trans F6.1 (Nat.le_of_eq g4.symm)
    have ne_st_ca : st ≠ ca := Nat.ne_of_lt (Nat.lt_of_lt_of_le A1.lt (Nat.le_of_eq g4.symm))
    obtain ⟨T4, h4, k4, X4, e4, E4, A4, Ea4, st4⟩ := newPE X1 hx hZ (hw _ (List.mem_of_getElem? (i := 10) rfl)) e1 (g := (mkF m 9 #[.val (.int (0 : Int32)), .val (.int xa), .val (.int xb)] [(.int (0 : Int32)), (.ref st), (.ref st)])) rfl (hb hby d1_9) rfl (by decide) (cap := 0) (by decide) (by decide) (by decide) (by decide) (ad := "[C") rfl
    rw [← g4] at A4 Ea4 st4
    have C7 : CHr Z own_EL s.vm h0 s.vm h4 := C2.trans (CHr.ext E4 C2.1)
    have Sf8 : Safe Z own_EL s.vm h4 st := Safe.ext E4 C2.1 Sf3
    have Sf9 : Safe Z own_EL s.vm h4 ca := Safe.ext E4 C2.1 (Safe.new (Nat.le_of_eq g4.symm))
    have V_ca : Arv Z h4 ca k4 .char (0 : Int32) [] (.int (0 : Int32)) := (Arv.new A4 (by decide)).pad (pad_rep [] (.int (0 : Int32)) 0)
    refine Go.by st4 ?_
    show Go _ _ _ _ T4 (mkF m 11 #[.val (.int (0 : Int32)), .val (.int xa), .val (.int xb)] [(.ref ca), (.ref st), (.ref st)])
    have F10 : Old Z n0 h1 := O0.ext E1
    have F11 : Old Z n0 h4 := F10.ext E4
    have F12 : Exa Z h4 st "java/lang/String" := A1.ext E4
    have F13 : Fld Z h4 st "java/lang/String" "value" "[B" .null := F_value_st.ext E4
    have F14 : Fld Z h4 st "java/lang/String" "coder" "B" (.int (0 : Int32)) := F_coder_st.ext E4
    have F15 : n0 ≤ h4.size := Nat.le_trans F5 E4.1
    have F17 : s.heap.size ≤ h1.size := Nat.le_trans hk0 E1.1
    have F18 : s.heap.size ≤ h4.size := Nat.le_trans F17 E4.1
    obtain ⟨_, _, ⟨T16, L16, k16, n16⟩, -, Xq16, hSq16, hgr16, ⟨Lc16, hQ16, l16, y16, z16, CH16⟩, st16⟩ := X4.specialBackS hx (y := (⟨"java/lang/String", "<init>", "([C)V"⟩ : MethodName)) rfl hown (mvT hZ (hw _ (List.mem_of_getElem? (i := 11) rfl))) (mvT hZ (hw _ (List.mem_of_getElem? (i := 12) rfl))) (mvT hZ (hw _ (List.mem_of_getElem? (i := 13) rfl))) (by decide) (backOfSH (W := 1) (rmS1_e l Z a0 hw [] st ca k4 h4 n0 F15 F11 F12 F13 F14 ge_st V_ca) hZ (hw _ (List.mem_of_getElem? (i := 13) rfl)) (hw _ (List.mem_of_getElem? (i := 9) rfl)) (by decide) (by decide) hEL C7.1) (g := (mkF m 11 #[.val (.int (0 : Int32)), .val (.int xa), .val (.int xb)] [(.ref ca), (.ref st), (.ref st)])) rfl (by rw [hml]; rfl) (Steps.refl _) (a := st) (argsL := [(.ref ca)]) (rest := [(.ref st)]) (lenOf pd_35 rfl) rfl (by show 2 * 0 + _ ≤ _; exact Nat.le_of_eq rfl) (hb hby d1_11) (fun _ _ => ⟨rfl, e4, (by decide : 2 + 4 ≤ _), (by decide : 4 + 8 ≤ _)⟩)
    dsimp only [Pt.U, Pt.locs, Pt.cells, Pt.slots] at Xq16 hSq16 hgr16 l16 y16 z16 st16 hQ16 CH16
    subst l16 y16 z16
    obtain ⟨sb, kb, rfl, N16q, K16, Q16_0, Q16_1, Q16_2, Q16_3⟩ := hQ16
    have N16 := Fr.app N0 N16q
    obtain ⟨X16, hS16, hZ16, hown16⟩ := rebS hS0 (by rw [e4]; exact F18) Xq16 hSq16 hgr16 hZ hown
    have C19 : CHr Z own_EL s.vm h0 T16.vm T16.heap := C7.trans CH16
    have Sf20 : Safe Z own_EL T16.vm T16.heap st := CH16.safe F12.lt Sf8
    have Sf21 : Safe Z own_EL T16.vm T16.heap ca := CH16.safe Ea4.lt Sf9
    refine Go.to st16 ?_
    show Go _ _ _ _ T16 (mkF m 14 #[.val (.int (0 : Int32)), .val (.int xa), .val (.int xb)] [(.ref st)])
    have Vs22 : Arv Z T16.heap sb kb .byte (0 : Int32) (own_str (0 : Int32) xa xb) (.int (0 : Int32)) := by rw [own_str_0]; exact Q16_3
    have F23 : Keep h0 h4 [] := F6.ext E4
    have F24 : Keep h0 T16.heap [] := F23.trans K16 (allS (Or.inr sz_st) all0)
    exact Go.retAW X16 hx Bd.notSynchronized hS16 (by exact (Nat.le_refl T16.heap.size)) hZ16 hEL (by rw [hh]; exact C19) Bd.returns rfl rfl (hb hby d1_14) ⟨st, sb, kb, rfl, N16, F24, Q16_0, Q16_1, Q16_2, Vs22, sz_st⟩ (by decide) (by decide)
  · show Go _ _ _ _ s₁ (mkF m 0 #[.val (.int (1 : Int32)), .val (.int xa), .val (.int xb)] [])
    refine Go.by (fun _ gk => XS.iloadN X0.here hx rfl (hb hby d1_0) rfl gk) ?_
    show Go _ _ _ _ s₁ (mkF m 1 #[.val (.int (1 : Int32)), .val (.int xa), .val (.int xb)] [(.int (1 : Int32))])
    refine Go.by (fun _ gk => XS.ifYes X0.here hx rfl (pc0 := 1) (pc' := 15) rfl (hb hby d1_1) rfl (XT.i0_ne_t (by decide)) (by decide) (by decide) gk) ?_
    show Go _ _ _ _ s₁ (mkF m 15 #[.val (.int (1 : Int32)), .val (.int xa), .val (.int xb)] [])
    refine Go.by (fun _ gk => XS.iloadN X0.here hx rfl (hb hby d1_15) rfl gk) ?_
    show Go _ _ _ _ s₁ (mkF m 16 #[.val (.int (1 : Int32)), .val (.int xa), .val (.int xb)] [(.int (1 : Int32))])
    refine Go.by (fun _ gk => XT.iconstV X0.here hx rfl (1 : Int32) (hb hby d1_16) (by decide) gk) ?_
    show Go _ _ _ _ s₁ (mkF m 17 #[.val (.int (1 : Int32)), .val (.int xa), .val (.int xb)] [(.int (1 : Int32)), (.int (1 : Int32))])
    refine Go.by (fun _ gk => XS.icmpNo X0.here hx rfl (hb hby d1_17) rfl (XT.ii_ne_f rfl) gk) ?_
    show Go _ _ _ _ s₁ (mkF m 20 #[.val (.int (1 : Int32)), .val (.int xa), .val (.int xb)] [])
    obtain ⟨st, g25⟩ : ∃ z, z = h0.size := ⟨_, rfl⟩
    have ge_st : n0 ≤ st := Nat.le_trans Z0 (Nat.le_of_eq g25.symm)
    have sz_st : h0.size ≤ st := Nat.le_trans (Keep.refl h0 []).1 (Nat.le_of_eq g25.symm)
    obtain ⟨T25, h25, X25, e25, E25, A25, D25, -, st25⟩ := newO X0 hx hZ hown (hw _ (List.mem_of_getElem? (i := 7) rfl)) (hw _ (List.mem_of_getElem? (i := 8) rfl)) (hw _ (List.mem_of_getElem? (i := 9) rfl)) e0 (g := (mkF m 20 #[.val (.int (1 : Int32)), .val (.int xa), .val (.int xb)] [])) rfl (hb hby d1_20) (by decide) (by decide)
    rw [← g25] at A25 D25 st25
    have C26 : CHr Z own_EL s.vm h0 s.vm h25 := C0.trans (CHr.ext E25 C0.1)
    have Sf27 : Safe Z own_EL s.vm h25 st := Safe.ext E25 C0.1 (Safe.new (Nat.le_of_eq g25.symm))
    have F_value_st : Fld Z h25 st "java/lang/String" "value" "[B" .null := D25 (Or.inr (hw _ (List.mem_of_getElem? (i := 23) rfl))) (ty := (.array .byte)) (by decide)
    have F_coder_st : Fld Z h25 st "java/lang/String" "coder" "B" (.int (0 : Int32)) := D25 (Or.inr (hw _ (List.mem_of_getElem? (i := 24) rfl))) (ty := .byte) (by decide)
    refine Go.by st25 ?_
    show Go _ _ _ _ T25 (mkF m 23 #[.val (.int (1 : Int32)), .val (.int xa), .val (.int xb)] [(.ref st)])
    refine Go.by (fun _ gk => XS.dup X25.here hx rfl (hb hby d1_23) rfl rfl gk) ?_
    show Go _ _ _ _ T25 (mkF m 24 #[.val (.int (1 : Int32)), .val (.int xa), .val (.int xb)] [(.ref st), (.ref st)])
    refine Go.by (fun _ gk => XT.iconstV X25.here hx rfl (1 : Int32) (hb hby d1_24) (by decide) gk) ?_
    show Go _ _ _ _ T25 (mkF m 25 #[.val (.int (1 : Int32)), .val (.int xa), .val (.int xb)] [(.int (1 : Int32)), (.ref st), (.ref st)])
    obtain ⟨ca, g28⟩ : ∃ z, z = h25.size := ⟨_, rfl⟩
    have F29 : n0 ≤ h25.size := Nat.le_trans Z0 E25.1
    have ge_ca : n0 ≤ ca := Nat.le_trans F29 (Nat.le_of_eq g28.symm)
    have F30 : Keep h0 h25 [] := (Keep.refl h0 []).ext E25
    have sz_ca : h0.size ≤ ca := Nat.le_trans F30.1 (Nat.le_of_eq g28.symm)
    have ne_st_ca : st ≠ ca := Nat.ne_of_lt (Nat.lt_of_lt_of_le A25.lt (Nat.le_of_eq g28.symm))
    obtain ⟨T28, h28, k28, X28, e28, E28, A28, Ea28, st28⟩ := newPE X25 hx hZ (hw _ (List.mem_of_getElem? (i := 10) rfl)) e25 (g := (mkF m 25 #[.val (.int (1 : Int32)), .val (.int xa), .val (.int xb)] [(.int (1 : Int32)), (.ref st), (.ref st)])) rfl (hb hby d1_25) rfl (by decide) (cap := 1) (by decide) (by decide) (by decide) (by decide) (ad := "[C") rfl
    rw [← g28] at A28 Ea28 st28
    have C31 : CHr Z own_EL s.vm h0 s.vm h28 := C26.trans (CHr.ext E28 C26.1)
    have Sf32 : Safe Z own_EL s.vm h28 st := Safe.ext E28 C26.1 Sf27
    have Sf33 : Safe Z own_EL s.vm h28 ca := Safe.ext E28 C26.1 (Safe.new (Nat.le_of_eq g28.symm))
    have V_ca : Arv Z h28 ca k28 .char (1 : Int32) [(.int (0 : Int32))] (.int (0 : Int32)) := (Arv.new A28 (by decide)).pad (pad_rep [] (.int (0 : Int32)) 1)
    refine Go.by st28 ?_
    show Go _ _ _ _ T28 (mkF m 27 #[.val (.int (1 : Int32)), .val (.int xa), .val (.int xb)] [(.ref ca), (.ref st), (.ref st)])
    refine Go.by (fun _ gk => XS.dup X28.here hx rfl (hb hby d1_27) rfl rfl gk) ?_
    show Go _ _ _ _ T28 (mkF m 28 #[.val (.int (1 : Int32)), .val (.int xa), .val (.int xb)] [(.ref ca), (.ref ca), (.ref st), (.ref st)])
    refine Go.by (fun _ gk => XT.iconstV X28.here hx rfl (0 : Int32) (hb hby d1_28) (by decide) gk) ?_
    show Go _ _ _ _ T28 (mkF m 29 #[.val (.int (1 : Int32)), .val (.int xa), .val (.int xb)] [(.int (0 : Int32)), (.ref ca), (.ref ca), (.ref st), (.ref st)])
    refine Go.by (fun _ gk => XS.iloadN X28.here hx rfl (hb hby d1_29) rfl gk) ?_
    show Go _ _ _ _ T28 (mkF m 30 #[.val (.int (1 : Int32)), .val (.int xa), .val (.int xb)] [(.int xa), (.int (0 : Int32)), (.ref ca), (.ref ca), (.ref st), (.ref st)])
    obtain ⟨cl34, Ar34, q34, S34, M34, H34, G34⟩ := id V_ca
    have hin34 : ¬ ((0 : Int32) < 0 ∨ cl34.slots.size ≤ (0 : Int32).toNatClampNeg) := inb_of S34 ⟨by decide, by decide⟩
    obtain ⟨T34, h34, X34, e34, W34, st34⟩ := stC X28 hx hZ e28 Ar34 (j := (0 : Int32)) hin34 (g := (mkF m 30 #[.val (.int (1 : Int32)), .val (.int xa), .val (.int xb)] [(.int xa), (.int (0 : Int32)), (.ref ca), (.ref ca), (.ref st), (.ref st)])) rfl rfl (hb hby d1_30)
    have C35 : CHr Z own_EL s.vm h0 s.vm h34 := C31.trans (CHr.wr W34 Sf33 C31.1)
    have Sf36 : Safe Z own_EL s.vm h34 st := Safe.wr W34 Sf33 C31.1 Sf32
    have Sf37 : Safe Z own_EL s.vm h34 ca := Safe.wr W34 Sf33 C31.1 Sf33
    have N34 := Fr.snoc X34 N0 ge_ca
    have V34 : Arv Z h34 ca k28 .char (1 : Int32) [(.int (nar .char xa))] (.int (0 : Int32)) := Arv.set Ar34 q34 S34 M34 H34 G34 (fits_nar_char _) W34 0 rfl (Nat.le_of_ble_eq_true rfl)
    refine Go.by st34 ?_
    show Go _ _ _ _ T34 (mkF m 31 #[.val (.int (1 : Int32)), .val (.int xa), .val (.int xb)] [(.ref ca), (.ref st), (.ref st)])
    rw [hxa.2] at V34
    have F38 : Old Z n0 h25 := O0.ext E25
    have F39 : Old Z n0 h28 := F38.ext E28
    have F40 : Old Z n0 h34 := F39.wr W34 ge_ca
    have F41 : Exa Z h28 st "java/lang/String" := A25.ext E28
    have F42 : Exa Z h34 st "java/lang/String" := F41.wr W34
    have F43 : Fld Z h28 st "java/lang/String" "value" "[B" .null := F_value_st.ext E28
    have F44 : Fld Z h34 st "java/lang/String" "value" "[B" .null := F43.other W34 (Or.inl ne_st_ca)
    have F45 : Fld Z h28 st "java/lang/String" "coder" "B" (.int (0 : Int32)) := F_coder_st.ext E28
    have F46 : Fld Z h34 st "java/lang/String" "coder" "B" (.int (0 : Int32)) := F45.other W34 (Or.inl ne_st_ca)
    have F47 : n0 ≤ h28.size := Nat.le_trans F29 E28.1
    have F48 : n0 ≤ h34.size := Nat.le_trans F47 (Nat.le_of_eq (Wr.size W34).symm)
    have F49 : Keep h0 h28 [] := F30.ext E28
    have F50 : Keep h0 h34 [] := F49.wr W34 (Or.inr sz_ca)
    have F51 : Exa Z h34 ca "[C" := Ea28.wr W34
    obtain ⟨_, _, ⟨T52, L52, k52, n52⟩, -, X52, ⟨Lc52, hQ52, l52, y52, z52⟩, st52⟩ := X34.specialBack hx (y := (⟨"java/lang/String", "<init>", "([C)V"⟩ : MethodName)) rfl hown (mvT hZ (hw _ (List.mem_of_getElem? (i := 11) rfl))) (mvT hZ (hw _ (List.mem_of_getElem? (i := 12) rfl))) (mvT hZ (hw _ (List.mem_of_getElem? (i := 13) rfl))) (by decide) (backOf (W := 1) (rmS1_1 l Z a0 hw [] st ca k28 xa cs h34 n0 F48 F40 F42 F44 F46 ge_st V34 hxa.1 S_cs n_cs) hZ (hw _ (List.mem_of_getElem? (i := 13) rfl)) (hw _ (List.mem_of_getElem? (i := 9) rfl)) (by decide) (by decide)) (g := (mkF m 31 #[.val (.int (1 : Int32)), .val (.int xa), .val (.int xb)] [(.ref ca), (.ref st), (.ref st)])) rfl (by rw [hml]; rfl) (Steps.refl _) (a := st) (argsL := [(.ref ca)]) (rest := [(.ref st)]) (lenOf pd_35 rfl) rfl (by show 2 * 0 + _ ≤ _; exact Nat.le_of_eq rfl) (hb hby d1_31) (fun _ _ => ⟨rfl, e34, (by decide : 2 + 1 ≤ _), (by decide : 5 + 1 ≤ _)⟩)
    dsimp only [Pt.U, Pt.locs, Pt.cells, Pt.slots] at X52 l52 y52 z52 st52 hQ52
    subst l52 y52 z52
    obtain ⟨sb, kb, rfl, N52q, K52, Q52_0, Q52_1, Q52_2, Q52_3, Q52_4⟩ := hQ52
    have N52 := Fr.app N34 N52q
    have C53 : CHr Z own_EL s.vm h0 s.vm T52.heap := C35.trans (CHr.keep K52 (sfS Sf36 sf0) C35.1)
    have Sf54 : Safe Z own_EL s.vm T52.heap st := Safe.keep K52 (sfS Sf36 sf0) C35.1 Sf36
    have Sf55 : Safe Z own_EL s.vm T52.heap ca := Safe.keep K52 (sfS Sf36 sf0) C35.1 Sf37
    refine Go.to st52 ?_
    show Go _ _ _ _ T52 (mkF m 34 #[.val (.int (1 : Int32)), .val (.int xa), .val (.int xb)] [(.ref st)])
    have ge_sb : n0 ≤ sb := Nat.le_trans F48 Q52_4
    have sz_sb : h0.size ≤ sb := Nat.le_trans F50.1 Q52_4
    have ne_ca_sb : ca ≠ sb := Nat.ne_of_lt (Nat.lt_of_lt_of_le V34.lt Q52_4)
    have ne_st_sb : st ≠ sb := Nat.ne_of_lt (Nat.lt_of_lt_of_le F42.lt Q52_4)
    have Vs56 : Arv Z T52.heap sb kb .byte (1 : Int32) (own_str (1 : Int32) xa xb) (.int (0 : Int32)) := by rw [own_str_1]; exact Q52_3
    have F57 : Keep h0 T52.heap [] := F50.trans K52 (allS (Or.inr sz_st) all0)
    have F58 : s.heap.size ≤ h25.size := Nat.le_trans hk0 E25.1
    have F59 : s.heap.size ≤ h28.size := Nat.le_trans F58 E28.1
    have F60 : s.heap.size ≤ h34.size := Nat.le_trans F59 (Nat.le_of_eq (Wr.size W34).symm)
    have F61 : s.heap.size ≤ T52.heap.size := Nat.le_trans F60 K52.1
    exact Go.retAW X52 hx Bd.notSynchronized hS0 (by exact F61) hZ hEL (by rw [hh]; exact C53) Bd.returns rfl rfl (hb hby d1_34) ⟨st, sb, kb, rfl, N52, F57, Q52_0, Q52_1, Q52_2, Vs56, sz_st⟩ (by decide) (by decide)
  · show Go _ _ _ _ s₁ (mkF m 0 #[.val (.int (2 : Int32)), .val (.int xa), .val (.int xb)] [])
    refine Go.by (fun _ gk => XS.iloadN X0.here hx rfl (hb hby d1_0) rfl gk) ?_
    show Go _ _ _ _ s₁ (mkF m 1 #[.val (.int (2 : Int32)), .val (.int xa), .val (.int xb)] [(.int (2 : Int32))])
    refine Go.by (fun _ gk => XS.ifYes X0.here hx rfl (pc0 := 1) (pc' := 15) rfl (hb hby d1_1) rfl (XT.i0_ne_t (by decide)) (by decide) (by decide) gk) ?_
    show Go _ _ _ _ s₁ (mkF m 15 #[.val (.int (2 : Int32)), .val (.int xa), .val (.int xb)] [])
    refine Go.by (fun _ gk => XS.iloadN X0.here hx rfl (hb hby d1_15) rfl gk) ?_
    show Go _ _ _ _ s₁ (mkF m 16 #[.val (.int (2 : Int32)), .val (.int xa), .val (.int xb)] [(.int (2 : Int32))])
    refine Go.by (fun _ gk => XT.iconstV X0.here hx rfl (1 : Int32) (hb hby d1_16) (by decide) gk) ?_
    show Go _ _ _ _ s₁ (mkF m 17 #[.val (.int (2 : Int32)), .val (.int xa), .val (.int xb)] [(.int (1 : Int32)), (.int (2 : Int32))])
    refine Go.by (fun _ gk => XS.icmpYes X0.here hx rfl (pc0 := 17) (pc' := 35) rfl (hb hby d1_17) rfl (XT.ii_ne_t (by decide)) (by decide) (by decide) gk) ?_
    show Go _ _ _ _ s₁ (mkF m 35 #[.val (.int (2 : Int32)), .val (.int xa), .val (.int xb)] [])
    obtain ⟨st, g62⟩ : ∃ z, z = h0.size := ⟨_, rfl⟩
    have ge_st : n0 ≤ st := Nat.le_trans Z0 (Nat.le_of_eq g62.symm)
    have sz_st : h0.size ≤ st := Nat.le_trans (Keep.refl h0 []).1 (Nat.le_of_eq g62.symm)
    obtain ⟨T62, h62, X62, e62, E62, A62, D62, -, st62⟩ := newO X0 hx hZ hown (hw _ (List.mem_of_getElem? (i := 7) rfl)) (hw _ (List.mem_of_getElem? (i := 8) rfl)) (hw _ (List.mem_of_getElem? (i := 9) rfl)) e0 (g := (mkF m 35 #[.val (.int (2 : Int32)), .val (.int xa), .val (.int xb)] [])) rfl (hb hby d1_35) (by decide) (by decide)
    rw [← g62] at A62 D62 st62
    have C63 : CHr Z own_EL s.vm h0 s.vm h62 := C0.trans (CHr.ext E62 C0.1)
    have Sf64 : Safe Z own_EL s.vm h62 st := Safe.ext E62 C0.1 (Safe.new (Nat.le_of_eq g62.symm))
    have F_value_st : Fld Z h62 st "java/lang/String" "value" "[B" .null := D62 (Or.inr (hw _ (List.mem_of_getElem? (i := 23) rfl))) (ty := (.array .byte)) (by decide)
    have F_coder_st : Fld Z h62 st "java/lang/String" "coder" "B" (.int (0 : Int32)) := D62 (Or.inr (hw _ (List.mem_of_getElem? (i := 24) rfl))) (ty := .byte) (by decide)
    refine Go.by st62 ?_
    show Go _ _ _ _ T62 (mkF m 38 #[.val (.int (2 : Int32)), .val (.int xa), .val (.int xb)] [(.ref st)])
    refine Go.by (fun _ gk => XS.dup X62.here hx rfl (hb hby d1_38) rfl rfl gk) ?_
    show Go _ _ _ _ T62 (mkF m 39 #[.val (.int (2 : Int32)), .val (.int xa), .val (.int xb)] [(.ref st), (.ref st)])
    refine Go.by (fun _ gk => XT.iconstV X62.here hx rfl (2 : Int32) (hb hby d1_39) (by decide) gk) ?_
    show Go _ _ _ _ T62 (mkF m 40 #[.val (.int (2 : Int32)), .val (.int xa), .val (.int xb)] [(.int (2 : Int32)), (.ref st), (.ref st)])
    obtain ⟨ca, g65⟩ : ∃ z, z = h62.size := ⟨_, rfl⟩
    have F66 : n0 ≤ h62.size := Nat.le_trans Z0 E62.1
    have ge_ca : n0 ≤ ca := Nat.le_trans F66 (Nat.le_of_eq g65.symm)
    have F67 : Keep h0 h62 [] := (Keep.refl h0 []).ext E62
    have sz_ca : h0.size ≤ ca := Nat.le_trans F67.1 (Nat.le_of_eq g65.symm)
    have ne_st_ca : st ≠ ca := Nat.ne_of_lt (Nat.lt_of_lt_of_le A62.lt (Nat.le_of_eq g65.symm))
    obtain ⟨T65, h65, k65, X65, e65, E65, A65, Ea65, st65⟩ := newPE X62 hx hZ (hw _ (List.mem_of_getElem? (i := 10) rfl)) e62 (g := (mkF m 40 #[.val (.int (2 : Int32)), .val (.int xa), .val (.int xb)] [(.int (2 : Int32)), (.ref st), (.ref st)])) rfl (hb hby d1_40) rfl (by decide) (cap := 2) (by decide) (by decide) (by decide) (by decide) (ad := "[C") rfl
    rw [← g65] at A65 Ea65 st65
    have C68 : CHr Z own_EL s.vm h0 s.vm h65 := C63.trans (CHr.ext E65 C63.1)
    have Sf69 : Safe Z own_EL s.vm h65 st := Safe.ext E65 C63.1 Sf64
    have Sf70 : Safe Z own_EL s.vm h65 ca := Safe.ext E65 C63.1 (Safe.new (Nat.le_of_eq g65.symm))
    have V_ca : Arv Z h65 ca k65 .char (2 : Int32) [(.int (0 : Int32)), (.int (0 : Int32))] (.int (0 : Int32)) := (Arv.new A65 (by decide)).pad (pad_rep [] (.int (0 : Int32)) 2)
    refine Go.by st65 ?_
    show Go _ _ _ _ T65 (mkF m 42 #[.val (.int (2 : Int32)), .val (.int xa), .val (.int xb)] [(.ref ca), (.ref st), (.ref st)])
    refine Go.by (fun _ gk => XS.dup X65.here hx rfl (hb hby d1_42) rfl rfl gk) ?_
    show Go _ _ _ _ T65 (mkF m 43 #[.val (.int (2 : Int32)), .val (.int xa), .val (.int xb)] [(.ref ca), (.ref ca), (.ref st), (.ref st)])
    refine Go.by (fun _ gk => XT.iconstV X65.here hx rfl (0 : Int32) (hb hby d1_43) (by decide) gk) ?_
    show Go _ _ _ _ T65 (mkF m 44 #[.val (.int (2 : Int32)), .val (.int xa), .val (.int xb)] [(.int (0 : Int32)), (.ref ca), (.ref ca), (.ref st), (.ref st)])
    refine Go.by (fun _ gk => XS.iloadN X65.here hx rfl (hb hby d1_44) rfl gk) ?_
    show Go _ _ _ _ T65 (mkF m 45 #[.val (.int (2 : Int32)), .val (.int xa), .val (.int xb)] [(.int xa), (.int (0 : Int32)), (.ref ca), (.ref ca), (.ref st), (.ref st)])
    obtain ⟨cl71, Ar71, q71, S71, M71, H71, G71⟩ := id V_ca
    have hin71 : ¬ ((0 : Int32) < 0 ∨ cl71.slots.size ≤ (0 : Int32).toNatClampNeg) := inb_of S71 ⟨by decide, by decide⟩
    obtain ⟨T71, h71, X71, e71, W71, st71⟩ := stC X65 hx hZ e65 Ar71 (j := (0 : Int32)) hin71 (g := (mkF m 45 #[.val (.int (2 : Int32)), .val (.int xa), .val (.int xb)] [(.int xa), (.int (0 : Int32)), (.ref ca), (.ref ca), (.ref st), (.ref st)])) rfl rfl (hb hby d1_45)
    have C72 : CHr Z own_EL s.vm h0 s.vm h71 := C68.trans (CHr.wr W71 Sf70 C68.1)
    have Sf73 : Safe Z own_EL s.vm h71 st := Safe.wr W71 Sf70 C68.1 Sf69
    have Sf74 : Safe Z own_EL s.vm h71 ca := Safe.wr W71 Sf70 C68.1 Sf70
    have N71 := Fr.snoc X71 N0 ge_ca
    have V71 : Arv Z h71 ca k65 .char (2 : Int32) [(.int (nar .char xa)), (.int (0 : Int32))] (.int (0 : Int32)) := Arv.set Ar71 q71 S71 M71 H71 G71 (fits_nar_char _) W71 0 rfl (Nat.le_of_ble_eq_true rfl)
    refine Go.by st71 ?_
    show Go _ _ _ _ T71 (mkF m 46 #[.val (.int (2 : Int32)), .val (.int xa), .val (.int xb)] [(.ref ca), (.ref st), (.ref st)])
    rw [hxa.2] at V71
    refine Go.by (fun _ gk => XS.dup X71.here hx rfl (hb hby d1_46) rfl rfl gk) ?_
    show Go _ _ _ _ T71 (mkF m 47 #[.val (.int (2 : Int32)), .val (.int xa), .val (.int xb)] [(.ref ca), (.ref ca), (.ref st), (.ref st)])
    refine Go.by (fun _ gk => XT.iconstV X71.here hx rfl (1 : Int32) (hb hby d1_47) (by decide) gk) ?_
    show Go _ _ _ _ T71 (mkF m 48 #[.val (.int (2 : Int32)), .val (.int xa), .val (.int xb)] [(.int (1 : Int32)), (.ref ca), (.ref ca), (.ref st), (.ref st)])
    refine Go.by (fun _ gk => XS.iloadN X71.here hx rfl (hb hby d1_48) rfl gk) ?_
    show Go _ _ _ _ T71 (mkF m 49 #[.val (.int (2 : Int32)), .val (.int xa), .val (.int xb)] [(.int xb), (.int (1 : Int32)), (.ref ca), (.ref ca), (.ref st), (.ref st)])
    obtain ⟨cl75, Ar75, q75, S75, M75, H75, G75⟩ := id V71
    have hin75 : ¬ ((1 : Int32) < 0 ∨ cl75.slots.size ≤ (1 : Int32).toNatClampNeg) := inb_of S75 ⟨by decide, by decide⟩
    obtain ⟨T75, h75, X75, e75, W75, st75⟩ := stC X71 hx hZ e71 Ar75 (j := (1 : Int32)) hin75 (g := (mkF m 49 #[.val (.int (2 : Int32)), .val (.int xa), .val (.int xb)] [(.int xb), (.int (1 : Int32)), (.ref ca), (.ref ca), (.ref st), (.ref st)])) rfl rfl (hb hby d1_49)
    have C76 : CHr Z own_EL s.vm h0 s.vm h75 := C72.trans (CHr.wr W75 Sf74 C72.1)
    have Sf77 : Safe Z own_EL s.vm h75 st := Safe.wr W75 Sf74 C72.1 Sf73
    have Sf78 : Safe Z own_EL s.vm h75 ca := Safe.wr W75 Sf74 C72.1 Sf74
    have N75 := Fr.snoc X75 N71 ge_ca
    have V75 : Arv Z h75 ca k65 .char (2 : Int32) [(.int xa), (.int (nar .char xb))] (.int (0 : Int32)) := Arv.set Ar75 q75 S75 M75 H75 G75 (fits_nar_char _) W75 1 rfl (Nat.le_of_ble_eq_true rfl)
    refine Go.by st75 ?_
    show Go _ _ _ _ T75 (mkF m 50 #[.val (.int (2 : Int32)), .val (.int xa), .val (.int xb)] [(.ref ca), (.ref st), (.ref st)])
    rw [hxb.2] at V75
    have F79 : Old Z n0 h62 := O0.ext E62
    have F80 : Old Z n0 h65 := F79.ext E65
    have F81 : Old Z n0 h71 := F80.wr W71 ge_ca
    have F82 : Old Z n0 h75 := F81.wr W75 ge_ca
    have F83 : Exa Z h65 st "java/lang/String" := A62.ext E65
    have F84 : Exa Z h71 st "java/lang/String" := F83.wr W71
    have F85 : Exa Z h75 st "java/lang/String" := F84.wr W75
    have F86 : Fld Z h65 st "java/lang/String" "value" "[B" .null := F_value_st.ext E65
    have F87 : Fld Z h71 st "java/lang/String" "value" "[B" .null := F86.other W71 (Or.inl ne_st_ca)
    have F88 : Fld Z h75 st "java/lang/String" "value" "[B" .null := F87.other W75 (Or.inl ne_st_ca)
    have F89 : Fld Z h65 st "java/lang/String" "coder" "B" (.int (0 : Int32)) := F_coder_st.ext E65
    have F90 : Fld Z h71 st "java/lang/String" "coder" "B" (.int (0 : Int32)) := F89.other W71 (Or.inl ne_st_ca)
    have F91 : Fld Z h75 st "java/lang/String" "coder" "B" (.int (0 : Int32)) := F90.other W75 (Or.inl ne_st_ca)
    have F92 : n0 ≤ h65.size := Nat.le_trans F66 E65.1
    have F93 : n0 ≤ h71.size := Nat.le_trans F92 (Nat.le_of_eq (Wr.size W71).symm)
    have F94 : n0 ≤ h75.size := Nat.le_trans F93 (Nat.le_of_eq (Wr.size W75).symm)
    have F95 : Keep h0 h65 [] := F67.ext E65
    have F96 : Keep h0 h71 [] := F95.wr W71 (Or.inr sz_ca)
    have F97 : Keep h0 h75 [] := F96.wr W75 (Or.inr sz_ca)
    have F98 : Exa Z h71 ca "[C" := Ea65.wr W71
    have F99 : Exa Z h75 ca "[C" := F98.wr W75
    obtain ⟨_, _, ⟨T100, L100, k100, n100⟩, -, X100, ⟨Lc100, hQ100, l100, y100, z100⟩, st100⟩ := X75.specialBack hx (y := (⟨"java/lang/String", "<init>", "([C)V"⟩ : MethodName)) rfl hown (mvT hZ (hw _ (List.mem_of_getElem? (i := 11) rfl))) (mvT hZ (hw _ (List.mem_of_getElem? (i := 12) rfl))) (mvT hZ (hw _ (List.mem_of_getElem? (i := 13) rfl))) (by decide) (backOf (W := 1) (rmS1_2 l Z a0 hw [] st ca k65 xa xb cs h75 n0 F94 F82 F85 F88 F91 ge_st V75 hxa.1 hxb.1 S_cs n_cs) hZ (hw _ (List.mem_of_getElem? (i := 13) rfl)) (hw _ (List.mem_of_getElem? (i := 9) rfl)) (by decide) (by decide)) (g := (mkF m 50 #[.val (.int (2 : Int32)), .val (.int xa), .val (.int xb)] [(.ref ca), (.ref st), (.ref st)])) rfl (by rw [hml]; rfl) (Steps.refl _) (a := st) (argsL := [(.ref ca)]) (rest := [(.ref st)]) (lenOf pd_35 rfl) rfl (by show 2 * 0 + _ ≤ _; exact Nat.le_of_eq rfl) (hb hby d1_50) (fun _ _ => ⟨rfl, e75, (by decide : 2 + 1 ≤ _), (by decide : 6 + 2 ≤ _)⟩)
    dsimp only [Pt.U, Pt.locs, Pt.cells, Pt.slots] at X100 l100 y100 z100 st100 hQ100
    subst l100 y100 z100
    obtain ⟨sb, kb, rfl, N100q, K100, Q100_0, Q100_1, Q100_2, Q100_3, Q100_4⟩ := hQ100
    have N100 := Fr.app N75 N100q
    have C101 : CHr Z own_EL s.vm h0 s.vm T100.heap := C76.trans (CHr.keep K100 (sfS Sf77 sf0) C76.1)
    have Sf102 : Safe Z own_EL s.vm T100.heap st := Safe.keep K100 (sfS Sf77 sf0) C76.1 Sf77
    have Sf103 : Safe Z own_EL s.vm T100.heap ca := Safe.keep K100 (sfS Sf77 sf0) C76.1 Sf78
    refine Go.to st100 ?_
    show Go _ _ _ _ T100 (mkF m 53 #[.val (.int (2 : Int32)), .val (.int xa), .val (.int xb)] [(.ref st)])
    have ge_sb : n0 ≤ sb := Nat.le_trans F94 Q100_4
    have sz_sb : h0.size ≤ sb := Nat.le_trans F97.1 Q100_4
    have ne_ca_sb : ca ≠ sb := Nat.ne_of_lt (Nat.lt_of_lt_of_le V75.lt Q100_4)
    have ne_st_sb : st ≠ sb := Nat.ne_of_lt (Nat.lt_of_lt_of_le F85.lt Q100_4)
    have Vs104 : Arv Z T100.heap sb kb .byte (2 : Int32) (own_str (2 : Int32) xa xb) (.int (0 : Int32)) := by rw [own_str_2]; exact Q100_3
    have F105 : Keep h0 T100.heap [] := F97.trans K100 (allS (Or.inr sz_st) all0)
    have F106 : s.heap.size ≤ h62.size := Nat.le_trans hk0 E62.1
    have F107 : s.heap.size ≤ h65.size := Nat.le_trans F106 E65.1
    have F108 : s.heap.size ≤ h71.size := Nat.le_trans F107 (Nat.le_of_eq (Wr.size W71).symm)
    have F109 : s.heap.size ≤ h75.size := Nat.le_trans F108 (Nat.le_of_eq (Wr.size W75).symm)
    have F110 : s.heap.size ≤ T100.heap.size := Nat.le_trans F109 K100.1
    exact Go.retAW X100 hx Bd.notSynchronized hS0 (by exact F110) hZ hEL (by rw [hh]; exact C101) Bd.returns rfl rfl (hb hby d1_53) ⟨st, sb, kb, rfl, N100, F105, Q100_0, Q100_1, Q100_2, Vs104, sz_st⟩ (by decide) (by decide)
theorem pn_134 : plainName "java/lang/StringLatin1" = true := by first | (simp [plainName, overriddenIn]; done) | decide +kernel
theorem ef_135 (m : MethodId) (x0 : Addr) (x1 : Addr) : entryFrame m #[(.ref x0), (.ref x1)] 3 = mkF m 0 #[.val (.ref x0), .val (.ref x1), .unset] [] := by (first | (simp [entryFrame, mkF, argsToLocals, Value.category]; done) | rfl)
theorem d10_0 : decode jdk_43_method_13_code 0 = .ok (.aload_n 0, 1) := by decide +kernel
theorem d10_1 : decode jdk_43_method_13_code 1 = .ok (.arraylength, 1) := by decide +kernel
theorem d10_2 : decode jdk_43_method_13_code 2 = .ok (.aload_n 1, 1) := by decide +kernel
theorem d10_3 : decode jdk_43_method_13_code 3 = .ok (.arraylength, 1) := by decide +kernel
theorem d10_4 : decode jdk_43_method_13_code 4 = .ok (.if_icmp .ne 30, 3) := by decide +kernel
theorem d10_7 : decode jdk_43_method_13_code 7 = .ok (.iconst 0, 1) := by decide +kernel
theorem d10_8 : decode jdk_43_method_13_code 8 = .ok (.istore_n 2, 1) := by decide +kernel
theorem d10_9 : decode jdk_43_method_13_code 9 = .ok (.iload_n 2, 1) := by decide +kernel
theorem d10_10 : decode jdk_43_method_13_code 10 = .ok (.aload_n 0, 1) := by decide +kernel
theorem d10_11 : decode jdk_43_method_13_code 11 = .ok (.arraylength, 1) := by decide +kernel
theorem d10_12 : decode jdk_43_method_13_code 12 = .ok (.if_icmp .ge 20, 3) := by decide +kernel
theorem d10_32 : decode jdk_43_method_13_code 32 = .ok (.iconst 1, 1) := by decide +kernel
theorem d10_33 : decode jdk_43_method_13_code 33 = .ok (.ireturn, 1) := by decide +kernel
theorem d10_34 : decode jdk_43_method_13_code 34 = .ok (.iconst 0, 1) := by decide +kernel
theorem d10_35 : decode jdk_43_method_13_code 35 = .ok (.ireturn, 1) := by decide +kernel
theorem d10_15 : decode jdk_43_method_13_code 15 = .ok (.aload_n 0, 1) := by decide +kernel
theorem d10_16 : decode jdk_43_method_13_code 16 = .ok (.iload_n 2, 1) := by decide +kernel
theorem d10_17 : decode jdk_43_method_13_code 17 = .ok (.baload, 1) := by decide +kernel
theorem d10_18 : decode jdk_43_method_13_code 18 = .ok (.aload_n 1, 1) := by decide +kernel
theorem d10_19 : decode jdk_43_method_13_code 19 = .ok (.iload_n 2, 1) := by decide +kernel
theorem d10_20 : decode jdk_43_method_13_code 20 = .ok (.baload, 1) := by decide +kernel
theorem d10_21 : decode jdk_43_method_13_code 21 = .ok (.if_icmp .eq 5, 3) := by decide +kernel
theorem d10_26 : decode jdk_43_method_13_code 26 = .ok (.iinc 2 1, 3) := by decide +kernel
theorem d10_29 : decode jdk_43_method_13_code 29 = .ok (.goto (-20), 3) := by decide +kernel
theorem d10_24 : decode jdk_43_method_13_code 24 = .ok (.iconst 0, 1) := by decide +kernel
theorem d10_25 : decode jdk_43_method_13_code 25 = .ok (.ireturn, 1) := by decide +kernel
def Q_rmLeq (Z : State) (a : Addr) (b : Addr) (ka : ClassId) (kb : ClassId) (n : Int32) (xa : Int32) (xb : Int32) (n2 : Int32) (ya : Int32) (yb : Int32) (h0 : Heap) (n0 : Nat) (v : Option Value) (h : Heap) (L : List Loc) : Prop := ∃ r : Int32, v = some (.int r) ∧ Fr n0 L ∧ h = h0 ∧ ((r = 1 ∧ own_eq n xa xb n2 ya yb) ∨ (r = 0 ∧ ¬ own_eq n xa xb n2 ya yb))
set_option maxRecDepth 65536 in
set_option maxHeartbeats 40000000 in
theorem rmLeq (l : Launch) (Z : State) (a0 : Array Value) (hw : ∀ d ∈ tables_1, d.before a0 Z = true) (ws : List Jvm.Cond) (a : Addr) (b : Addr) (ka : ClassId) (kb : ClassId) (n : Int32) (xa : Int32) (xb : Int32) (n2 : Int32) (ya : Int32) (yb : Int32) (h0 : Heap) (n0 : Nat) (Z0 : n0 ≤ h0.size) (V_a : Arv Z h0 a ka .byte n (own_str n xa xb) (.int (0 : Int32))) (V_b : Arv Z h0 b kb .byte n2 (own_str n2 ya yb) (.int (0 : Int32))) (hn1 : (n = 0 ∨ n = 1 ∨ n = 2)) (hn2 : (n2 = 0 ∨ n2 = 1 ∨ n2 = 2)) :
    MetFree l (⟨"java/lang/StringLatin1", "equals", "([B[B)Z"⟩ : MethodName) (head1 (Jvm.Cond.code (⟨"java/lang/StringLatin1", "equals", "([B[B)Z"⟩ : MethodName) jdk_43_method_13_code 3 (some .boolean) :: ws) ({ frames := 0, cells := 0, slots := 0, locals := 0 } : Room)) (fun as' U => as' = #[(.ref a), (.ref b)] ∧ Z.Warmed39 U.vm ∧ U.heap = h0) (fun _ _ _ _ _ => True) (fun _ U o U' => ∃ v L, o = .returned v ∧ Q_rmLeq Z a b ka kb n xa xb n2 ya yb h0 n0 v U'.heap L ∧ FrameEnd U o U' L ({ frames := 0, cells := 0, slots := 0, locals := 0 } : Room).cells ({ frames := 0, cells := 0, slots := 0, locals := 0 } : Room).slots) := by
  refine MetFree.of_bodySF (plainFor_of_name pn_134) hisR ?_
  intro p e s m args below meth c s₁ Bd hml0 hP hK
  obtain ⟨rfl, hZ, hh⟩ := hP
  have hx := Bd.exec
  have hby := Bd.bytes
  have hml : c.maxLocals = 3 := hml0
  have hown : s.vm.findClass "java/lang/StringLatin1" = some m.cls := findClass_of_methodNamed Bd.named
  have hnm := (name_of_methodNamed Bd.named Bd.method).1
  have X0 : Stand p l e ({ frames := 0, cells := 0, slots := 0, locals := 0 } : Room) s m #[(.ref a), (.ref b)] below meth c s₁ [] 0 0 := Stand.of_body Bd
  have e0 : s₁.heap = h0 := by rw [← hh, Bd.state]; rfl
  have N0 := Fr.nil n0
  refine Go.enter (F := EndN s (Q_rmLeq Z a b ka kb n xa xb n2 ya yb h0 n0) ({ frames := 0, cells := 0, slots := 0, locals := 0 } : Room).cells ({ frames := 0, cells := 0, slots := 0, locals := 0 } : Room).slots) (ef_135 m a b) ?_
  show Go _ _ _ _ s₁ (mkF m 0 #[.val (.ref a), .val (.ref b), .unset] [])
  rcases hn1 with rfl | rfl | rfl
  · rcases hn2 with rfl | rfl | rfl
    · show Go _ _ _ _ s₁ (mkF m 0 #[.val (.ref a), .val (.ref b), .unset] [])
      show Go _ _ _ _ s₁ (mkF m 0 #[.val (.ref a), .val (.ref b), .unset] [])
      have Vl1 : Arv Z h0 a ka .byte (0 : Int32) [] (.int (0 : Int32)) := own_str_0 xa xb ▸ V_a
      have Vl2 : Arv Z h0 b kb .byte (0 : Int32) [] (.int (0 : Int32)) := own_str_0 ya yb ▸ V_b
      refine Go.by (fun _ gk => XS.aloadN X0.here hx rfl (hb hby d10_0) rfl rfl gk) ?_
      show Go _ _ _ _ s₁ (mkF m 1 #[.val (.ref a), .val (.ref b), .unset] [(.ref a)])
      obtain ⟨cl3, Ar3, -, S3, M3, -, -⟩ := id Vl1
      refine Go.by (fun _ gk => X0.arraylength hx (by rw [e0]; exact Ar3.1) (State.isArrayOf_alike hZ.alike Ar3.2.1) (g := (mkF m 1 #[.val (.ref a), .val (.ref b), .unset] [(.ref a)])) rfl rfl (hb hby d10_1) _ gk) ?_
      rw [len_of S3 M3]
      show Go _ _ _ _ s₁ (mkF m 2 #[.val (.ref a), .val (.ref b), .unset] [(.int (0 : Int32))])
      refine Go.by (fun _ gk => XS.aloadN X0.here hx rfl (hb hby d10_2) rfl rfl gk) ?_
      show Go _ _ _ _ s₁ (mkF m 3 #[.val (.ref a), .val (.ref b), .unset] [(.ref b), (.int (0 : Int32))])
      obtain ⟨cl4, Ar4, -, S4, M4, -, -⟩ := id Vl2
      refine Go.by (fun _ gk => X0.arraylength hx (by rw [e0]; exact Ar4.1) (State.isArrayOf_alike hZ.alike Ar4.2.1) (g := (mkF m 3 #[.val (.ref a), .val (.ref b), .unset] [(.ref b), (.int (0 : Int32))])) rfl rfl (hb hby d10_3) _ gk) ?_
      rw [len_of S4 M4]
      show Go _ _ _ _ s₁ (mkF m 4 #[.val (.ref a), .val (.ref b), .unset] [(.int (0 : Int32)), (.int (0 : Int32))])
      refine Go.by (fun _ gk => XS.icmpNo X0.here hx rfl (hb hby d10_4) rfl (XT.ii_ne_f rfl) gk) ?_
      show Go _ _ _ _ s₁ (mkF m 7 #[.val (.ref a), .val (.ref b), .unset] [])
      refine Go.by (fun _ gk => XT.iconstV X0.here hx rfl (0 : Int32) (hb hby d10_7) (by decide) gk) ?_
      show Go _ _ _ _ s₁ (mkF m 8 #[.val (.ref a), .val (.ref b), .unset] [(.int (0 : Int32))])
      refine Go.by (fun _ gk => XS.istoreN X0.here hx rfl (hb hby d10_8) rfl (l' := #[.val (.ref a), .val (.ref b), .val (.int (0 : Int32))]) rfl gk) ?_
      show Go _ _ _ _ s₁ (mkF m 9 #[.val (.ref a), .val (.ref b), .val (.int (0 : Int32))] [])
      refine Go.by (fun _ gk => XS.iloadN X0.here hx rfl (hb hby d10_9) rfl gk) ?_
      show Go _ _ _ _ s₁ (mkF m 10 #[.val (.ref a), .val (.ref b), .val (.int (0 : Int32))] [(.int (0 : Int32))])
      refine Go.by (fun _ gk => XS.aloadN X0.here hx rfl (hb hby d10_10) rfl rfl gk) ?_
      show Go _ _ _ _ s₁ (mkF m 11 #[.val (.ref a), .val (.ref b), .val (.int (0 : Int32))] [(.ref a), (.int (0 : Int32))])
      obtain ⟨cl5, Ar5, -, S5, M5, -, -⟩ := id Vl1
      refine Go.by (fun _ gk => X0.arraylength hx (by rw [e0]; exact Ar5.1) (State.isArrayOf_alike hZ.alike Ar5.2.1) (g := (mkF m 11 #[.val (.ref a), .val (.ref b), .val (.int (0 : Int32))] [(.ref a), (.int (0 : Int32))])) rfl rfl (hb hby d10_11) _ gk) ?_
      rw [len_of S5 M5]
      show Go _ _ _ _ s₁ (mkF m 12 #[.val (.ref a), .val (.ref b), .val (.int (0 : Int32))] [(.int (0 : Int32)), (.int (0 : Int32))])
      refine Go.by (fun _ gk => XS.icmpYes X0.here hx rfl (pc0 := 12) (pc' := 32) rfl (hb hby d10_12) rfl (XT.ii_ge_t (by decide)) (by decide) (by decide) gk) ?_
      show Go _ _ _ _ s₁ (mkF m 32 #[.val (.ref a), .val (.ref b), .val (.int (0 : Int32))] [])
      refine Go.by (fun _ gk => XT.iconstV X0.here hx rfl (1 : Int32) (hb hby d10_32) (by decide) gk) ?_
      show Go _ _ _ _ s₁ (mkF m 33 #[.val (.ref a), .val (.ref b), .val (.int (0 : Int32))] [(.int (1 : Int32))])
      exact Go.retI X0 hx Bd.notSynchronized Bd.returns rfl (by simp) (hb hby d10_33) (by rw [e0]; exact ⟨(1 : Int32), rfl, N0, rfl, by simp [own_eq]⟩) (by decide) (by decide)
    · show Go _ _ _ _ s₁ (mkF m 0 #[.val (.ref a), .val (.ref b), .unset] [])
      show Go _ _ _ _ s₁ (mkF m 0 #[.val (.ref a), .val (.ref b), .unset] [])
      have Vl6 : Arv Z h0 a ka .byte (0 : Int32) [] (.int (0 : Int32)) := own_str_0 xa xb ▸ V_a
      have Vl7 : Arv Z h0 b kb .byte (1 : Int32) [(.int (own_b ya))] (.int (0 : Int32)) := own_str_1 ya yb ▸ V_b
      refine Go.by (fun _ gk => XS.aloadN X0.here hx rfl (hb hby d10_0) rfl rfl gk) ?_
      show Go _ _ _ _ s₁ (mkF m 1 #[.val (.ref a), .val (.ref b), .unset] [(.ref a)])
      obtain ⟨cl8, Ar8, -, S8, M8, -, -⟩ := id Vl6
      refine Go.by (fun _ gk => X0.arraylength hx (by rw [e0]; exact Ar8.1) (State.isArrayOf_alike hZ.alike Ar8.2.1) (g := (mkF m 1 #[.val (.ref a), .val (.ref b), .unset] [(.ref a)])) rfl rfl (hb hby d10_1) _ gk) ?_
      rw [len_of S8 M8]
      show Go _ _ _ _ s₁ (mkF m 2 #[.val (.ref a), .val (.ref b), .unset] [(.int (0 : Int32))])
      refine Go.by (fun _ gk => XS.aloadN X0.here hx rfl (hb hby d10_2) rfl rfl gk) ?_
      show Go _ _ _ _ s₁ (mkF m 3 #[.val (.ref a), .val (.ref b), .unset] [(.ref b), (.int (0 : Int32))])
      obtain ⟨cl9, Ar9, -, S9, M9, -, -⟩ := id Vl7
      refine Go.by (fun _ gk => X0.arraylength hx (by rw [e0]; exact Ar9.1) (State.isArrayOf_alike hZ.alike Ar9.2.1) (g := (mkF m 3 #[.val (.ref a), .val (.ref b), .unset] [(.ref b), (.int (0 : Int32))])) rfl rfl (hb hby d10_3) _ gk) ?_
      rw [len_of S9 M9]
      show Go _ _ _ _ s₁ (mkF m 4 #[.val (.ref a), .val (.ref b), .unset] [(.int (1 : Int32)), (.int (0 : Int32))])
      refine Go.by (fun _ gk => XS.icmpYes X0.here hx rfl (pc0 := 4) (pc' := 34) rfl (hb hby d10_4) rfl (XT.ii_ne_t (by decide)) (by decide) (by decide) gk) ?_
      show Go _ _ _ _ s₁ (mkF m 34 #[.val (.ref a), .val (.ref b), .unset] [])
      refine Go.by (fun _ gk => XT.iconstV X0.here hx rfl (0 : Int32) (hb hby d10_34) (by decide) gk) ?_
      show Go _ _ _ _ s₁ (mkF m 35 #[.val (.ref a), .val (.ref b), .unset] [(.int (0 : Int32))])
      exact Go.retI X0 hx Bd.notSynchronized Bd.returns rfl (by simp) (hb hby d10_35) (by rw [e0]; exact ⟨(0 : Int32), rfl, N0, rfl, by simp [own_eq]⟩) (by decide) (by decide)
    · show Go _ _ _ _ s₁ (mkF m 0 #[.val (.ref a), .val (.ref b), .unset] [])
      show Go _ _ _ _ s₁ (mkF m 0 #[.val (.ref a), .val (.ref b), .unset] [])
      have Vl10 : Arv Z h0 a ka .byte (0 : Int32) [] (.int (0 : Int32)) := own_str_0 xa xb ▸ V_a
      have Vl11 : Arv Z h0 b kb .byte (2 : Int32) [(.int (own_b ya)), (.int (own_b yb))] (.int (0 : Int32)) := own_str_2 ya yb ▸ V_b
      refine Go.by (fun _ gk => XS.aloadN X0.here hx rfl (hb hby d10_0) rfl rfl gk) ?_
      show Go _ _ _ _ s₁ (mkF m 1 #[.val (.ref a), .val (.ref b), .unset] [(.ref a)])
      obtain ⟨cl12, Ar12, -, S12, M12, -, -⟩ := id Vl10
      refine Go.by (fun _ gk => X0.arraylength hx (by rw [e0]; exact Ar12.1) (State.isArrayOf_alike hZ.alike Ar12.2.1) (g := (mkF m 1 #[.val (.ref a), .val (.ref b), .unset] [(.ref a)])) rfl rfl (hb hby d10_1) _ gk) ?_
      rw [len_of S12 M12]
      show Go _ _ _ _ s₁ (mkF m 2 #[.val (.ref a), .val (.ref b), .unset] [(.int (0 : Int32))])
      refine Go.by (fun _ gk => XS.aloadN X0.here hx rfl (hb hby d10_2) rfl rfl gk) ?_
      show Go _ _ _ _ s₁ (mkF m 3 #[.val (.ref a), .val (.ref b), .unset] [(.ref b), (.int (0 : Int32))])
      obtain ⟨cl13, Ar13, -, S13, M13, -, -⟩ := id Vl11
      refine Go.by (fun _ gk => X0.arraylength hx (by rw [e0]; exact Ar13.1) (State.isArrayOf_alike hZ.alike Ar13.2.1) (g := (mkF m 3 #[.val (.ref a), .val (.ref b), .unset] [(.ref b), (.int (0 : Int32))])) rfl rfl (hb hby d10_3) _ gk) ?_
      rw [len_of S13 M13]
      show Go _ _ _ _ s₁ (mkF m 4 #[.val (.ref a), .val (.ref b), .unset] [(.int (2 : Int32)), (.int (0 : Int32))])
      refine Go.by (fun _ gk => XS.icmpYes X0.here hx rfl (pc0 := 4) (pc' := 34) rfl (hb hby d10_4) rfl (XT.ii_ne_t (by decide)) (by decide) (by decide) gk) ?_
      show Go _ _ _ _ s₁ (mkF m 34 #[.val (.ref a), .val (.ref b), .unset] [])
      refine Go.by (fun _ gk => XT.iconstV X0.here hx rfl (0 : Int32) (hb hby d10_34) (by decide) gk) ?_
      show Go _ _ _ _ s₁ (mkF m 35 #[.val (.ref a), .val (.ref b), .unset] [(.int (0 : Int32))])
      exact Go.retI X0 hx Bd.notSynchronized Bd.returns rfl (by simp) (hb hby d10_35) (by rw [e0]; exact ⟨(0 : Int32), rfl, N0, rfl, by simp [own_eq]⟩) (by decide) (by decide)
  · rcases hn2 with rfl | rfl | rfl
    · show Go _ _ _ _ s₁ (mkF m 0 #[.val (.ref a), .val (.ref b), .unset] [])
      show Go _ _ _ _ s₁ (mkF m 0 #[.val (.ref a), .val (.ref b), .unset] [])
      have Vl14 : Arv Z h0 a ka .byte (1 : Int32) [(.int (own_b xa))] (.int (0 : Int32)) := own_str_1 xa xb ▸ V_a
      have Vl15 : Arv Z h0 b kb .byte (0 : Int32) [] (.int (0 : Int32)) := own_str_0 ya yb ▸ V_b
      refine Go.by (fun _ gk => XS.aloadN X0.here hx rfl (hb hby d10_0) rfl rfl gk) ?_
      show Go _ _ _ _ s₁ (mkF m 1 #[.val (.ref a), .val (.ref b), .unset] [(.ref a)])
      obtain ⟨cl16, Ar16, -, S16, M16, -, -⟩ := id Vl14
      refine Go.by (fun _ gk => X0.arraylength hx (by rw [e0]; exact Ar16.1) (State.isArrayOf_alike hZ.alike Ar16.2.1) (g := (mkF m 1 #[.val (.ref a), .val (.ref b), .unset] [(.ref a)])) rfl rfl (hb hby d10_1) _ gk) ?_
      rw [len_of S16 M16]
      show Go _ _ _ _ s₁ (mkF m 2 #[.val (.ref a), .val (.ref b), .unset] [(.int (1 : Int32))])
      refine Go.by (fun _ gk => XS.aloadN X0.here hx rfl (hb hby d10_2) rfl rfl gk) ?_
      show Go _ _ _ _ s₁ (mkF m 3 #[.val (.ref a), .val (.ref b), .unset] [(.ref b), (.int (1 : Int32))])
      obtain ⟨cl17, Ar17, -, S17, M17, -, -⟩ := id Vl15
      refine Go.by (fun _ gk => X0.arraylength hx (by rw [e0]; exact Ar17.1) (State.isArrayOf_alike hZ.alike Ar17.2.1) (g := (mkF m 3 #[.val (.ref a), .val (.ref b), .unset] [(.ref b), (.int (1 : Int32))])) rfl rfl (hb hby d10_3) _ gk) ?_
      rw [len_of S17 M17]
      show Go _ _ _ _ s₁ (mkF m 4 #[.val (.ref a), .val (.ref b), .unset] [(.int (0 : Int32)), (.int (1 : Int32))])
      refine Go.by (fun _ gk => XS.icmpYes X0.here hx rfl (pc0 := 4) (pc' := 34) rfl (hb hby d10_4) rfl (XT.ii_ne_t (by decide)) (by decide) (by decide) gk) ?_
      show Go _ _ _ _ s₁ (mkF m 34 #[.val (.ref a), .val (.ref b), .unset] [])
      refine Go.by (fun _ gk => XT.iconstV X0.here hx rfl (0 : Int32) (hb hby d10_34) (by decide) gk) ?_
      show Go _ _ _ _ s₁ (mkF m 35 #[.val (.ref a), .val (.ref b), .unset] [(.int (0 : Int32))])
      exact Go.retI X0 hx Bd.notSynchronized Bd.returns rfl (by simp) (hb hby d10_35) (by rw [e0]; exact ⟨(0 : Int32), rfl, N0, rfl, by simp [own_eq]⟩) (by decide) (by decide)
    · show Go _ _ _ _ s₁ (mkF m 0 #[.val (.ref a), .val (.ref b), .unset] [])
      show Go _ _ _ _ s₁ (mkF m 0 #[.val (.ref a), .val (.ref b), .unset] [])
      have Vl18 : Arv Z h0 a ka .byte (1 : Int32) [(.int (own_b xa))] (.int (0 : Int32)) := own_str_1 xa xb ▸ V_a
      have Vl19 : Arv Z h0 b kb .byte (1 : Int32) [(.int (own_b ya))] (.int (0 : Int32)) := own_str_1 ya yb ▸ V_b
      refine Go.by (fun _ gk => XS.aloadN X0.here hx rfl (hb hby d10_0) rfl rfl gk) ?_
      show Go _ _ _ _ s₁ (mkF m 1 #[.val (.ref a), .val (.ref b), .unset] [(.ref a)])
      obtain ⟨cl20, Ar20, -, S20, M20, -, -⟩ := id Vl18
      refine Go.by (fun _ gk => X0.arraylength hx (by rw [e0]; exact Ar20.1) (State.isArrayOf_alike hZ.alike Ar20.2.1) (g := (mkF m 1 #[.val (.ref a), .val (.ref b), .unset] [(.ref a)])) rfl rfl (hb hby d10_1) _ gk) ?_
      rw [len_of S20 M20]
      show Go _ _ _ _ s₁ (mkF m 2 #[.val (.ref a), .val (.ref b), .unset] [(.int (1 : Int32))])
      refine Go.by (fun _ gk => XS.aloadN X0.here hx rfl (hb hby d10_2) rfl rfl gk) ?_
      show Go _ _ _ _ s₁ (mkF m 3 #[.val (.ref a), .val (.ref b), .unset] [(.ref b), (.int (1 : Int32))])
      obtain ⟨cl21, Ar21, -, S21, M21, -, -⟩ := id Vl19
      refine Go.by (fun _ gk => X0.arraylength hx (by rw [e0]; exact Ar21.1) (State.isArrayOf_alike hZ.alike Ar21.2.1) (g := (mkF m 3 #[.val (.ref a), .val (.ref b), .unset] [(.ref b), (.int (1 : Int32))])) rfl rfl (hb hby d10_3) _ gk) ?_
      rw [len_of S21 M21]
      show Go _ _ _ _ s₁ (mkF m 4 #[.val (.ref a), .val (.ref b), .unset] [(.int (1 : Int32)), (.int (1 : Int32))])
      refine Go.by (fun _ gk => XS.icmpNo X0.here hx rfl (hb hby d10_4) rfl (XT.ii_ne_f rfl) gk) ?_
      show Go _ _ _ _ s₁ (mkF m 7 #[.val (.ref a), .val (.ref b), .unset] [])
      refine Go.by (fun _ gk => XT.iconstV X0.here hx rfl (0 : Int32) (hb hby d10_7) (by decide) gk) ?_
      show Go _ _ _ _ s₁ (mkF m 8 #[.val (.ref a), .val (.ref b), .unset] [(.int (0 : Int32))])
      refine Go.by (fun _ gk => XS.istoreN X0.here hx rfl (hb hby d10_8) rfl (l' := #[.val (.ref a), .val (.ref b), .val (.int (0 : Int32))]) rfl gk) ?_
      show Go _ _ _ _ s₁ (mkF m 9 #[.val (.ref a), .val (.ref b), .val (.int (0 : Int32))] [])
      refine Go.by (fun _ gk => XS.iloadN X0.here hx rfl (hb hby d10_9) rfl gk) ?_
      show Go _ _ _ _ s₁ (mkF m 10 #[.val (.ref a), .val (.ref b), .val (.int (0 : Int32))] [(.int (0 : Int32))])
      refine Go.by (fun _ gk => XS.aloadN X0.here hx rfl (hb hby d10_10) rfl rfl gk) ?_
      show Go _ _ _ _ s₁ (mkF m 11 #[.val (.ref a), .val (.ref b), .val (.int (0 : Int32))] [(.ref a), (.int (0 : Int32))])
      obtain ⟨cl22, Ar22, -, S22, M22, -, -⟩ := id Vl18
      refine Go.by (fun _ gk => X0.arraylength hx (by rw [e0]; exact Ar22.1) (State.isArrayOf_alike hZ.alike Ar22.2.1) (g := (mkF m 11 #[.val (.ref a), .val (.ref b), .val (.int (0 : Int32))] [(.ref a), (.int (0 : Int32))])) rfl rfl (hb hby d10_11) _ gk) ?_
      rw [len_of S22 M22]
      show Go _ _ _ _ s₁ (mkF m 12 #[.val (.ref a), .val (.ref b), .val (.int (0 : Int32))] [(.int (1 : Int32)), (.int (0 : Int32))])
      refine Go.by (fun _ gk => XS.icmpNo X0.here hx rfl (hb hby d10_12) rfl (XT.ii_ge_f (by decide)) gk) ?_
      show Go _ _ _ _ s₁ (mkF m 15 #[.val (.ref a), .val (.ref b), .val (.int (0 : Int32))] [])
      refine Go.by (fun _ gk => XS.aloadN X0.here hx rfl (hb hby d10_15) rfl rfl gk) ?_
      show Go _ _ _ _ s₁ (mkF m 16 #[.val (.ref a), .val (.ref b), .val (.int (0 : Int32))] [(.ref a)])
      refine Go.by (fun _ gk => XS.iloadN X0.here hx rfl (hb hby d10_16) rfl gk) ?_
      show Go _ _ _ _ s₁ (mkF m 17 #[.val (.ref a), .val (.ref b), .val (.int (0 : Int32))] [(.int (0 : Int32)), (.ref a)])
      obtain ⟨cl23, Ar23, -, S23, M23, H23, -⟩ := id Vl18
      have hin23 : ¬ ((0 : Int32) < 0 ∨ cl23.slots.size ≤ (0 : Int32).toNatClampNeg) := inb_of S23 ⟨by decide, by decide⟩
      refine Go.by (fun _ gk => X0.baloadBytes hx (j := (0 : Int32)) (v := (.int (own_b xa))) (by rw [e0]; exact Ar23.1) (State.isArrayOf_alike hZ.alike Ar23.2.1) Ar23.2.2 hin23 (Has.at H23 hin23 rfl) (g := (mkF m 17 #[.val (.ref a), .val (.ref b), .val (.int (0 : Int32))] [(.int (0 : Int32)), (.ref a)])) rfl rfl (hb hby d10_17) _ gk) ?_
      show Go _ _ _ _ s₁ (mkF m 18 #[.val (.ref a), .val (.ref b), .val (.int (0 : Int32))] [(.int (own_b xa))])
      refine Go.by (fun _ gk => XS.aloadN X0.here hx rfl (hb hby d10_18) rfl rfl gk) ?_
      show Go _ _ _ _ s₁ (mkF m 19 #[.val (.ref a), .val (.ref b), .val (.int (0 : Int32))] [(.ref b), (.int (own_b xa))])
      refine Go.by (fun _ gk => XS.iloadN X0.here hx rfl (hb hby d10_19) rfl gk) ?_
      show Go _ _ _ _ s₁ (mkF m 20 #[.val (.ref a), .val (.ref b), .val (.int (0 : Int32))] [(.int (0 : Int32)), (.ref b), (.int (own_b xa))])
      obtain ⟨cl24, Ar24, -, S24, M24, H24, -⟩ := id Vl19
      have hin24 : ¬ ((0 : Int32) < 0 ∨ cl24.slots.size ≤ (0 : Int32).toNatClampNeg) := inb_of S24 ⟨by decide, by decide⟩
      refine Go.by (fun _ gk => X0.baloadBytes hx (j := (0 : Int32)) (v := (.int (own_b ya))) (by rw [e0]; exact Ar24.1) (State.isArrayOf_alike hZ.alike Ar24.2.1) Ar24.2.2 hin24 (Has.at H24 hin24 rfl) (g := (mkF m 20 #[.val (.ref a), .val (.ref b), .val (.int (0 : Int32))] [(.int (0 : Int32)), (.ref b), (.int (own_b xa))])) rfl rfl (hb hby d10_20) _ gk) ?_
      show Go _ _ _ _ s₁ (mkF m 21 #[.val (.ref a), .val (.ref b), .val (.int (0 : Int32))] [(.int (own_b ya)), (.int (own_b xa))])
      by_cases hb25 : (own_b xa) = (own_b ya)
      · refine Go.by (fun _ gk => XS.icmpYes X0.here hx rfl (pc0 := 21) (pc' := 26) rfl (hb hby d10_21) rfl (XT.ii_eq_t hb25) (by decide) (by decide) gk) ?_
        show Go _ _ _ _ s₁ (mkF m 26 #[.val (.ref a), .val (.ref b), .val (.int (0 : Int32))] [])
        refine Go.by (fun _ gk => XT.iincV X0.here hx rfl (1 : Int32) (hb hby d10_26) (by decide) rfl (l' := #[.val (.ref a), .val (.ref b), .val (.int (1 : Int32))]) rfl gk) ?_
        show Go _ _ _ _ s₁ (mkF m 29 #[.val (.ref a), .val (.ref b), .val (.int (1 : Int32))] [])
        refine Go.by (fun _ gk => XS.goto X0.here hx rfl (pc0 := 29) (pc' := 9) rfl (hb hby d10_29) (by decide) (by decide) gk) ?_
        show Go _ _ _ _ s₁ (mkF m 9 #[.val (.ref a), .val (.ref b), .val (.int (1 : Int32))] [])
        refine Go.by (fun _ gk => XS.iloadN X0.here hx rfl (hb hby d10_9) rfl gk) ?_
        show Go _ _ _ _ s₁ (mkF m 10 #[.val (.ref a), .val (.ref b), .val (.int (1 : Int32))] [(.int (1 : Int32))])
        refine Go.by (fun _ gk => XS.aloadN X0.here hx rfl (hb hby d10_10) rfl rfl gk) ?_
        show Go _ _ _ _ s₁ (mkF m 11 #[.val (.ref a), .val (.ref b), .val (.int (1 : Int32))] [(.ref a), (.int (1 : Int32))])
        obtain ⟨cl26, Ar26, -, S26, M26, -, -⟩ := id Vl18
        refine Go.by (fun _ gk => X0.arraylength hx (by rw [e0]; exact Ar26.1) (State.isArrayOf_alike hZ.alike Ar26.2.1) (g := (mkF m 11 #[.val (.ref a), .val (.ref b), .val (.int (1 : Int32))] [(.ref a), (.int (1 : Int32))])) rfl rfl (hb hby d10_11) _ gk) ?_
        rw [len_of S26 M26]
        show Go _ _ _ _ s₁ (mkF m 12 #[.val (.ref a), .val (.ref b), .val (.int (1 : Int32))] [(.int (1 : Int32)), (.int (1 : Int32))])
        refine Go.by (fun _ gk => XS.icmpYes X0.here hx rfl (pc0 := 12) (pc' := 32) rfl (hb hby d10_12) rfl (XT.ii_ge_t (by decide)) (by decide) (by decide) gk) ?_
        show Go _ _ _ _ s₁ (mkF m 32 #[.val (.ref a), .val (.ref b), .val (.int (1 : Int32))] [])
        refine Go.by (fun _ gk => XT.iconstV X0.here hx rfl (1 : Int32) (hb hby d10_32) (by decide) gk) ?_
        show Go _ _ _ _ s₁ (mkF m 33 #[.val (.ref a), .val (.ref b), .val (.int (1 : Int32))] [(.int (1 : Int32))])
        exact Go.retI X0 hx Bd.notSynchronized Bd.returns rfl (by simp) (hb hby d10_33) (by rw [e0]; exact ⟨(1 : Int32), rfl, N0, rfl, by simp [own_eq, hb25]⟩) (by decide) (by decide)
      · refine Go.by (fun _ gk => XS.icmpNo X0.here hx rfl (hb hby d10_21) rfl (XT.ii_eq_f hb25) gk) ?_
        show Go _ _ _ _ s₁ (mkF m 24 #[.val (.ref a), .val (.ref b), .val (.int (0 : Int32))] [])
        refine Go.by (fun _ gk => XT.iconstV X0.here hx rfl (0 : Int32) (hb hby d10_24) (by decide) gk) ?_
        show Go _ _ _ _ s₁ (mkF m 25 #[.val (.ref a), .val (.ref b), .val (.int (0 : Int32))] [(.int (0 : Int32))])
        exact Go.retI X0 hx Bd.notSynchronized Bd.returns rfl (by simp) (hb hby d10_25) (by rw [e0]; exact ⟨(0 : Int32), rfl, N0, rfl, by simp [own_eq, hb25]⟩) (by decide) (by decide)
    · show Go _ _ _ _ s₁ (mkF m 0 #[.val (.ref a), .val (.ref b), .unset] [])
      show Go _ _ _ _ s₁ (mkF m 0 #[.val (.ref a), .val (.ref b), .unset] [])
      have Vl27 : Arv Z h0 a ka .byte (1 : Int32) [(.int (own_b xa))] (.int (0 : Int32)) := own_str_1 xa xb ▸ V_a
      have Vl28 : Arv Z h0 b kb .byte (2 : Int32) [(.int (own_b ya)), (.int (own_b yb))] (.int (0 : Int32)) := own_str_2 ya yb ▸ V_b
      refine Go.by (fun _ gk => XS.aloadN X0.here hx rfl (hb hby d10_0) rfl rfl gk) ?_
      show Go _ _ _ _ s₁ (mkF m 1 #[.val (.ref a), .val (.ref b), .unset] [(.ref a)])
      obtain ⟨cl29, Ar29, -, S29, M29, -, -⟩ := id Vl27
      refine Go.by (fun _ gk => X0.arraylength hx (by rw [e0]; exact Ar29.1) (State.isArrayOf_alike hZ.alike Ar29.2.1) (g := (mkF m 1 #[.val (.ref a), .val (.ref b), .unset] [(.ref a)])) rfl rfl (hb hby d10_1) _ gk) ?_
      rw [len_of S29 M29]
      show Go _ _ _ _ s₁ (mkF m 2 #[.val (.ref a), .val (.ref b), .unset] [(.int (1 : Int32))])
      refine Go.by (fun _ gk => XS.aloadN X0.here hx rfl (hb hby d10_2) rfl rfl gk) ?_
      show Go _ _ _ _ s₁ (mkF m 3 #[.val (.ref a), .val (.ref b), .unset] [(.ref b), (.int (1 : Int32))])
      obtain ⟨cl30, Ar30, -, S30, M30, -, -⟩ := id Vl28
      refine Go.by (fun _ gk => X0.arraylength hx (by rw [e0]; exact Ar30.1) (State.isArrayOf_alike hZ.alike Ar30.2.1) (g := (mkF m 3 #[.val (.ref a), .val (.ref b), .unset] [(.ref b), (.int (1 : Int32))])) rfl rfl (hb hby d10_3) _ gk) ?_
      rw [len_of S30 M30]
      show Go _ _ _ _ s₁ (mkF m 4 #[.val (.ref a), .val (.ref b), .unset] [(.int (2 : Int32)), (.int (1 : Int32))])
      refine Go.by (fun _ gk => XS.icmpYes X0.here hx rfl (pc0 := 4) (pc' := 34) rfl (hb hby d10_4) rfl (XT.ii_ne_t (by decide)) (by decide) (by decide) gk) ?_
      show Go _ _ _ _ s₁ (mkF m 34 #[.val (.ref a), .val (.ref b), .unset] [])
      refine Go.by (fun _ gk => XT.iconstV X0.here hx rfl (0 : Int32) (hb hby d10_34) (by decide) gk) ?_
      show Go _ _ _ _ s₁ (mkF m 35 #[.val (.ref a), .val (.ref b), .unset] [(.int (0 : Int32))])
      exact Go.retI X0 hx Bd.notSynchronized Bd.returns rfl (by simp) (hb hby d10_35) (by rw [e0]; exact ⟨(0 : Int32), rfl, N0, rfl, by simp [own_eq]⟩) (by decide) (by decide)
  · rcases hn2 with rfl | rfl | rfl
    · show Go _ _ _ _ s₁ (mkF m 0 #[.val (.ref a), .val (.ref b), .unset] [])
      show Go _ _ _ _ s₁ (mkF m 0 #[.val (.ref a), .val (.ref b), .unset] [])
      have Vl31 : Arv Z h0 a ka .byte (2 : Int32) [(.int (own_b xa)), (.int (own_b xb))] (.int (0 : Int32)) := own_str_2 xa xb ▸ V_a
      have Vl32 : Arv Z h0 b kb .byte (0 : Int32) [] (.int (0 : Int32)) := own_str_0 ya yb ▸ V_b
      refine Go.by (fun _ gk => XS.aloadN X0.here hx rfl (hb hby d10_0) rfl rfl gk) ?_
      show Go _ _ _ _ s₁ (mkF m 1 #[.val (.ref a), .val (.ref b), .unset] [(.ref a)])
      obtain ⟨cl33, Ar33, -, S33, M33, -, -⟩ := id Vl31
      refine Go.by (fun _ gk => X0.arraylength hx (by rw [e0]; exact Ar33.1) (State.isArrayOf_alike hZ.alike Ar33.2.1) (g := (mkF m 1 #[.val (.ref a), .val (.ref b), .unset] [(.ref a)])) rfl rfl (hb hby d10_1) _ gk) ?_
      rw [len_of S33 M33]
      show Go _ _ _ _ s₁ (mkF m 2 #[.val (.ref a), .val (.ref b), .unset] [(.int (2 : Int32))])
      refine Go.by (fun _ gk => XS.aloadN X0.here hx rfl (hb hby d10_2) rfl rfl gk) ?_
      show Go _ _ _ _ s₁ (mkF m 3 #[.val (.ref a), .val (.ref b), .unset] [(.ref b), (.int (2 : Int32))])
      obtain ⟨cl34, Ar34, -, S34, M34, -, -⟩ := id Vl32
      refine Go.by (fun _ gk => X0.arraylength hx (by rw [e0]; exact Ar34.1) (State.isArrayOf_alike hZ.alike Ar34.2.1) (g := (mkF m 3 #[.val (.ref a), .val (.ref b), .unset] [(.ref b), (.int (2 : Int32))])) rfl rfl (hb hby d10_3) _ gk) ?_
      rw [len_of S34 M34]
      show Go _ _ _ _ s₁ (mkF m 4 #[.val (.ref a), .val (.ref b), .unset] [(.int (0 : Int32)), (.int (2 : Int32))])
      refine Go.by (fun _ gk => XS.icmpYes X0.here hx rfl (pc0 := 4) (pc' := 34) rfl (hb hby d10_4) rfl (XT.ii_ne_t (by decide)) (by decide) (by decide) gk) ?_
      show Go _ _ _ _ s₁ (mkF m 34 #[.val (.ref a), .val (.ref b), .unset] [])
      refine Go.by (fun _ gk => XT.iconstV X0.here hx rfl (0 : Int32) (hb hby d10_34) (by decide) gk) ?_
      show Go _ _ _ _ s₁ (mkF m 35 #[.val (.ref a), .val (.ref b), .unset] [(.int (0 : Int32))])
      exact Go.retI X0 hx Bd.notSynchronized Bd.returns rfl (by simp) (hb hby d10_35) (by rw [e0]; exact ⟨(0 : Int32), rfl, N0, rfl, by simp [own_eq]⟩) (by decide) (by decide)
    · show Go _ _ _ _ s₁ (mkF m 0 #[.val (.ref a), .val (.ref b), .unset] [])
      show Go _ _ _ _ s₁ (mkF m 0 #[.val (.ref a), .val (.ref b), .unset] [])
      have Vl35 : Arv Z h0 a ka .byte (2 : Int32) [(.int (own_b xa)), (.int (own_b xb))] (.int (0 : Int32)) := own_str_2 xa xb ▸ V_a
      have Vl36 : Arv Z h0 b kb .byte (1 : Int32) [(.int (own_b ya))] (.int (0 : Int32)) := own_str_1 ya yb ▸ V_b
      refine Go.by (fun _ gk => XS.aloadN X0.here hx rfl (hb hby d10_0) rfl rfl gk) ?_
      show Go _ _ _ _ s₁ (mkF m 1 #[.val (.ref a), .val (.ref b), .unset] [(.ref a)])
      obtain ⟨cl37, Ar37, -, S37, M37, -, -⟩ := id Vl35
      refine Go.by (fun _ gk => X0.arraylength hx (by rw [e0]; exact Ar37.1) (State.isArrayOf_alike hZ.alike Ar37.2.1) (g := (mkF m 1 #[.val (.ref a), .val (.ref b), .unset] [(.ref a)])) rfl rfl (hb hby d10_1) _ gk) ?_
      rw [len_of S37 M37]
      show Go _ _ _ _ s₁ (mkF m 2 #[.val (.ref a), .val (.ref b), .unset] [(.int (2 : Int32))])
      refine Go.by (fun _ gk => XS.aloadN X0.here hx rfl (hb hby d10_2) rfl rfl gk) ?_
      show Go _ _ _ _ s₁ (mkF m 3 #[.val (.ref a), .val (.ref b), .unset] [(.ref b), (.int (2 : Int32))])
      obtain ⟨cl38, Ar38, -, S38, M38, -, -⟩ := id Vl36
      refine Go.by (fun _ gk => X0.arraylength hx (by rw [e0]; exact Ar38.1) (State.isArrayOf_alike hZ.alike Ar38.2.1) (g := (mkF m 3 #[.val (.ref a), .val (.ref b), .unset] [(.ref b), (.int (2 : Int32))])) rfl rfl (hb hby d10_3) _ gk) ?_
      rw [len_of S38 M38]
      show Go _ _ _ _ s₁ (mkF m 4 #[.val (.ref a), .val (.ref b), .unset] [(.int (1 : Int32)), (.int (2 : Int32))])
      refine Go.by (fun _ gk => XS.icmpYes X0.here hx rfl (pc0 := 4) (pc' := 34) rfl (hb hby d10_4) rfl (XT.ii_ne_t (by decide)) (by decide) (by decide) gk) ?_
      show Go _ _ _ _ s₁ (mkF m 34 #[.val (.ref a), .val (.ref b), .unset] [])
      refine Go.by (fun _ gk => XT.iconstV X0.here hx rfl (0 : Int32) (hb hby d10_34) (by decide) gk) ?_
      show Go _ _ _ _ s₁ (mkF m 35 #[.val (.ref a), .val (.ref b), .unset] [(.int (0 : Int32))])
      exact Go.retI X0 hx Bd.notSynchronized Bd.returns rfl (by simp) (hb hby d10_35) (by rw [e0]; exact ⟨(0 : Int32), rfl, N0, rfl, by simp [own_eq]⟩) (by decide) (by decide)
    · show Go _ _ _ _ s₁ (mkF m 0 #[.val (.ref a), .val (.ref b), .unset] [])
      show Go _ _ _ _ s₁ (mkF m 0 #[.val (.ref a), .val (.ref b), .unset] [])
      have Vl39 : Arv Z h0 a ka .byte (2 : Int32) [(.int (own_b xa)), (.int (own_b xb))] (.int (0 : Int32)) := own_str_2 xa xb ▸ V_a
      have Vl40 : Arv Z h0 b kb .byte (2 : Int32) [(.int (own_b ya)), (.int (own_b yb))] (.int (0 : Int32)) := own_str_2 ya yb ▸ V_b
      refine Go.by (fun _ gk => XS.aloadN X0.here hx rfl (hb hby d10_0) rfl rfl gk) ?_
      show Go _ _ _ _ s₁ (mkF m 1 #[.val (.ref a), .val (.ref b), .unset] [(.ref a)])
      obtain ⟨cl41, Ar41, -, S41, M41, -, -⟩ := id Vl39
      refine Go.by (fun _ gk => X0.arraylength hx (by rw [e0]; exact Ar41.1) (State.isArrayOf_alike hZ.alike Ar41.2.1) (g := (mkF m 1 #[.val (.ref a), .val (.ref b), .unset] [(.ref a)])) rfl rfl (hb hby d10_1) _ gk) ?_
      rw [len_of S41 M41]
      show Go _ _ _ _ s₁ (mkF m 2 #[.val (.ref a), .val (.ref b), .unset] [(.int (2 : Int32))])
      refine Go.by (fun _ gk => XS.aloadN X0.here hx rfl (hb hby d10_2) rfl rfl gk) ?_
      show Go _ _ _ _ s₁ (mkF m 3 #[.val (.ref a), .val (.ref b), .unset] [(.ref b), (.int (2 : Int32))])
      obtain ⟨cl42, Ar42, -, S42, M42, -, -⟩ := id Vl40
      refine Go.by (fun _ gk => X0.arraylength hx (by rw [e0]; exact Ar42.1) (State.isArrayOf_alike hZ.alike Ar42.2.1) (g := (mkF m 3 #[.val (.ref a), .val (.ref b), .unset] [(.ref b), (.int (2 : Int32))])) rfl rfl (hb hby d10_3) _ gk) ?_
      rw [len_of S42 M42]
      show Go _ _ _ _ s₁ (mkF m 4 #[.val (.ref a), .val (.ref b), .unset] [(.int (2 : Int32)), (.int (2 : Int32))])
      refine Go.by (fun _ gk => XS.icmpNo X0.here hx rfl (hb hby d10_4) rfl (XT.ii_ne_f rfl) gk) ?_
      show Go _ _ _ _ s₁ (mkF m 7 #[.val (.ref a), .val (.ref b), .unset] [])
      refine Go.by (fun _ gk => XT.iconstV X0.here hx rfl (0 : Int32) (hb hby d10_7) (by decide) gk) ?_
      show Go _ _ _ _ s₁ (mkF m 8 #[.val (.ref a), .val (.ref b), .unset] [(.int (0 : Int32))])
      refine Go.by (fun _ gk => XS.istoreN X0.here hx rfl (hb hby d10_8) rfl (l' := #[.val (.ref a), .val (.ref b), .val (.int (0 : Int32))]) rfl gk) ?_
      show Go _ _ _ _ s₁ (mkF m 9 #[.val (.ref a), .val (.ref b), .val (.int (0 : Int32))] [])
      refine Go.by (fun _ gk => XS.iloadN X0.here hx rfl (hb hby d10_9) rfl gk) ?_
      show Go _ _ _ _ s₁ (mkF m 10 #[.val (.ref a), .val (.ref b), .val (.int (0 : Int32))] [(.int (0 : Int32))])
      refine Go.by (fun _ gk => XS.aloadN X0.here hx rfl (hb hby d10_10) rfl rfl gk) ?_
      show Go _ _ _ _ s₁ (mkF m 11 #[.val (.ref a), .val (.ref b), .val (.int (0 : Int32))] [(.ref a), (.int (0 : Int32))])
      obtain ⟨cl43, Ar43, -, S43, M43, -, -⟩ := id Vl39
      refine Go.by (fun _ gk => X0.arraylength hx (by rw [e0]; exact Ar43.1) (State.isArrayOf_alike hZ.alike Ar43.2.1) (g := (mkF m 11 #[.val (.ref a), .val (.ref b), .val (.int (0 : Int32))] [(.ref a), (.int (0 : Int32))])) rfl rfl (hb hby d10_11) _ gk) ?_
      rw [len_of S43 M43]
      show Go _ _ _ _ s₁ (mkF m 12 #[.val (.ref a), .val (.ref b), .val (.int (0 : Int32))] [(.int (2 : Int32)), (.int (0 : Int32))])
      refine Go.by (fun _ gk => XS.icmpNo X0.here hx rfl (hb hby d10_12) rfl (XT.ii_ge_f (by decide)) gk) ?_
      show Go _ _ _ _ s₁ (mkF m 15 #[.val (.ref a), .val (.ref b), .val (.int (0 : Int32))] [])
      refine Go.by (fun _ gk => XS.aloadN X0.here hx rfl (hb hby d10_15) rfl rfl gk) ?_
      show Go _ _ _ _ s₁ (mkF m 16 #[.val (.ref a), .val (.ref b), .val (.int (0 : Int32))] [(.ref a)])
      refine Go.by (fun _ gk => XS.iloadN X0.here hx rfl (hb hby d10_16) rfl gk) ?_
      show Go _ _ _ _ s₁ (mkF m 17 #[.val (.ref a), .val (.ref b), .val (.int (0 : Int32))] [(.int (0 : Int32)), (.ref a)])
      obtain ⟨cl44, Ar44, -, S44, M44, H44, -⟩ := id Vl39
      have hin44 : ¬ ((0 : Int32) < 0 ∨ cl44.slots.size ≤ (0 : Int32).toNatClampNeg) := inb_of S44 ⟨by decide, by decide⟩
      refine Go.by (fun _ gk => X0.baloadBytes hx (j := (0 : Int32)) (v := (.int (own_b xa))) (by rw [e0]; exact Ar44.1) (State.isArrayOf_alike hZ.alike Ar44.2.1) Ar44.2.2 hin44 (Has.at H44 hin44 rfl) (g := (mkF m 17 #[.val (.ref a), .val (.ref b), .val (.int (0 : Int32))] [(.int (0 : Int32)), (.ref a)])) rfl rfl (hb hby d10_17) _ gk) ?_
      show Go _ _ _ _ s₁ (mkF m 18 #[.val (.ref a), .val (.ref b), .val (.int (0 : Int32))] [(.int (own_b xa))])
      refine Go.by (fun _ gk => XS.aloadN X0.here hx rfl (hb hby d10_18) rfl rfl gk) ?_
      show Go _ _ _ _ s₁ (mkF m 19 #[.val (.ref a), .val (.ref b), .val (.int (0 : Int32))] [(.ref b), (.int (own_b xa))])
      refine Go.by (fun _ gk => XS.iloadN X0.here hx rfl (hb hby d10_19) rfl gk) ?_
      show Go _ _ _ _ s₁ (mkF m 20 #[.val (.ref a), .val (.ref b), .val (.int (0 : Int32))] [(.int (0 : Int32)), (.ref b), (.int (own_b xa))])
      obtain ⟨cl45, Ar45, -, S45, M45, H45, -⟩ := id Vl40
      have hin45 : ¬ ((0 : Int32) < 0 ∨ cl45.slots.size ≤ (0 : Int32).toNatClampNeg) := inb_of S45 ⟨by decide, by decide⟩
      refine Go.by (fun _ gk => X0.baloadBytes hx (j := (0 : Int32)) (v := (.int (own_b ya))) (by rw [e0]; exact Ar45.1) (State.isArrayOf_alike hZ.alike Ar45.2.1) Ar45.2.2 hin45 (Has.at H45 hin45 rfl) (g := (mkF m 20 #[.val (.ref a), .val (.ref b), .val (.int (0 : Int32))] [(.int (0 : Int32)), (.ref b), (.int (own_b xa))])) rfl rfl (hb hby d10_20) _ gk) ?_
      show Go _ _ _ _ s₁ (mkF m 21 #[.val (.ref a), .val (.ref b), .val (.int (0 : Int32))] [(.int (own_b ya)), (.int (own_b xa))])
      by_cases hb46 : (own_b xa) = (own_b ya)
      · refine Go.by (fun _ gk => XS.icmpYes X0.here hx rfl (pc0 := 21) (pc' := 26) rfl (hb hby d10_21) rfl (XT.ii_eq_t hb46) (by decide) (by decide) gk) ?_
        show Go _ _ _ _ s₁ (mkF m 26 #[.val (.ref a), .val (.ref b), .val (.int (0 : Int32))] [])
        refine Go.by (fun _ gk => XT.iincV X0.here hx rfl (1 : Int32) (hb hby d10_26) (by decide) rfl (l' := #[.val (.ref a), .val (.ref b), .val (.int (1 : Int32))]) rfl gk) ?_
        show Go _ _ _ _ s₁ (mkF m 29 #[.val (.ref a), .val (.ref b), .val (.int (1 : Int32))] [])
        refine Go.by (fun _ gk => XS.goto X0.here hx rfl (pc0 := 29) (pc' := 9) rfl (hb hby d10_29) (by decide) (by decide) gk) ?_
        show Go _ _ _ _ s₁ (mkF m 9 #[.val (.ref a), .val (.ref b), .val (.int (1 : Int32))] [])
        refine Go.by (fun _ gk => XS.iloadN X0.here hx rfl (hb hby d10_9) rfl gk) ?_
        show Go _ _ _ _ s₁ (mkF m 10 #[.val (.ref a), .val (.ref b), .val (.int (1 : Int32))] [(.int (1 : Int32))])
        refine Go.by (fun _ gk => XS.aloadN X0.here hx rfl (hb hby d10_10) rfl rfl gk) ?_
        show Go _ _ _ _ s₁ (mkF m 11 #[.val (.ref a), .val (.ref b), .val (.int (1 : Int32))] [(.ref a), (.int (1 : Int32))])
        obtain ⟨cl47, Ar47, -, S47, M47, -, -⟩ := id Vl39
        refine Go.by (fun _ gk => X0.arraylength hx (by rw [e0]; exact Ar47.1) (State.isArrayOf_alike hZ.alike Ar47.2.1) (g := (mkF m 11 #[.val (.ref a), .val (.ref b), .val (.int (1 : Int32))] [(.ref a), (.int (1 : Int32))])) rfl rfl (hb hby d10_11) _ gk) ?_
        rw [len_of S47 M47]
        show Go _ _ _ _ s₁ (mkF m 12 #[.val (.ref a), .val (.ref b), .val (.int (1 : Int32))] [(.int (2 : Int32)), (.int (1 : Int32))])
        refine Go.by (fun _ gk => XS.icmpNo X0.here hx rfl (hb hby d10_12) rfl (XT.ii_ge_f (by decide)) gk) ?_
        show Go _ _ _ _ s₁ (mkF m 15 #[.val (.ref a), .val (.ref b), .val (.int (1 : Int32))] [])
        refine Go.by (fun _ gk => XS.aloadN X0.here hx rfl (hb hby d10_15) rfl rfl gk) ?_
        show Go _ _ _ _ s₁ (mkF m 16 #[.val (.ref a), .val (.ref b), .val (.int (1 : Int32))] [(.ref a)])
        refine Go.by (fun _ gk => XS.iloadN X0.here hx rfl (hb hby d10_16) rfl gk) ?_
        show Go _ _ _ _ s₁ (mkF m 17 #[.val (.ref a), .val (.ref b), .val (.int (1 : Int32))] [(.int (1 : Int32)), (.ref a)])
        obtain ⟨cl48, Ar48, -, S48, M48, H48, -⟩ := id Vl39
        have hin48 : ¬ ((1 : Int32) < 0 ∨ cl48.slots.size ≤ (1 : Int32).toNatClampNeg) := inb_of S48 ⟨by decide, by decide⟩
        refine Go.by (fun _ gk => X0.baloadBytes hx (j := (1 : Int32)) (v := (.int (own_b xb))) (by rw [e0]; exact Ar48.1) (State.isArrayOf_alike hZ.alike Ar48.2.1) Ar48.2.2 hin48 (Has.at H48 hin48 rfl) (g := (mkF m 17 #[.val (.ref a), .val (.ref b), .val (.int (1 : Int32))] [(.int (1 : Int32)), (.ref a)])) rfl rfl (hb hby d10_17) _ gk) ?_
        show Go _ _ _ _ s₁ (mkF m 18 #[.val (.ref a), .val (.ref b), .val (.int (1 : Int32))] [(.int (own_b xb))])
        refine Go.by (fun _ gk => XS.aloadN X0.here hx rfl (hb hby d10_18) rfl rfl gk) ?_
        show Go _ _ _ _ s₁ (mkF m 19 #[.val (.ref a), .val (.ref b), .val (.int (1 : Int32))] [(.ref b), (.int (own_b xb))])
        refine Go.by (fun _ gk => XS.iloadN X0.here hx rfl (hb hby d10_19) rfl gk) ?_
        show Go _ _ _ _ s₁ (mkF m 20 #[.val (.ref a), .val (.ref b), .val (.int (1 : Int32))] [(.int (1 : Int32)), (.ref b), (.int (own_b xb))])
        obtain ⟨cl49, Ar49, -, S49, M49, H49, -⟩ := id Vl40
        have hin49 : ¬ ((1 : Int32) < 0 ∨ cl49.slots.size ≤ (1 : Int32).toNatClampNeg) := inb_of S49 ⟨by decide, by decide⟩
        refine Go.by (fun _ gk => X0.baloadBytes hx (j := (1 : Int32)) (v := (.int (own_b yb))) (by rw [e0]; exact Ar49.1) (State.isArrayOf_alike hZ.alike Ar49.2.1) Ar49.2.2 hin49 (Has.at H49 hin49 rfl) (g := (mkF m 20 #[.val (.ref a), .val (.ref b), .val (.int (1 : Int32))] [(.int (1 : Int32)), (.ref b), (.int (own_b xb))])) rfl rfl (hb hby d10_20) _ gk) ?_
        show Go _ _ _ _ s₁ (mkF m 21 #[.val (.ref a), .val (.ref b), .val (.int (1 : Int32))] [(.int (own_b yb)), (.int (own_b xb))])
        by_cases hb50 : (own_b xb) = (own_b yb)
        · refine Go.by (fun _ gk => XS.icmpYes X0.here hx rfl (pc0 := 21) (pc' := 26) rfl (hb hby d10_21) rfl (XT.ii_eq_t hb50) (by decide) (by decide) gk) ?_
          show Go _ _ _ _ s₁ (mkF m 26 #[.val (.ref a), .val (.ref b), .val (.int (1 : Int32))] [])
          refine Go.by (fun _ gk => XT.iincV X0.here hx rfl (1 : Int32) (hb hby d10_26) (by decide) rfl (l' := #[.val (.ref a), .val (.ref b), .val (.int (2 : Int32))]) rfl gk) ?_
          show Go _ _ _ _ s₁ (mkF m 29 #[.val (.ref a), .val (.ref b), .val (.int (2 : Int32))] [])
          refine Go.by (fun _ gk => XS.goto X0.here hx rfl (pc0 := 29) (pc' := 9) rfl (hb hby d10_29) (by decide) (by decide) gk) ?_
          show Go _ _ _ _ s₁ (mkF m 9 #[.val (.ref a), .val (.ref b), .val (.int (2 : Int32))] [])
          refine Go.by (fun _ gk => XS.iloadN X0.here hx rfl (hb hby d10_9) rfl gk) ?_
          show Go _ _ _ _ s₁ (mkF m 10 #[.val (.ref a), .val (.ref b), .val (.int (2 : Int32))] [(.int (2 : Int32))])
          refine Go.by (fun _ gk => XS.aloadN X0.here hx rfl (hb hby d10_10) rfl rfl gk) ?_
          show Go _ _ _ _ s₁ (mkF m 11 #[.val (.ref a), .val (.ref b), .val (.int (2 : Int32))] [(.ref a), (.int (2 : Int32))])
          obtain ⟨cl51, Ar51, -, S51, M51, -, -⟩ := id Vl39
          refine Go.by (fun _ gk => X0.arraylength hx (by rw [e0]; exact Ar51.1) (State.isArrayOf_alike hZ.alike Ar51.2.1) (g := (mkF m 11 #[.val (.ref a), .val (.ref b), .val (.int (2 : Int32))] [(.ref a), (.int (2 : Int32))])) rfl rfl (hb hby d10_11) _ gk) ?_
          rw [len_of S51 M51]
          show Go _ _ _ _ s₁ (mkF m 12 #[.val (.ref a), .val (.ref b), .val (.int (2 : Int32))] [(.int (2 : Int32)), (.int (2 : Int32))])
          refine Go.by (fun _ gk => XS.icmpYes X0.here hx rfl (pc0 := 12) (pc' := 32) rfl (hb hby d10_12) rfl (XT.ii_ge_t (by decide)) (by decide) (by decide) gk) ?_
          show Go _ _ _ _ s₁ (mkF m 32 #[.val (.ref a), .val (.ref b), .val (.int (2 : Int32))] [])
          refine Go.by (fun _ gk => XT.iconstV X0.here hx rfl (1 : Int32) (hb hby d10_32) (by decide) gk) ?_
          show Go _ _ _ _ s₁ (mkF m 33 #[.val (.ref a), .val (.ref b), .val (.int (2 : Int32))] [(.int (1 : Int32))])
          exact Go.retI X0 hx Bd.notSynchronized Bd.returns rfl (by simp) (hb hby d10_33) (by rw [e0]; exact ⟨(1 : Int32), rfl, N0, rfl, by simp [own_eq, hb46, hb50]⟩) (by decide) (by decide)
        · refine Go.by (fun _ gk => XS.icmpNo X0.here hx rfl (hb hby d10_21) rfl (XT.ii_eq_f hb50) gk) ?_
          show Go _ _ _ _ s₁ (mkF m 24 #[.val (.ref a), .val (.ref b), .val (.int (1 : Int32))] [])
          refine Go.by (fun _ gk => XT.iconstV X0.here hx rfl (0 : Int32) (hb hby d10_24) (by decide) gk) ?_
          show Go _ _ _ _ s₁ (mkF m 25 #[.val (.ref a), .val (.ref b), .val (.int (1 : Int32))] [(.int (0 : Int32))])
          exact Go.retI X0 hx Bd.notSynchronized Bd.returns rfl (by simp) (hb hby d10_25) (by rw [e0]; exact ⟨(0 : Int32), rfl, N0, rfl, by simp [own_eq, hb46, hb50]⟩) (by decide) (by decide)
      · refine Go.by (fun _ gk => XS.icmpNo X0.here hx rfl (hb hby d10_21) rfl (XT.ii_eq_f hb46) gk) ?_
        show Go _ _ _ _ s₁ (mkF m 24 #[.val (.ref a), .val (.ref b), .val (.int (0 : Int32))] [])
        refine Go.by (fun _ gk => XT.iconstV X0.here hx rfl (0 : Int32) (hb hby d10_24) (by decide) gk) ?_
        show Go _ _ _ _ s₁ (mkF m 25 #[.val (.ref a), .val (.ref b), .val (.int (0 : Int32))] [(.int (0 : Int32))])
        exact Go.retI X0 hx Bd.notSynchronized Bd.returns rfl (by simp) (hb hby d10_25) (by rw [e0]; exact ⟨(0 : Int32), rfl, N0, rfl, by simp [own_eq, hb46]⟩) (by decide) (by decide)
theorem d9_0 : decode jdk_42_method_66_code 0 = .ok (.aload_n 0, 1) := by decide +kernel
theorem d9_1 : decode jdk_42_method_66_code 1 = .ok (.aload_n 1, 1) := by decide +kernel
theorem d9_2 : decode jdk_42_method_66_code 2 = .ok (.if_acmp .ne 5, 3) := by decide +kernel
theorem d9_7 : decode jdk_42_method_66_code 7 = .ok (.aload_n 1, 1) := by decide +kernel
theorem d9_8 : decode jdk_42_method_66_code 8 = .ok (.instanceof 10, 3) := by decide +kernel
theorem d9_11 : decode jdk_42_method_66_code 11 = .ok (.ifCond .eq 43, 3) := by decide +kernel
theorem d9_14 : decode jdk_42_method_66_code 14 = .ok (.aload_n 1, 1) := by decide +kernel
theorem d9_15 : decode jdk_42_method_66_code 15 = .ok (.checkcast 10, 3) := by decide +kernel
theorem d9_18 : decode jdk_42_method_66_code 18 = .ok (.astore_n 2, 1) := by decide +kernel
theorem d9_19 : decode jdk_42_method_66_code 19 = .ok (.getstatic 38, 3) := by decide +kernel
theorem d9_22 : decode jdk_42_method_66_code 22 = .ok (.ifCond .eq 14, 3) := by decide +kernel
theorem d9_25 : decode jdk_42_method_66_code 25 = .ok (.aload_n 0, 1) := by decide +kernel
theorem d9_26 : decode jdk_42_method_66_code 26 = .ok (.getfield 15, 3) := by decide +kernel
theorem d9_29 : decode jdk_42_method_66_code 29 = .ok (.aload_n 2, 1) := by decide +kernel
theorem d9_30 : decode jdk_42_method_66_code 30 = .ok (.getfield 15, 3) := by decide +kernel
theorem d9_33 : decode jdk_42_method_66_code 33 = .ok (.if_icmp .ne 21, 3) := by decide +kernel
theorem d9_36 : decode jdk_42_method_66_code 36 = .ok (.aload_n 0, 1) := by decide +kernel
theorem d9_37 : decode jdk_42_method_66_code 37 = .ok (.getfield 9, 3) := by decide +kernel
theorem d9_40 : decode jdk_42_method_66_code 40 = .ok (.aload_n 2, 1) := by decide +kernel
theorem d9_41 : decode jdk_42_method_66_code 41 = .ok (.getfield 9, 3) := by decide +kernel
theorem pd_182 : parseMethodDescriptor "([B[B)Z" = some ⟨[(.array .byte), (.array .byte)], some .boolean⟩ := by decide +kernel
theorem d9_44 : decode jdk_42_method_66_code 44 = .ok (.invokestatic 541, 3) := by decide +kernel
theorem d9_47 : decode jdk_42_method_66_code 47 = .ok (.ifCond .eq 7, 3) := by decide +kernel
theorem d9_50 : decode jdk_42_method_66_code 50 = .ok (.iconst 1, 1) := by decide +kernel
theorem d9_51 : decode jdk_42_method_66_code 51 = .ok (.goto 4, 3) := by decide +kernel
theorem d9_55 : decode jdk_42_method_66_code 55 = .ok (.ireturn, 1) := by decide +kernel
theorem d9_54 : decode jdk_42_method_66_code 54 = .ok (.iconst 0, 1) := by decide +kernel
def Q_rmSeq (Z : State) (a : Addr) (b : Addr) (av : Addr) (bv : Addr) (ka : ClassId) (kb : ClassId) (n : Int32) (xa : Int32) (xb : Int32) (n2 : Int32) (ya : Int32) (yb : Int32) (cs : Int32) (h0 : Heap) (n0 : Nat) (v : Option Value) (h : Heap) (L : List Loc) : Prop := ∃ r : Int32, v = some (.int r) ∧ Fr n0 L ∧ h = h0 ∧ ((r = 1 ∧ own_eq n xa xb n2 ya yb) ∨ (r = 0 ∧ ¬ own_eq n xa xb n2 ya yb))
set_option maxRecDepth 65536 in
set_option maxHeartbeats 40000000 in
theorem rmSeq (l : Launch) (Z : State) (a0 : Array Value) (hw : ∀ d ∈ tables_1, d.before a0 Z = true) (ws : List Jvm.Cond) (a : Addr) (b : Addr) (av : Addr) (bv : Addr) (ka : ClassId) (kb : ClassId) (n : Int32) (xa : Int32) (xb : Int32) (n2 : Int32) (ya : Int32) (yb : Int32) (cs : Int32) (h0 : Heap) (n0 : Nat) (Z0 : n0 ≤ h0.size) (O0 : Old Z n0 h0) (E_a : Exa Z h0 a "java/lang/String") (F_a_coder : Fld Z h0 a "java/lang/String" "coder" "B" (.int (0 : Int32))) (F_a_value : Fld Z h0 a "java/lang/String" "value" "[B" (.ref av)) (V_av : Arv Z h0 av ka .byte n (own_str n xa xb) (.int (0 : Int32))) (E_b : Exa Z h0 b "java/lang/String") (F_b_coder : Fld Z h0 b "java/lang/String" "coder" "B" (.int (0 : Int32))) (F_b_value : Fld Z h0 b "java/lang/String" "value" "[B" (.ref bv)) (V_bv : Arv Z h0 bv kb .byte n2 (own_str n2 ya yb) (.int (0 : Int32))) (hn1 : (n = 0 ∨ n = 1 ∨ n = 2)) (hn2 : (n2 = 0 ∨ n2 = 1 ∨ n2 = 2)) (ne_a_b : a ≠ b) (S_cs : Sta Z Z.heap "java/lang/String" "COMPACT_STRINGS" "Z" (.int cs)) (n_cs : ¬ cs = 0) :
    MetFree l (⟨"java/lang/String", "equals", "(Ljava/lang/Object;)Z"⟩ : MethodName) (head1 (Jvm.Cond.code (⟨"java/lang/String", "equals", "(Ljava/lang/Object;)Z"⟩ : MethodName) jdk_42_method_66_code 3 (some .boolean) :: ws) ({ frames := 1, cells := 0, slots := 0, locals := 14 } : Room)) (fun as' U => as' = #[(.ref a), (.ref b)] ∧ Z.Warmed39 U.vm ∧ U.heap = h0) (fun _ _ _ _ _ => True) (fun _ U o U' => ∃ v L, o = .returned v ∧ Q_rmSeq Z a b av bv ka kb n xa xb n2 ya yb cs h0 n0 v U'.heap L ∧ FrameEnd U o U' L ({ frames := 1, cells := 0, slots := 0, locals := 14 } : Room).cells ({ frames := 1, cells := 0, slots := 0, locals := 14 } : Room).slots) := by
  refine MetFree.of_bodySF (plainFor_of_name pn_4) hisR ?_
  intro p e s m args below meth c s₁ Bd hml0 hP hK
  obtain ⟨rfl, hZ, hh⟩ := hP
  have hx := Bd.exec
  have hby := Bd.bytes
  have hml : c.maxLocals = 3 := hml0
  have hown : s.vm.findClass "java/lang/String" = some m.cls := findClass_of_methodNamed Bd.named
  have hnm := (name_of_methodNamed Bd.named Bd.method).1
  have X0 : Stand p l e ({ frames := 1, cells := 0, slots := 0, locals := 14 } : Room) s m #[(.ref a), (.ref b)] below meth c s₁ [] 0 0 := Stand.of_body Bd
  have e0 : s₁.heap = h0 := by rw [← hh, Bd.state]; rfl
  have N0 := Fr.nil n0
  refine Go.enter (F := EndN s (Q_rmSeq Z a b av bv ka kb n xa xb n2 ya yb cs h0 n0) ({ frames := 1, cells := 0, slots := 0, locals := 14 } : Room).cells ({ frames := 1, cells := 0, slots := 0, locals := 14 } : Room).slots) (ef_135 m a b) ?_
  show Go _ _ _ _ s₁ (mkF m 0 #[.val (.ref a), .val (.ref b), .unset] [])
  refine Go.by (fun _ gk => XS.aloadN X0.here hx rfl (hb hby d9_0) rfl rfl gk) ?_
  show Go _ _ _ _ s₁ (mkF m 1 #[.val (.ref a), .val (.ref b), .unset] [(.ref a)])
  refine Go.by (fun _ gk => XS.aloadN X0.here hx rfl (hb hby d9_1) rfl rfl gk) ?_
  show Go _ _ _ _ s₁ (mkF m 2 #[.val (.ref a), .val (.ref b), .unset] [(.ref b), (.ref a)])
  refine Go.by (fun _ gk => XT.acmpYes X0.here hx rfl (pc0 := 2) (pc' := 7) rfl (hb hby d9_2) rfl rfl rfl (XT.aa_ne_t (fun q => ne_a_b (Value.ref.inj q))) (by decide) (by decide) gk) ?_
  show Go _ _ _ _ s₁ (mkF m 7 #[.val (.ref a), .val (.ref b), .unset] [])
  refine Go.by (fun _ gk => XS.aloadN X0.here hx rfl (hb hby d9_7) rfl rfl gk) ?_
  show Go _ _ _ _ s₁ (mkF m 8 #[.val (.ref a), .val (.ref b), .unset] [(.ref b)])
  obtain ⟨T1, X1, e1, st1⟩ := instY X0 hx hZ hown (hw _ (List.mem_of_getElem? (i := 52) rfl)) e0 (Ins.self E_b) (g := (mkF m 8 #[.val (.ref a), .val (.ref b), .unset] [(.ref b)])) rfl rfl (hb hby d9_8)
  refine Go.by st1 ?_
  show Go _ _ _ _ T1 (mkF m 11 #[.val (.ref a), .val (.ref b), .unset] [(.int (1 : Int32))])
  refine Go.by (fun _ gk => XS.ifNo X1.here hx rfl (hb hby d9_11) rfl (XT.i0_eq_f (by decide)) gk) ?_
  show Go _ _ _ _ T1 (mkF m 14 #[.val (.ref a), .val (.ref b), .unset] [])
  refine Go.by (fun _ gk => XS.aloadN X1.here hx rfl (hb hby d9_14) rfl rfl gk) ?_
  show Go _ _ _ _ T1 (mkF m 15 #[.val (.ref a), .val (.ref b), .unset] [(.ref b)])
  obtain ⟨T2, X2, e2, st2⟩ := castY X1 hx hZ hown (hw _ (List.mem_of_getElem? (i := 52) rfl)) e1 (Ins.self E_b) (g := (mkF m 15 #[.val (.ref a), .val (.ref b), .unset] [(.ref b)])) rfl rfl (hb hby d9_15)
  refine Go.by st2 ?_
  show Go _ _ _ _ T2 (mkF m 18 #[.val (.ref a), .val (.ref b), .unset] [(.ref b)])
  refine Go.by (fun _ gk => XS.astoreN X2.here hx rfl (hb hby d9_18) rfl rfl (l' := #[.val (.ref a), .val (.ref b), .val (.ref b)]) rfl gk) ?_
  show Go _ _ _ _ T2 (mkF m 19 #[.val (.ref a), .val (.ref b), .val (.ref b)] [])
  have F3 : Sta Z h0 "java/lang/String" "COMPACT_STRINGS" "Z" (.int cs) := S_cs.ext O0.2
  obtain ⟨T4, X4, e4, st4⟩ := getS2 X2 hx hZ hown (host := "") (Or.inl (hw _ (List.mem_of_getElem? (i := 36) rfl))) Via.refl e2 F3 (g := (mkF m 19 #[.val (.ref a), .val (.ref b), .val (.ref b)] [])) rfl (hb hby d9_19)
  refine Go.by st4 ?_
  show Go _ _ _ _ T4 (mkF m 22 #[.val (.ref a), .val (.ref b), .val (.ref b)] [(.int cs)])
  refine Go.by (fun _ gk => XS.ifNo X4.here hx rfl (hb hby d9_22) rfl (XT.i0_eq_f n_cs) gk) ?_
  show Go _ _ _ _ T4 (mkF m 25 #[.val (.ref a), .val (.ref b), .val (.ref b)] [])
  refine Go.by (fun _ gk => XS.aloadN X4.here hx rfl (hb hby d9_25) rfl rfl gk) ?_
  show Go _ _ _ _ T4 (mkF m 26 #[.val (.ref a), .val (.ref b), .val (.ref b)] [(.ref a)])
  obtain ⟨T5, X5, e5, st5⟩ := getF X4 hx hZ hown (host := "") (Or.inl (hw _ (List.mem_of_getElem? (i := 28) rfl))) Via.refl e4 F_a_coder (g := (mkF m 26 #[.val (.ref a), .val (.ref b), .val (.ref b)] [(.ref a)])) rfl rfl (hb hby d9_26)
  refine Go.by st5 ?_
  show Go _ _ _ _ T5 (mkF m 29 #[.val (.ref a), .val (.ref b), .val (.ref b)] [(.int (0 : Int32))])
  refine Go.by (fun _ gk => XS.aloadN X5.here hx rfl (hb hby d9_29) rfl rfl gk) ?_
  show Go _ _ _ _ T5 (mkF m 30 #[.val (.ref a), .val (.ref b), .val (.ref b)] [(.ref b), (.int (0 : Int32))])
  obtain ⟨T6, X6, e6, st6⟩ := getF X5 hx hZ hown (host := "") (Or.inl (hw _ (List.mem_of_getElem? (i := 28) rfl))) Via.refl e5 F_b_coder (g := (mkF m 30 #[.val (.ref a), .val (.ref b), .val (.ref b)] [(.ref b), (.int (0 : Int32))])) rfl rfl (hb hby d9_30)
  refine Go.by st6 ?_
  show Go _ _ _ _ T6 (mkF m 33 #[.val (.ref a), .val (.ref b), .val (.ref b)] [(.int (0 : Int32)), (.int (0 : Int32))])
  refine Go.by (fun _ gk => XS.icmpNo X6.here hx rfl (hb hby d9_33) rfl (XT.ii_ne_f rfl) gk) ?_
  show Go _ _ _ _ T6 (mkF m 36 #[.val (.ref a), .val (.ref b), .val (.ref b)] [])
  refine Go.by (fun _ gk => XS.aloadN X6.here hx rfl (hb hby d9_36) rfl rfl gk) ?_
  show Go _ _ _ _ T6 (mkF m 37 #[.val (.ref a), .val (.ref b), .val (.ref b)] [(.ref a)])
  obtain ⟨T7, X7, e7, st7⟩ := getF X6 hx hZ hown (host := "") (Or.inl (hw _ (List.mem_of_getElem? (i := 27) rfl))) Via.refl e6 F_a_value (g := (mkF m 37 #[.val (.ref a), .val (.ref b), .val (.ref b)] [(.ref a)])) rfl rfl (hb hby d9_37)
  refine Go.by st7 ?_
  show Go _ _ _ _ T7 (mkF m 40 #[.val (.ref a), .val (.ref b), .val (.ref b)] [(.ref av)])
  refine Go.by (fun _ gk => XS.aloadN X7.here hx rfl (hb hby d9_40) rfl rfl gk) ?_
  show Go _ _ _ _ T7 (mkF m 41 #[.val (.ref a), .val (.ref b), .val (.ref b)] [(.ref b), (.ref av)])
  obtain ⟨T8, X8, e8, st8⟩ := getF X7 hx hZ hown (host := "") (Or.inl (hw _ (List.mem_of_getElem? (i := 27) rfl))) Via.refl e7 F_b_value (g := (mkF m 41 #[.val (.ref a), .val (.ref b), .val (.ref b)] [(.ref b), (.ref av)])) rfl rfl (hb hby d9_41)
  refine Go.by st8 ?_
  show Go _ _ _ _ T8 (mkF m 44 #[.val (.ref a), .val (.ref b), .val (.ref b)] [(.ref bv), (.ref av)])
  obtain ⟨_, _, ⟨T9, L9, k9, n9⟩, -, X9, ⟨Lc9, hQ9, l9, y9, z9⟩, st9⟩ := Jvm.LawKit.callS X8 hx (y := (⟨"java/lang/StringLatin1", "equals", "([B[B)Z"⟩ : MethodName)) hown (mvT hZ (hw _ (List.mem_of_getElem? (i := 53) rfl))) (mvT hZ (hw _ (List.mem_of_getElem? (i := 54) rfl))) (mvT hZ (hw _ (List.mem_of_getElem? (i := 55) rfl))) (mvT hZ (hw _ (List.mem_of_getElem? (i := 56) rfl))) (by decide) (backOf (W := 0) (rmLeq l Z a0 hw [] av bv ka kb n xa xb n2 ya yb h0 n0 Z0 V_av V_bv hn1 hn2) hZ (hw _ (List.mem_of_getElem? (i := 56) rfl)) (hw _ (List.mem_of_getElem? (i := 55) rfl)) (by decide) (by decide)) (g := (mkF m 44 #[.val (.ref a), .val (.ref b), .val (.ref b)] [(.ref bv), (.ref av)])) rfl (by rw [hml]; rfl) (argsL := [(.ref av), (.ref bv)]) (rest := []) (lenOf pd_182 rfl) rfl (by show 2 * 0 + _ ≤ _; exact Nat.le_of_eq rfl) (hb hby d9_44) (fun _ _ => ⟨rfl, e8, (by decide : 0 + 0 ≤ _), (by decide : 0 + 0 ≤ _)⟩)
  dsimp only [Pt.U, Pt.locs, Pt.cells, Pt.slots] at X9 l9 y9 z9 st9 hQ9
  subst l9 y9 z9
  obtain ⟨r, rfl, N9q, e9, Q9_0⟩ := hQ9
  have N9 := Fr.app N0 N9q
  refine Go.by st9 ?_
  show Go _ _ _ _ T9 (mkF m 47 #[.val (.ref a), .val (.ref b), .val (.ref b)] [(.int r)])
  rcases Q9_0 with ⟨rfl, hE⟩ | ⟨rfl, hE⟩
  · show Go _ _ _ _ T9 (mkF m 47 #[.val (.ref a), .val (.ref b), .val (.ref b)] [(.int (1 : Int32))])
    refine Go.by (fun _ gk => XS.ifNo X9.here hx rfl (hb hby d9_47) rfl (XT.i0_eq_f (by decide)) gk) ?_
    show Go _ _ _ _ T9 (mkF m 50 #[.val (.ref a), .val (.ref b), .val (.ref b)] [])
    refine Go.by (fun _ gk => XT.iconstV X9.here hx rfl (1 : Int32) (hb hby d9_50) (by decide) gk) ?_
    show Go _ _ _ _ T9 (mkF m 51 #[.val (.ref a), .val (.ref b), .val (.ref b)] [(.int (1 : Int32))])
    refine Go.by (fun _ gk => XS.goto X9.here hx rfl (pc0 := 51) (pc' := 55) rfl (hb hby d9_51) (by decide) (by decide) gk) ?_
    show Go _ _ _ _ T9 (mkF m 55 #[.val (.ref a), .val (.ref b), .val (.ref b)] [(.int (1 : Int32))])
    exact Go.retI X9 hx Bd.notSynchronized Bd.returns rfl (by simp) (hb hby d9_55) (by rw [e9]; exact ⟨(1 : Int32), rfl, N9, rfl, Or.inl ⟨rfl, hE⟩⟩) (by decide) (by decide)
  · show Go _ _ _ _ T9 (mkF m 47 #[.val (.ref a), .val (.ref b), .val (.ref b)] [(.int (0 : Int32))])
    refine Go.by (fun _ gk => XS.ifYes X9.here hx rfl (pc0 := 47) (pc' := 54) rfl (hb hby d9_47) rfl (XT.i0_eq_t rfl) (by decide) (by decide) gk) ?_
    show Go _ _ _ _ T9 (mkF m 54 #[.val (.ref a), .val (.ref b), .val (.ref b)] [])
    refine Go.by (fun _ gk => XT.iconstV X9.here hx rfl (0 : Int32) (hb hby d9_54) (by decide) gk) ?_
    show Go _ _ _ _ T9 (mkF m 55 #[.val (.ref a), .val (.ref b), .val (.ref b)] [(.int (0 : Int32))])
    exact Go.retI X9 hx Bd.notSynchronized Bd.returns rfl (by simp) (hb hby d9_55) (by rw [e9]; exact ⟨(0 : Int32), rfl, N9, rfl, Or.inr ⟨rfl, hE⟩⟩) (by decide) (by decide)
theorem pn_189 : plainName "com/example/muster/muster/model/Visibility" = true := by first | (simp [plainName, overriddenIn]; done) | decide +kernel
theorem ef_190 (m : MethodId) (x0 : Addr) (x1 : Addr) (x3 : Int32) : entryFrame m #[(.ref x0), (.ref x1), .null, (.int x3)] 4 = mkF m 0 #[.val (.ref x0), .val (.ref x1), .val .null, .val (.int x3)] [] := by (first | (simp [entryFrame, mkF, argsToLocals, Value.category]; done) | rfl)
theorem d5_0 : decode prog_19_method_5_code 0 = .ok (.aload_n 2, 1) := by decide +kernel
theorem d5_1 : decode prog_19_method_5_code 1 = .ok (.ifnull 29, 3) := by decide +kernel
theorem d5_30 : decode prog_19_method_5_code 30 = .ok (.iconst 1, 1) := by decide +kernel
theorem d5_31 : decode prog_19_method_5_code 31 = .ok (.goto 4, 3) := by decide +kernel
theorem d5_35 : decode prog_19_method_5_code 35 = .ok (.ireturn, 1) := by decide +kernel
def Q_rmShowsN (Z : State) (vv : Addr) (us : Addr) (li : Int32) (h0 : Heap) (n0 : Nat) (v : Option Value) (h : Heap) (L : List Loc) : Prop := v = some (.int (1 : Int32)) ∧ Fr n0 L ∧ h = h0
set_option maxRecDepth 65536 in
set_option maxHeartbeats 40000000 in
theorem rmShowsN (l : Launch) (Z : State) (a0 : Array Value) (hw : ∀ d ∈ tables_1, d.before a0 Z = true) (ws : List Jvm.Cond) (vv : Addr) (us : Addr) (li : Int32) (h0 : Heap) (n0 : Nat) (Z0 : n0 ≤ h0.size)  :
    MetFree l (⟨"com/example/muster/muster/model/Visibility", "shows", "(Ljava/lang/String;Ljava/lang/String;Z)Z"⟩ : MethodName) (head1 (Jvm.Cond.code (⟨"com/example/muster/muster/model/Visibility", "shows", "(Ljava/lang/String;Ljava/lang/String;Z)Z"⟩ : MethodName) prog_19_method_5_code 4 (some .boolean) :: ws) ({ frames := 0, cells := 0, slots := 0, locals := 0 } : Room)) (fun as' U => as' = #[(.ref vv), (.ref us), .null, (.int li)] ∧ Z.Warmed39 U.vm ∧ U.heap = h0) (fun _ _ _ _ _ => True) (fun _ U o U' => ∃ v L, o = .returned v ∧ Q_rmShowsN Z vv us li h0 n0 v U'.heap L ∧ FrameEnd U o U' L ({ frames := 0, cells := 0, slots := 0, locals := 0 } : Room).cells ({ frames := 0, cells := 0, slots := 0, locals := 0 } : Room).slots) := by
  refine MetFree.of_bodySF (plainFor_of_name pn_189) hisR ?_
  intro p e s m args below meth c s₁ Bd hml0 hP hK
  obtain ⟨rfl, hZ, hh⟩ := hP
  have hx := Bd.exec
  have hby := Bd.bytes
  have hml : c.maxLocals = 4 := hml0
  have hown : s.vm.findClass "com/example/muster/muster/model/Visibility" = some m.cls := findClass_of_methodNamed Bd.named
  have hnm := (name_of_methodNamed Bd.named Bd.method).1
  have X0 : Stand p l e ({ frames := 0, cells := 0, slots := 0, locals := 0 } : Room) s m #[(.ref vv), (.ref us), .null, (.int li)] below meth c s₁ [] 0 0 := Stand.of_body Bd
  have e0 : s₁.heap = h0 := by rw [← hh, Bd.state]; rfl
  have N0 := Fr.nil n0
  refine Go.enter (F := EndN s (Q_rmShowsN Z vv us li h0 n0) ({ frames := 0, cells := 0, slots := 0, locals := 0 } : Room).cells ({ frames := 0, cells := 0, slots := 0, locals := 0 } : Room).slots) (ef_190 m vv us li) ?_
  show Go _ _ _ _ s₁ (mkF m 0 #[.val (.ref vv), .val (.ref us), .val .null, .val (.int li)] [])
  refine Go.by (fun _ gk => XS.aloadN X0.here hx rfl (hb hby d5_0) rfl rfl gk) ?_
  show Go _ _ _ _ s₁ (mkF m 1 #[.val (.ref vv), .val (.ref us), .val .null, .val (.int li)] [.null])
  refine Go.by (fun _ gk => XT.nullYes X0.here hx rfl (pc0 := 1) (pc' := 30) rfl (hb hby d5_1) rfl rfl (by decide) (by decide) gk) ?_
  show Go _ _ _ _ s₁ (mkF m 30 #[.val (.ref vv), .val (.ref us), .val .null, .val (.int li)] [])
  refine Go.by (fun _ gk => XT.iconstV X0.here hx rfl (1 : Int32) (hb hby d5_30) (by decide) gk) ?_
  show Go _ _ _ _ s₁ (mkF m 31 #[.val (.ref vv), .val (.ref us), .val .null, .val (.int li)] [(.int (1 : Int32))])
  refine Go.by (fun _ gk => XS.goto X0.here hx rfl (pc0 := 31) (pc' := 35) rfl (hb hby d5_31) (by decide) (by decide) gk) ?_
  show Go _ _ _ _ s₁ (mkF m 35 #[.val (.ref vv), .val (.ref us), .val .null, .val (.int li)] [(.int (1 : Int32))])
  exact Go.retI X0 hx Bd.notSynchronized Bd.returns rfl (by simp) (hb hby d5_35) (by rw [e0]; exact ⟨rfl, N0, rfl⟩) (by decide) (by decide)
theorem ef_196 (m : MethodId) (x0 : Addr) (x1 : Addr) (x2 : Addr) (x3 : Int32) : entryFrame m #[(.ref x0), (.ref x1), (.ref x2), (.int x3)] 4 = mkF m 0 #[.val (.ref x0), .val (.ref x1), .val (.ref x2), .val (.int x3)] [] := by (first | (simp [entryFrame, mkF, argsToLocals, Value.category]; done) | rfl)
theorem d5_4 : decode prog_19_method_5_code 4 = .ok (.aload_n 2, 1) := by decide +kernel
theorem d5_5 : decode prog_19_method_5_code 5 = .ok (.aload_n 1, 1) := by decide +kernel
theorem pd_199 : parseMethodDescriptor "(Ljava/lang/Object;)Z" = some ⟨[(.object "java/lang/Object")], some .boolean⟩ := by decide +kernel
theorem d5_6 : decode prog_19_method_5_code 6 = .ok (.invokevirtual 40, 3) := by decide +kernel
theorem d5_9 : decode prog_19_method_5_code 9 = .ok (.ifCond .ne 21, 3) := by decide +kernel
theorem d5_12 : decode prog_19_method_5_code 12 = .ok (.aload_n 0, 1) := by decide +kernel
theorem d5_13 : decode prog_19_method_5_code 13 = .ok (.getstatic 3, 3) := by decide +kernel
theorem d5_16 : decode prog_19_method_5_code 16 = .ok (.if_acmp .eq 14, 3) := by decide +kernel
theorem d5_19 : decode prog_19_method_5_code 19 = .ok (.aload_n 0, 1) := by decide +kernel
theorem d5_20 : decode prog_19_method_5_code 20 = .ok (.getstatic 7, 3) := by decide +kernel
theorem d5_23 : decode prog_19_method_5_code 23 = .ok (.if_acmp .ne 11, 3) := by decide +kernel
theorem d5_26 : decode prog_19_method_5_code 26 = .ok (.iload_n 3, 1) := by decide +kernel
theorem d5_27 : decode prog_19_method_5_code 27 = .ok (.ifCond .eq 7, 3) := by decide +kernel
theorem d5_34 : decode prog_19_method_5_code 34 = .ok (.iconst 0, 1) := by decide +kernel
def Q_rmShows (Z : State) (vv : Addr) (b : Addr) (a : Addr) (li : Int32) (k : Int32) (bv : Addr) (av : Addr) (kb : ClassId) (ka : ClassId) (n : Int32) (xa : Int32) (xb : Int32) (n2 : Int32) (ya : Int32) (yb : Int32) (c_EVERYONE : Addr) (c_CONTACTS : Addr) (c_NOBODY : Addr) (cs : Int32) (h0 : Heap) (n0 : Nat) (v : Option Value) (h : Heap) (L : List Loc) : Prop := ∃ r : Int32, v = some (.int r) ∧ Fr n0 L ∧ h = h0 ∧ ((own_eq n xa xb n2 ya yb ∧ r = 1) ∨ (¬ own_eq n xa xb n2 ya yb ∧ ((k = 0 ∧ r = 1) ∨ (k = 1 ∧ r = li) ∨ (k = 2 ∧ r = 0))))
set_option maxRecDepth 65536 in
set_option maxHeartbeats 40000000 in
theorem rmShows (l : Launch) (Z : State) (a0 : Array Value) (hw : ∀ d ∈ tables_1, d.before a0 Z = true) (ws : List Jvm.Cond) (vv : Addr) (b : Addr) (a : Addr) (li : Int32) (k : Int32) (bv : Addr) (av : Addr) (kb : ClassId) (ka : ClassId) (n : Int32) (xa : Int32) (xb : Int32) (n2 : Int32) (ya : Int32) (yb : Int32) (c_EVERYONE : Addr) (c_CONTACTS : Addr) (c_NOBODY : Addr) (cs : Int32) (h0 : Heap) (n0 : Nat) (Z0 : n0 ≤ h0.size) (O0 : Old Z n0 h0) (E_a : Exa Z h0 a "java/lang/String") (F_a_coder : Fld Z h0 a "java/lang/String" "coder" "B" (.int (0 : Int32))) (F_a_value : Fld Z h0 a "java/lang/String" "value" "[B" (.ref av)) (V_av : Arv Z h0 av ka .byte n (own_str n xa xb) (.int (0 : Int32))) (E_b : Exa Z h0 b "java/lang/String") (F_b_coder : Fld Z h0 b "java/lang/String" "coder" "B" (.int (0 : Int32))) (F_b_value : Fld Z h0 b "java/lang/String" "value" "[B" (.ref bv)) (V_bv : Arv Z h0 bv kb .byte n2 (own_str n2 ya yb) (.int (0 : Int32))) (hn1 : (n = 0 ∨ n = 1 ∨ n = 2)) (hn2 : (n2 = 0 ∨ n2 = 1 ∨ n2 = 2)) (ne_a_b : a ≠ b) (hv : ((k = 0 ∧ c_EVERYONE = vv) ∨ (k = 1 ∧ c_CONTACTS = vv) ∨ (k = 2 ∧ c_NOBODY = vv))) (hl : (li = 0 ∨ li = 1)) (S_c_EVERYONE : Sta Z Z.heap "com/example/muster/muster/model/Visibility" "EVERYONE" "Lcom/example/muster/muster/model/Visibility;" (.ref c_EVERYONE)) (E_c_EVERYONE : Exa Z Z.heap c_EVERYONE "com/example/muster/muster/model/Visibility") (O_c_EVERYONE : Fld Z Z.heap c_EVERYONE "java/lang/Enum" "ordinal" "I" (.int 0)) (S_c_CONTACTS : Sta Z Z.heap "com/example/muster/muster/model/Visibility" "CONTACTS" "Lcom/example/muster/muster/model/Visibility;" (.ref c_CONTACTS)) (E_c_CONTACTS : Exa Z Z.heap c_CONTACTS "com/example/muster/muster/model/Visibility") (O_c_CONTACTS : Fld Z Z.heap c_CONTACTS "java/lang/Enum" "ordinal" "I" (.int 1)) (S_c_NOBODY : Sta Z Z.heap "com/example/muster/muster/model/Visibility" "NOBODY" "Lcom/example/muster/muster/model/Visibility;" (.ref c_NOBODY)) (E_c_NOBODY : Exa Z Z.heap c_NOBODY "com/example/muster/muster/model/Visibility") (O_c_NOBODY : Fld Z Z.heap c_NOBODY "java/lang/Enum" "ordinal" "I" (.int 2)) (S_cs : Sta Z Z.heap "java/lang/String" "COMPACT_STRINGS" "Z" (.int cs)) (n_cs : ¬ cs = 0) :
    MetFree l (⟨"com/example/muster/muster/model/Visibility", "shows", "(Ljava/lang/String;Ljava/lang/String;Z)Z"⟩ : MethodName) (head1 (Jvm.Cond.code (⟨"com/example/muster/muster/model/Visibility", "shows", "(Ljava/lang/String;Ljava/lang/String;Z)Z"⟩ : MethodName) prog_19_method_5_code 4 (some .boolean) :: ws) ({ frames := 2, cells := 0, slots := 0, locals := 28 } : Room)) (fun as' U => as' = #[(.ref vv), (.ref b), (.ref a), (.int li)] ∧ Z.Warmed39 U.vm ∧ U.heap = h0) (fun _ _ _ _ _ => True) (fun _ U o U' => ∃ v L, o = .returned v ∧ Q_rmShows Z vv b a li k bv av kb ka n xa xb n2 ya yb c_EVERYONE c_CONTACTS c_NOBODY cs h0 n0 v U'.heap L ∧ FrameEnd U o U' L ({ frames := 2, cells := 0, slots := 0, locals := 28 } : Room).cells ({ frames := 2, cells := 0, slots := 0, locals := 28 } : Room).slots) := by
  refine MetFree.of_bodySF (plainFor_of_name pn_189) hisR ?_
  intro p e s m args below meth c s₁ Bd hml0 hP hK
  obtain ⟨rfl, hZ, hh⟩ := hP
  have hx := Bd.exec
  have hby := Bd.bytes
  have hml : c.maxLocals = 4 := hml0
  have hown : s.vm.findClass "com/example/muster/muster/model/Visibility" = some m.cls := findClass_of_methodNamed Bd.named
  have hnm := (name_of_methodNamed Bd.named Bd.method).1
  have X0 : Stand p l e ({ frames := 2, cells := 0, slots := 0, locals := 28 } : Room) s m #[(.ref vv), (.ref b), (.ref a), (.int li)] below meth c s₁ [] 0 0 := Stand.of_body Bd
  have e0 : s₁.heap = h0 := by rw [← hh, Bd.state]; rfl
  have N0 := Fr.nil n0
  refine Go.enter (F := EndN s (Q_rmShows Z vv b a li k bv av kb ka n xa xb n2 ya yb c_EVERYONE c_CONTACTS c_NOBODY cs h0 n0) ({ frames := 2, cells := 0, slots := 0, locals := 28 } : Room).cells ({ frames := 2, cells := 0, slots := 0, locals := 28 } : Room).slots) (ef_196 m vv b a li) ?_
  show Go _ _ _ _ s₁ (mkF m 0 #[.val (.ref vv), .val (.ref b), .val (.ref a), .val (.int li)] [])
  refine Go.by (fun _ gk => XS.aloadN X0.here hx rfl (hb hby d5_0) rfl rfl gk) ?_
  show Go _ _ _ _ s₁ (mkF m 1 #[.val (.ref vv), .val (.ref b), .val (.ref a), .val (.int li)] [(.ref a)])
  refine Go.by (fun _ gk => XT.nullNo X0.here hx rfl (hb hby d5_1) rfl rfl nofun gk) ?_
  show Go _ _ _ _ s₁ (mkF m 4 #[.val (.ref vv), .val (.ref b), .val (.ref a), .val (.int li)] [])
  refine Go.by (fun _ gk => XS.aloadN X0.here hx rfl (hb hby d5_4) rfl rfl gk) ?_
  show Go _ _ _ _ s₁ (mkF m 5 #[.val (.ref vv), .val (.ref b), .val (.ref a), .val (.int li)] [(.ref a)])
  refine Go.by (fun _ gk => XS.aloadN X0.here hx rfl (hb hby d5_5) rfl rfl gk) ?_
  show Go _ _ _ _ s₁ (mkF m 6 #[.val (.ref vv), .val (.ref b), .val (.ref a), .val (.int li)] [(.ref b), (.ref a)])
  obtain ⟨cq1, kq1, q1a, q1b, q1c⟩ := isOf hZ e0 E_a
  obtain ⟨_, _, ⟨T1, L1, k1, n1⟩, -, X1, ⟨Lc1, hQ1, l1, y1, z1⟩, st1⟩ := X0.virtualBack hx (y := (⟨"java/lang/String", "equals", "(Ljava/lang/Object;)Z"⟩ : MethodName)) (z := (⟨"java/lang/String", "equals", "(Ljava/lang/Object;)Z"⟩ : MethodName)) hown (mvT hZ (hw _ (List.mem_of_getElem? (i := 47) rfl))) (mvT hZ (hw _ (List.mem_of_getElem? (i := 48) rfl))) (notFace_of_selects (args := #[]) (mvT hZ (hw _ (List.mem_of_getElem? (i := 50) rfl)))) (mvT hZ (hw _ (List.mem_of_getElem? (i := 50) rfl))) (mvT hZ (hw _ (List.mem_of_getElem? (i := 49) rfl))) (by decide) (backOf (W := 0) (rmSeq l Z a0 hw [] a b av bv ka kb n xa xb n2 ya yb cs h0 n0 Z0 O0 E_a F_a_coder F_a_value V_av E_b F_b_coder F_b_value V_bv hn1 hn2 ne_a_b S_cs n_cs) hZ (hw _ (List.mem_of_getElem? (i := 51) rfl)) (hw _ (List.mem_of_getElem? (i := 9) rfl)) (by decide) (by decide)) q1a q1c (g := (mkF m 6 #[.val (.ref vv), .val (.ref b), .val (.ref a), .val (.int li)] [(.ref b), (.ref a)])) rfl (by rw [hml]; rfl) (Steps.refl _) (argsL := [(.ref b)]) (rest := []) (lenOf pd_199 rfl) rfl (by show 2 * 0 + _ ≤ _; exact Nat.le_of_eq rfl) (hb hby d5_6) (fun _ _ => ⟨rfl, e0, (by decide : 0 + 0 ≤ _), (by decide : 0 + 0 ≤ _)⟩)
  dsimp only [Pt.U, Pt.locs, Pt.cells, Pt.slots] at X1 l1 y1 z1 st1 hQ1
  subst l1 y1 z1
  obtain ⟨r1, rfl, N1q, e1, Q1_0⟩ := hQ1
  have N1 := Fr.app N0 N1q
  refine Go.to st1 ?_
  show Go _ _ _ _ T1 (mkF m 9 #[.val (.ref vv), .val (.ref b), .val (.ref a), .val (.int li)] [(.int r1)])
  rcases Q1_0 with ⟨rfl, hE⟩ | ⟨rfl, hE⟩
  · show Go _ _ _ _ T1 (mkF m 9 #[.val (.ref vv), .val (.ref b), .val (.ref a), .val (.int li)] [(.int (1 : Int32))])
    refine Go.by (fun _ gk => XS.ifYes X1.here hx rfl (pc0 := 9) (pc' := 30) rfl (hb hby d5_9) rfl (XT.i0_ne_t (by decide)) (by decide) (by decide) gk) ?_
    show Go _ _ _ _ T1 (mkF m 30 #[.val (.ref vv), .val (.ref b), .val (.ref a), .val (.int li)] [])
    refine Go.by (fun _ gk => XT.iconstV X1.here hx rfl (1 : Int32) (hb hby d5_30) (by decide) gk) ?_
    show Go _ _ _ _ T1 (mkF m 31 #[.val (.ref vv), .val (.ref b), .val (.ref a), .val (.int li)] [(.int (1 : Int32))])
    refine Go.by (fun _ gk => XS.goto X1.here hx rfl (pc0 := 31) (pc' := 35) rfl (hb hby d5_31) (by decide) (by decide) gk) ?_
    show Go _ _ _ _ T1 (mkF m 35 #[.val (.ref vv), .val (.ref b), .val (.ref a), .val (.int li)] [(.int (1 : Int32))])
    exact Go.retI X1 hx Bd.notSynchronized Bd.returns rfl (by simp) (hb hby d5_35) (by rw [e1]; exact ⟨(1 : Int32), rfl, N1, rfl, Or.inl ⟨hE, rfl⟩⟩) (by decide) (by decide)
  · show Go _ _ _ _ T1 (mkF m 9 #[.val (.ref vv), .val (.ref b), .val (.ref a), .val (.int li)] [(.int (0 : Int32))])
    refine Go.by (fun _ gk => XS.ifNo X1.here hx rfl (hb hby d5_9) rfl (XT.i0_ne_f rfl) gk) ?_
    show Go _ _ _ _ T1 (mkF m 12 #[.val (.ref vv), .val (.ref b), .val (.ref a), .val (.int li)] [])
    refine Go.by (fun _ gk => XS.aloadN X1.here hx rfl (hb hby d5_12) rfl rfl gk) ?_
    show Go _ _ _ _ T1 (mkF m 13 #[.val (.ref vv), .val (.ref b), .val (.ref a), .val (.int li)] [(.ref vv)])
    rcases hv with ⟨rfl, rfl⟩ | ⟨rfl, rfl⟩ | ⟨rfl, rfl⟩
    · show Go _ _ _ _ T1 (mkF m 13 #[.val (.ref c_EVERYONE), .val (.ref b), .val (.ref a), .val (.int li)] [(.ref c_EVERYONE)])
      have F2 : Sta Z h0 "com/example/muster/muster/model/Visibility" "EVERYONE" "Lcom/example/muster/muster/model/Visibility;" (.ref c_EVERYONE) := S_c_EVERYONE.ext O0.2
      obtain ⟨T3, X3, e3, st3⟩ := getS2 X1 hx hZ hown (host := "") (Or.inl (hw _ (List.mem_of_getElem? (i := 59) rfl))) Via.refl e1 F2 (g := (mkF m 13 #[.val (.ref c_EVERYONE), .val (.ref b), .val (.ref a), .val (.int li)] [(.ref c_EVERYONE)])) rfl (hb hby d5_13)
      refine Go.by st3 ?_
      show Go _ _ _ _ T3 (mkF m 16 #[.val (.ref c_EVERYONE), .val (.ref b), .val (.ref a), .val (.int li)] [(.ref c_EVERYONE), (.ref c_EVERYONE)])
      refine Go.by (fun _ gk => XT.acmpYes X3.here hx rfl (pc0 := 16) (pc' := 30) rfl (hb hby d5_16) rfl rfl rfl (XT.aa_eq_t rfl) (by decide) (by decide) gk) ?_
      show Go _ _ _ _ T3 (mkF m 30 #[.val (.ref c_EVERYONE), .val (.ref b), .val (.ref a), .val (.int li)] [])
      refine Go.by (fun _ gk => XT.iconstV X3.here hx rfl (1 : Int32) (hb hby d5_30) (by decide) gk) ?_
      show Go _ _ _ _ T3 (mkF m 31 #[.val (.ref c_EVERYONE), .val (.ref b), .val (.ref a), .val (.int li)] [(.int (1 : Int32))])
      refine Go.by (fun _ gk => XS.goto X3.here hx rfl (pc0 := 31) (pc' := 35) rfl (hb hby d5_31) (by decide) (by decide) gk) ?_
      show Go _ _ _ _ T3 (mkF m 35 #[.val (.ref c_EVERYONE), .val (.ref b), .val (.ref a), .val (.int li)] [(.int (1 : Int32))])
      exact Go.retI X3 hx Bd.notSynchronized Bd.returns rfl (by simp) (hb hby d5_35) (by rw [e3]; exact ⟨(1 : Int32), rfl, N1, rfl, Or.inr ⟨hE, Or.inl ⟨rfl, rfl⟩⟩⟩) (by decide) (by decide)
    · rcases hl with rfl | rfl
      · show Go _ _ _ _ T1 (mkF m 13 #[.val (.ref c_CONTACTS), .val (.ref b), .val (.ref a), .val (.int (0 : Int32))] [(.ref c_CONTACTS)])
        have F4 : Sta Z h0 "com/example/muster/muster/model/Visibility" "EVERYONE" "Lcom/example/muster/muster/model/Visibility;" (.ref c_EVERYONE) := S_c_EVERYONE.ext O0.2
        obtain ⟨T5, X5, e5, st5⟩ := getS2 X1 hx hZ hown (host := "") (Or.inl (hw _ (List.mem_of_getElem? (i := 59) rfl))) Via.refl e1 F4 (g := (mkF m 13 #[.val (.ref c_CONTACTS), .val (.ref b), .val (.ref a), .val (.int (0 : Int32))] [(.ref c_CONTACTS)])) rfl (hb hby d5_13)
        refine Go.by st5 ?_
        show Go _ _ _ _ T5 (mkF m 16 #[.val (.ref c_CONTACTS), .val (.ref b), .val (.ref a), .val (.int (0 : Int32))] [(.ref c_EVERYONE), (.ref c_CONTACTS)])
        refine Go.by (fun _ gk => XT.acmpNo X5.here hx rfl (hb hby d5_16) rfl rfl rfl (XT.aa_eq_f (fun q => (Fld.ne O_c_CONTACTS O_c_EVERYONE (by decide)) (Value.ref.inj q))) gk) ?_
        show Go _ _ _ _ T5 (mkF m 19 #[.val (.ref c_CONTACTS), .val (.ref b), .val (.ref a), .val (.int (0 : Int32))] [])
        refine Go.by (fun _ gk => XS.aloadN X5.here hx rfl (hb hby d5_19) rfl rfl gk) ?_
        show Go _ _ _ _ T5 (mkF m 20 #[.val (.ref c_CONTACTS), .val (.ref b), .val (.ref a), .val (.int (0 : Int32))] [(.ref c_CONTACTS)])
        have F6 : Sta Z h0 "com/example/muster/muster/model/Visibility" "CONTACTS" "Lcom/example/muster/muster/model/Visibility;" (.ref c_CONTACTS) := S_c_CONTACTS.ext O0.2
        obtain ⟨T7, X7, e7, st7⟩ := getS2 X5 hx hZ hown (host := "") (Or.inl (hw _ (List.mem_of_getElem? (i := 60) rfl))) Via.refl e5 F6 (g := (mkF m 20 #[.val (.ref c_CONTACTS), .val (.ref b), .val (.ref a), .val (.int (0 : Int32))] [(.ref c_CONTACTS)])) rfl (hb hby d5_20)
        refine Go.by st7 ?_
        show Go _ _ _ _ T7 (mkF m 23 #[.val (.ref c_CONTACTS), .val (.ref b), .val (.ref a), .val (.int (0 : Int32))] [(.ref c_CONTACTS), (.ref c_CONTACTS)])
        refine Go.by (fun _ gk => XT.acmpNo X7.here hx rfl (hb hby d5_23) rfl rfl rfl (XT.aa_ne_f rfl) gk) ?_
        show Go _ _ _ _ T7 (mkF m 26 #[.val (.ref c_CONTACTS), .val (.ref b), .val (.ref a), .val (.int (0 : Int32))] [])
        refine Go.by (fun _ gk => XS.iloadN X7.here hx rfl (hb hby d5_26) rfl gk) ?_
        show Go _ _ _ _ T7 (mkF m 27 #[.val (.ref c_CONTACTS), .val (.ref b), .val (.ref a), .val (.int (0 : Int32))] [(.int (0 : Int32))])
        refine Go.by (fun _ gk => XS.ifYes X7.here hx rfl (pc0 := 27) (pc' := 34) rfl (hb hby d5_27) rfl (XT.i0_eq_t rfl) (by decide) (by decide) gk) ?_
        show Go _ _ _ _ T7 (mkF m 34 #[.val (.ref c_CONTACTS), .val (.ref b), .val (.ref a), .val (.int (0 : Int32))] [])
        refine Go.by (fun _ gk => XT.iconstV X7.here hx rfl (0 : Int32) (hb hby d5_34) (by decide) gk) ?_
        show Go _ _ _ _ T7 (mkF m 35 #[.val (.ref c_CONTACTS), .val (.ref b), .val (.ref a), .val (.int (0 : Int32))] [(.int (0 : Int32))])
        exact Go.retI X7 hx Bd.notSynchronized Bd.returns rfl (by simp) (hb hby d5_35) (by rw [e7]; exact ⟨(0 : Int32), rfl, N1, rfl, Or.inr ⟨hE, Or.inr (Or.inl ⟨rfl, rfl⟩)⟩⟩) (by decide) (by decide)
      · show Go _ _ _ _ T1 (mkF m 13 #[.val (.ref c_CONTACTS), .val (.ref b), .val (.ref a), .val (.int (1 : Int32))] [(.ref c_CONTACTS)])
        have F8 : Sta Z h0 "com/example/muster/muster/model/Visibility" "EVERYONE" "Lcom/example/muster/muster/model/Visibility;" (.ref c_EVERYONE) := S_c_EVERYONE.ext O0.2
        obtain ⟨T9, X9, e9, st9⟩ := getS2 X1 hx hZ hown (host := "") (Or.inl (hw _ (List.mem_of_getElem? (i := 59) rfl))) Via.refl e1 F8 (g := (mkF m 13 #[.val (.ref c_CONTACTS), .val (.ref b), .val (.ref a), .val (.int (1 : Int32))] [(.ref c_CONTACTS)])) rfl (hb hby d5_13)
        refine Go.by st9 ?_
        show Go _ _ _ _ T9 (mkF m 16 #[.val (.ref c_CONTACTS), .val (.ref b), .val (.ref a), .val (.int (1 : Int32))] [(.ref c_EVERYONE), (.ref c_CONTACTS)])
        refine Go.by (fun _ gk => XT.acmpNo X9.here hx rfl (hb hby d5_16) rfl rfl rfl (XT.aa_eq_f (fun q => (Fld.ne O_c_CONTACTS O_c_EVERYONE (by decide)) (Value.ref.inj q))) gk) ?_
        show Go _ _ _ _ T9 (mkF m 19 #[.val (.ref c_CONTACTS), .val (.ref b), .val (.ref a), .val (.int (1 : Int32))] [])
        refine Go.by (fun _ gk => XS.aloadN X9.here hx rfl (hb hby d5_19) rfl rfl gk) ?_
        show Go _ _ _ _ T9 (mkF m 20 #[.val (.ref c_CONTACTS), .val (.ref b), .val (.ref a), .val (.int (1 : Int32))] [(.ref c_CONTACTS)])
        have F10 : Sta Z h0 "com/example/muster/muster/model/Visibility" "CONTACTS" "Lcom/example/muster/muster/model/Visibility;" (.ref c_CONTACTS) := S_c_CONTACTS.ext O0.2
        obtain ⟨T11, X11, e11, st11⟩ := getS2 X9 hx hZ hown (host := "") (Or.inl (hw _ (List.mem_of_getElem? (i := 60) rfl))) Via.refl e9 F10 (g := (mkF m 20 #[.val (.ref c_CONTACTS), .val (.ref b), .val (.ref a), .val (.int (1 : Int32))] [(.ref c_CONTACTS)])) rfl (hb hby d5_20)
        refine Go.by st11 ?_
        show Go _ _ _ _ T11 (mkF m 23 #[.val (.ref c_CONTACTS), .val (.ref b), .val (.ref a), .val (.int (1 : Int32))] [(.ref c_CONTACTS), (.ref c_CONTACTS)])
        refine Go.by (fun _ gk => XT.acmpNo X11.here hx rfl (hb hby d5_23) rfl rfl rfl (XT.aa_ne_f rfl) gk) ?_
        show Go _ _ _ _ T11 (mkF m 26 #[.val (.ref c_CONTACTS), .val (.ref b), .val (.ref a), .val (.int (1 : Int32))] [])
        refine Go.by (fun _ gk => XS.iloadN X11.here hx rfl (hb hby d5_26) rfl gk) ?_
        show Go _ _ _ _ T11 (mkF m 27 #[.val (.ref c_CONTACTS), .val (.ref b), .val (.ref a), .val (.int (1 : Int32))] [(.int (1 : Int32))])
        refine Go.by (fun _ gk => XS.ifNo X11.here hx rfl (hb hby d5_27) rfl (XT.i0_eq_f (by decide)) gk) ?_
        show Go _ _ _ _ T11 (mkF m 30 #[.val (.ref c_CONTACTS), .val (.ref b), .val (.ref a), .val (.int (1 : Int32))] [])
        refine Go.by (fun _ gk => XT.iconstV X11.here hx rfl (1 : Int32) (hb hby d5_30) (by decide) gk) ?_
        show Go _ _ _ _ T11 (mkF m 31 #[.val (.ref c_CONTACTS), .val (.ref b), .val (.ref a), .val (.int (1 : Int32))] [(.int (1 : Int32))])
        refine Go.by (fun _ gk => XS.goto X11.here hx rfl (pc0 := 31) (pc' := 35) rfl (hb hby d5_31) (by decide) (by decide) gk) ?_
        show Go _ _ _ _ T11 (mkF m 35 #[.val (.ref c_CONTACTS), .val (.ref b), .val (.ref a), .val (.int (1 : Int32))] [(.int (1 : Int32))])
        exact Go.retI X11 hx Bd.notSynchronized Bd.returns rfl (by simp) (hb hby d5_35) (by rw [e11]; exact ⟨(1 : Int32), rfl, N1, rfl, Or.inr ⟨hE, Or.inr (Or.inl ⟨rfl, rfl⟩)⟩⟩) (by decide) (by decide)
    · show Go _ _ _ _ T1 (mkF m 13 #[.val (.ref c_NOBODY), .val (.ref b), .val (.ref a), .val (.int li)] [(.ref c_NOBODY)])
      have F12 : Sta Z h0 "com/example/muster/muster/model/Visibility" "EVERYONE" "Lcom/example/muster/muster/model/Visibility;" (.ref c_EVERYONE) := S_c_EVERYONE.ext O0.2
      obtain ⟨T13, X13, e13, st13⟩ := getS2 X1 hx hZ hown (host := "") (Or.inl (hw _ (List.mem_of_getElem? (i := 59) rfl))) Via.refl e1 F12 (g := (mkF m 13 #[.val (.ref c_NOBODY), .val (.ref b), .val (.ref a), .val (.int li)] [(.ref c_NOBODY)])) rfl (hb hby d5_13)
      refine Go.by st13 ?_
      show Go _ _ _ _ T13 (mkF m 16 #[.val (.ref c_NOBODY), .val (.ref b), .val (.ref a), .val (.int li)] [(.ref c_EVERYONE), (.ref c_NOBODY)])
      refine Go.by (fun _ gk => XT.acmpNo X13.here hx rfl (hb hby d5_16) rfl rfl rfl (XT.aa_eq_f (fun q => (Fld.ne O_c_NOBODY O_c_EVERYONE (by decide)) (Value.ref.inj q))) gk) ?_
      show Go _ _ _ _ T13 (mkF m 19 #[.val (.ref c_NOBODY), .val (.ref b), .val (.ref a), .val (.int li)] [])
      refine Go.by (fun _ gk => XS.aloadN X13.here hx rfl (hb hby d5_19) rfl rfl gk) ?_
      show Go _ _ _ _ T13 (mkF m 20 #[.val (.ref c_NOBODY), .val (.ref b), .val (.ref a), .val (.int li)] [(.ref c_NOBODY)])
      have F14 : Sta Z h0 "com/example/muster/muster/model/Visibility" "CONTACTS" "Lcom/example/muster/muster/model/Visibility;" (.ref c_CONTACTS) := S_c_CONTACTS.ext O0.2
      obtain ⟨T15, X15, e15, st15⟩ := getS2 X13 hx hZ hown (host := "") (Or.inl (hw _ (List.mem_of_getElem? (i := 60) rfl))) Via.refl e13 F14 (g := (mkF m 20 #[.val (.ref c_NOBODY), .val (.ref b), .val (.ref a), .val (.int li)] [(.ref c_NOBODY)])) rfl (hb hby d5_20)
      refine Go.by st15 ?_
      show Go _ _ _ _ T15 (mkF m 23 #[.val (.ref c_NOBODY), .val (.ref b), .val (.ref a), .val (.int li)] [(.ref c_CONTACTS), (.ref c_NOBODY)])
      refine Go.by (fun _ gk => XT.acmpYes X15.here hx rfl (pc0 := 23) (pc' := 34) rfl (hb hby d5_23) rfl rfl rfl (XT.aa_ne_t (fun q => (Fld.ne O_c_NOBODY O_c_CONTACTS (by decide)) (Value.ref.inj q))) (by decide) (by decide) gk) ?_
      show Go _ _ _ _ T15 (mkF m 34 #[.val (.ref c_NOBODY), .val (.ref b), .val (.ref a), .val (.int li)] [])
      refine Go.by (fun _ gk => XT.iconstV X15.here hx rfl (0 : Int32) (hb hby d5_34) (by decide) gk) ?_
      show Go _ _ _ _ T15 (mkF m 35 #[.val (.ref c_NOBODY), .val (.ref b), .val (.ref a), .val (.int li)] [(.int (0 : Int32))])
      exact Go.retI X15 hx Bd.notSynchronized Bd.returns rfl (by simp) (hb hby d5_35) (by rw [e15]; exact ⟨(0 : Int32), rfl, N1, rfl, Or.inr ⟨hE, Or.inr (Or.inr ⟨rfl, rfl⟩)⟩⟩) (by decide) (by decide)
theorem own_1 {md : Int32} (h : md = 1) : ¬ md = 0 := by rw [h]; decide
theorem ef_211 (m : MethodId) (x0 : Int32) (x1 : Int32) (x2 : Int32) : entryFrame m #[(.int x0), (.int x1), (.int x2)] 21 = mkF m 0 #[.val (.int x0), .val (.int x1), .val (.int x2), .unset, .unset, .unset, .unset, .unset, .unset, .unset, .unset, .unset, .unset, .unset, .unset, .unset, .unset, .unset, .unset, .unset, .unset] [] := by (first | (simp [entryFrame, mkF, argsToLocals, Value.category]; done) | rfl)
theorem pd_212 : parseMethodDescriptor "(ICC)Ljava/lang/String;" = some ⟨[.int, .char, .char], some (.object "java/lang/String")⟩ := by decide +kernel
theorem pd_213 : parseMethodDescriptor "(Ljava/lang/String;Ljava/lang/String;Z)Z" = some ⟨[(.object "java/lang/String"), (.object "java/lang/String"), .boolean], some .boolean⟩ := by decide +kernel
def Q_rm0 (Z : State) (p0 : Int32) (p1 : Int32) (p2 : Int32) (c_EVERYONE : Addr) (c_CONTACTS : Addr) (c_NOBODY : Addr) (cs : Int32) (h0 : Heap) (n0 : Nat) (v : Option Value) (h : Heap) (L : List Loc) : Prop := v = some (.int 1) ∧ Fr n0 L
set_option maxRecDepth 65536 in
set_option maxHeartbeats 40000000 in
theorem rm0 (l : Launch) (Z : State) (a0 : Array Value) (hw : ∀ d ∈ tables_1, d.before a0 Z = true) (ws : List Jvm.Cond) (p0 : Int32) (p1 : Int32) (p2 : Int32) (c_EVERYONE : Addr) (c_CONTACTS : Addr) (c_NOBODY : Addr) (cs : Int32) (h0 : Heap) (n0 : Nat) (Z0 : n0 ≤ h0.size) (O0 : Old Z n0 h0) (S_c_EVERYONE : Sta Z Z.heap "com/example/muster/muster/model/Visibility" "EVERYONE" "Lcom/example/muster/muster/model/Visibility;" (.ref c_EVERYONE)) (E_c_EVERYONE : Exa Z Z.heap c_EVERYONE "com/example/muster/muster/model/Visibility") (O_c_EVERYONE : Fld Z Z.heap c_EVERYONE "java/lang/Enum" "ordinal" "I" (.int 0)) (S_c_CONTACTS : Sta Z Z.heap "com/example/muster/muster/model/Visibility" "CONTACTS" "Lcom/example/muster/muster/model/Visibility;" (.ref c_CONTACTS)) (E_c_CONTACTS : Exa Z Z.heap c_CONTACTS "com/example/muster/muster/model/Visibility") (O_c_CONTACTS : Fld Z Z.heap c_CONTACTS "java/lang/Enum" "ordinal" "I" (.int 1)) (S_c_NOBODY : Sta Z Z.heap "com/example/muster/muster/model/Visibility" "NOBODY" "Lcom/example/muster/muster/model/Visibility;" (.ref c_NOBODY)) (E_c_NOBODY : Exa Z Z.heap c_NOBODY "com/example/muster/muster/model/Visibility") (O_c_NOBODY : Fld Z Z.heap c_NOBODY "java/lang/Enum" "ordinal" "I" (.int 2)) (S_cs : Sta Z Z.heap "java/lang/String" "COMPACT_STRINGS" "Z" (.int cs)) (n_cs : ¬ cs = 0) :
    MetFree l x (head1 (Jvm.Cond.code x code maxLocals ret :: ws) room_1) (fun as' U => as' = #[(.int p0), (.int p1), (.int p2)] ∧ Z.Warmed39 U.vm ∧ U.heap = h0 ∧ CHv Z own_EL U.vm h0) (fun _ _ _ _ _ => True) (fun _ U o U' => ∃ v L, o = .returned v ∧ Q_rm0 Z p0 p1 p2 c_EVERYONE c_CONTACTS c_NOBODY cs h0 n0 v U'.heap L ∧ CHr Z own_EL U.vm U.heap U'.vm U'.heap ∧ ReturnedEndW U o U' L 12 24) := by
  refine MetFree.of_bodySF (plainFor_of_name pn_2) hisR ?_
  intro p e s m args below meth c s₁ Bd hml0 hP hK
  obtain ⟨rfl, hZ, hh, hH⟩ := hP
  have hx := Bd.exec
  have hby := Bd.bytes
  have hml : c.maxLocals = 21 := hml0
  have hown : s.vm.findClass "com/example/muster/muster/model/VisibilityShowsPinLaw" = some m.cls := findClass_of_methodNamed Bd.named
  have hnm := (name_of_methodNamed Bd.named Bd.method).1
  have X0 : Stand p l e room_1 (s.setVm s.vm) m #[(.int p0), (.int p1), (.int p2)] below meth c s₁ [] 0 0 := Stand.of_body Bd
  have e0 : s₁.heap = h0 := by rw [← hh, Bd.state]; rfl
  have N0 := Fr.nil n0
  have hS0 : s.Since s.vm s.heap.size := (State.WarmedH.refl s).since _
  have hk0 : s.heap.size ≤ h0.size := Nat.le_of_eq (by rw [hh])
  have C0 : CHr Z own_EL s.vm h0 s.vm h0 := CHr.refl hH
  have hEL := own_EW hw
  have hSA := own_SA hw
  refine Go.enter (F := EndW Z own_EL s (Q_rm0 Z p0 p1 p2 c_EVERYONE c_CONTACTS c_NOBODY cs h0 n0) 12 24) (ef_211 m p0 p1 p2) ?_
  show Go _ _ _ _ s₁ (mkF m 0 #[.val (.int p0), .val (.int p1), .val (.int p2), .unset, .unset, .unset, .unset, .unset, .unset, .unset, .unset, .unset, .unset, .unset, .unset, .unset, .unset, .unset, .unset, .unset, .unset] [])
  refine Go.by (fun _ gk => XS.iloadN X0.here hx rfl (hb hby at_0) rfl gk) ?_
  show Go _ _ _ _ s₁ (mkF m 1 #[.val (.int p0), .val (.int p1), .val (.int p2), .unset, .unset, .unset, .unset, .unset, .unset, .unset, .unset, .unset, .unset, .unset, .unset, .unset, .unset, .unset, .unset, .unset, .unset] [(.int p0)])
  refine Go.by (fun _ gk => XT.iconstV X0.here hx rfl (3 : Int32) (hb hby at_1) (by decide) gk) ?_
  show Go _ _ _ _ s₁ (mkF m 2 #[.val (.int p0), .val (.int p1), .val (.int p2), .unset, .unset, .unset, .unset, .unset, .unset, .unset, .unset, .unset, .unset, .unset, .unset, .unset, .unset, .unset, .unset, .unset, .unset] [(.int (3 : Int32)), (.int p0)])
  refine Go.by (fun _ gk => XS.iand X0.here hx rfl (hb hby at_2) rfl gk) ?_
  show Go _ _ _ _ s₁ (mkF m 3 #[.val (.int p0), .val (.int p1), .val (.int p2), .unset, .unset, .unset, .unset, .unset, .unset, .unset, .unset, .unset, .unset, .unset, .unset, .unset, .unset, .unset, .unset, .unset, .unset] [(.int (p0 &&& (3 : Int32)))])
  refine Go.by (fun _ gk => XT.iconstV X0.here hx rfl (3 : Int32) (hb hby at_3) (by decide) gk) ?_
  show Go _ _ _ _ s₁ (mkF m 4 #[.val (.int p0), .val (.int p1), .val (.int p2), .unset, .unset, .unset, .unset, .unset, .unset, .unset, .unset, .unset, .unset, .unset, .unset, .unset, .unset, .unset, .unset, .unset, .unset] [(.int (3 : Int32)), (.int (p0 &&& (3 : Int32)))])
  refine Go.by (fun _ gk => XS.irem X0.here hx rfl (hb hby at_4) rfl (by decide) gk) ?_
  show Go _ _ _ _ s₁ (mkF m 5 #[.val (.int p0), .val (.int p1), .val (.int p2), .unset, .unset, .unset, .unset, .unset, .unset, .unset, .unset, .unset, .unset, .unset, .unset, .unset, .unset, .unset, .unset, .unset, .unset] [(.int ((p0 &&& (3 : Int32)) - (p0 &&& (3 : Int32)) / (3 : Int32) * (3 : Int32)))])
  refine Go.by (fun _ gk => XS.istoreN X0.here hx rfl (hb hby at_5) rfl (l' := #[.val (.int p0), .val (.int p1), .val (.int p2), .val (.int ((p0 &&& (3 : Int32)) - (p0 &&& (3 : Int32)) / (3 : Int32) * (3 : Int32))), .unset, .unset, .unset, .unset, .unset, .unset, .unset, .unset, .unset, .unset, .unset, .unset, .unset, .unset, .unset, .unset, .unset]) rfl gk) ?_
  show Go _ _ _ _ s₁ (mkF m 6 #[.val (.int p0), .val (.int p1), .val (.int p2), .val (.int ((p0 &&& (3 : Int32)) - (p0 &&& (3 : Int32)) / (3 : Int32) * (3 : Int32))), .unset, .unset, .unset, .unset, .unset, .unset, .unset, .unset, .unset, .unset, .unset, .unset, .unset, .unset, .unset, .unset, .unset] [])
  obtain ⟨k, h_k⟩ : ∃ z, z = ((p0 &&& (3 : Int32)) - (p0 &&& (3 : Int32)) / (3 : Int32) * (3 : Int32)) := ⟨_, rfl⟩
  rw [← h_k]
  show Go _ _ _ _ s₁ (mkF m 6 #[.val (.int p0), .val (.int p1), .val (.int p2), .val (.int k), .unset, .unset, .unset, .unset, .unset, .unset, .unset, .unset, .unset, .unset, .unset, .unset, .unset, .unset, .unset, .unset, .unset] [])
  have hk := own_mod3 h_k
  refine Go.by (fun _ gk => XS.iloadN X0.here hx rfl (hb hby at_6) rfl gk) ?_
  show Go _ _ _ _ s₁ (mkF m 7 #[.val (.int p0), .val (.int p1), .val (.int p2), .val (.int k), .unset, .unset, .unset, .unset, .unset, .unset, .unset, .unset, .unset, .unset, .unset, .unset, .unset, .unset, .unset, .unset, .unset] [(.int p0)])
  refine Go.by (fun _ gk => XT.iconstV X0.here hx rfl (2 : Int32) (hb hby at_7) (by decide) gk) ?_
  show Go _ _ _ _ s₁ (mkF m 8 #[.val (.int p0), .val (.int p1), .val (.int p2), .val (.int k), .unset, .unset, .unset, .unset, .unset, .unset, .unset, .unset, .unset, .unset, .unset, .unset, .unset, .unset, .unset, .unset, .unset] [(.int (2 : Int32)), (.int p0)])
  refine Go.by (fun _ gk => XT.iushr X0.here hx rfl (hb hby at_8) rfl gk) ?_
  show Go _ _ _ _ s₁ (mkF m 9 #[.val (.int p0), .val (.int p1), .val (.int p2), .val (.int k), .unset, .unset, .unset, .unset, .unset, .unset, .unset, .unset, .unset, .unset, .unset, .unset, .unset, .unset, .unset, .unset, .unset] [(.int (XT.ushr p0 (2 : Int32)))])
  refine Go.by (fun _ gk => XT.iconstV X0.here hx rfl (1 : Int32) (hb hby at_9) (by decide) gk) ?_
  show Go _ _ _ _ s₁ (mkF m 10 #[.val (.int p0), .val (.int p1), .val (.int p2), .val (.int k), .unset, .unset, .unset, .unset, .unset, .unset, .unset, .unset, .unset, .unset, .unset, .unset, .unset, .unset, .unset, .unset, .unset] [(.int (1 : Int32)), (.int (XT.ushr p0 (2 : Int32)))])
  refine Go.by (fun _ gk => XS.iand X0.here hx rfl (hb hby at_10) rfl gk) ?_
  show Go _ _ _ _ s₁ (mkF m 11 #[.val (.int p0), .val (.int p1), .val (.int p2), .val (.int k), .unset, .unset, .unset, .unset, .unset, .unset, .unset, .unset, .unset, .unset, .unset, .unset, .unset, .unset, .unset, .unset, .unset] [(.int ((XT.ushr p0 (2 : Int32)) &&& (1 : Int32)))])
  refine Go.join (α := Int32) (P := fun li => li = 0 ∨ li = 1) (fr := fun li => (mkF m 19 #[.val (.int p0), .val (.int p1), .val (.int p2), .val (.int k), .unset, .unset, .unset, .unset, .unset, .unset, .unset, .unset, .unset, .unset, .unset, .unset, .unset, .unset, .unset, .unset, .unset] [(.int li)])) ?_ ?_
  · intro li h_li
    show Go _ _ _ _ s₁ (mkF m 19 #[.val (.int p0), .val (.int p1), .val (.int p2), .val (.int k), .unset, .unset, .unset, .unset, .unset, .unset, .unset, .unset, .unset, .unset, .unset, .unset, .unset, .unset, .unset, .unset, .unset] [(.int li)])
    refine Go.by (fun _ gk => XS.istore X0.here hx rfl (hb hby at_19) rfl (l' := #[.val (.int p0), .val (.int p1), .val (.int p2), .val (.int k), .val (.int li), .unset, .unset, .unset, .unset, .unset, .unset, .unset, .unset, .unset, .unset, .unset, .unset, .unset, .unset, .unset, .unset]) rfl gk) ?_
    show Go _ _ _ _ s₁ (mkF m 21 #[.val (.int p0), .val (.int p1), .val (.int p2), .val (.int k), .val (.int li), .unset, .unset, .unset, .unset, .unset, .unset, .unset, .unset, .unset, .unset, .unset, .unset, .unset, .unset, .unset, .unset] [])
    refine Go.by (fun _ gk => XS.iloadN X0.here hx rfl (hb hby at_21) rfl gk) ?_
    show Go _ _ _ _ s₁ (mkF m 22 #[.val (.int p0), .val (.int p1), .val (.int p2), .val (.int k), .val (.int li), .unset, .unset, .unset, .unset, .unset, .unset, .unset, .unset, .unset, .unset, .unset, .unset, .unset, .unset, .unset, .unset] [(.int p0)])
    refine Go.by (fun _ gk => XT.iconstV X0.here hx rfl (3 : Int32) (hb hby at_22) (by decide) gk) ?_
    show Go _ _ _ _ s₁ (mkF m 23 #[.val (.int p0), .val (.int p1), .val (.int p2), .val (.int k), .val (.int li), .unset, .unset, .unset, .unset, .unset, .unset, .unset, .unset, .unset, .unset, .unset, .unset, .unset, .unset, .unset, .unset] [(.int (3 : Int32)), (.int p0)])
    refine Go.by (fun _ gk => XT.iushr X0.here hx rfl (hb hby at_23) rfl gk) ?_
    show Go _ _ _ _ s₁ (mkF m 24 #[.val (.int p0), .val (.int p1), .val (.int p2), .val (.int k), .val (.int li), .unset, .unset, .unset, .unset, .unset, .unset, .unset, .unset, .unset, .unset, .unset, .unset, .unset, .unset, .unset, .unset] [(.int (XT.ushr p0 (3 : Int32)))])
    refine Go.by (fun _ gk => XT.iconstV X0.here hx rfl (3 : Int32) (hb hby at_24) (by decide) gk) ?_
    show Go _ _ _ _ s₁ (mkF m 25 #[.val (.int p0), .val (.int p1), .val (.int p2), .val (.int k), .val (.int li), .unset, .unset, .unset, .unset, .unset, .unset, .unset, .unset, .unset, .unset, .unset, .unset, .unset, .unset, .unset, .unset] [(.int (3 : Int32)), (.int (XT.ushr p0 (3 : Int32)))])
    refine Go.by (fun _ gk => XS.iand X0.here hx rfl (hb hby at_25) rfl gk) ?_
    show Go _ _ _ _ s₁ (mkF m 26 #[.val (.int p0), .val (.int p1), .val (.int p2), .val (.int k), .val (.int li), .unset, .unset, .unset, .unset, .unset, .unset, .unset, .unset, .unset, .unset, .unset, .unset, .unset, .unset, .unset, .unset] [(.int ((XT.ushr p0 (3 : Int32)) &&& (3 : Int32)))])
    refine Go.by (fun _ gk => XS.istore X0.here hx rfl (hb hby at_26) rfl (l' := #[.val (.int p0), .val (.int p1), .val (.int p2), .val (.int k), .val (.int li), .val (.int ((XT.ushr p0 (3 : Int32)) &&& (3 : Int32))), .unset, .unset, .unset, .unset, .unset, .unset, .unset, .unset, .unset, .unset, .unset, .unset, .unset, .unset, .unset]) rfl gk) ?_
    show Go _ _ _ _ s₁ (mkF m 28 #[.val (.int p0), .val (.int p1), .val (.int p2), .val (.int k), .val (.int li), .val (.int ((XT.ushr p0 (3 : Int32)) &&& (3 : Int32))), .unset, .unset, .unset, .unset, .unset, .unset, .unset, .unset, .unset, .unset, .unset, .unset, .unset, .unset, .unset] [])
    obtain ⟨md, h_md⟩ : ∃ z, z = ((XT.ushr p0 (3 : Int32)) &&& (3 : Int32)) := ⟨_, rfl⟩
    rw [← h_md]
    show Go _ _ _ _ s₁ (mkF m 28 #[.val (.int p0), .val (.int p1), .val (.int p2), .val (.int k), .val (.int li), .val (.int md), .unset, .unset, .unset, .unset, .unset, .unset, .unset, .unset, .unset, .unset, .unset, .unset, .unset, .unset, .unset] [])
    refine Go.by (fun _ gk => XS.iloadN X0.here hx rfl (hb hby at_28) rfl gk) ?_
    show Go _ _ _ _ s₁ (mkF m 29 #[.val (.int p0), .val (.int p1), .val (.int p2), .val (.int k), .val (.int li), .val (.int md), .unset, .unset, .unset, .unset, .unset, .unset, .unset, .unset, .unset, .unset, .unset, .unset, .unset, .unset, .unset] [(.int p0)])
    refine Go.by (fun _ gk => XT.iconstV X0.here hx rfl (5 : Int32) (hb hby at_29) (by decide) gk) ?_
    show Go _ _ _ _ s₁ (mkF m 30 #[.val (.int p0), .val (.int p1), .val (.int p2), .val (.int k), .val (.int li), .val (.int md), .unset, .unset, .unset, .unset, .unset, .unset, .unset, .unset, .unset, .unset, .unset, .unset, .unset, .unset, .unset] [(.int (5 : Int32)), (.int p0)])
    refine Go.by (fun _ gk => XT.iushr X0.here hx rfl (hb hby at_30) rfl gk) ?_
    show Go _ _ _ _ s₁ (mkF m 31 #[.val (.int p0), .val (.int p1), .val (.int p2), .val (.int k), .val (.int li), .val (.int md), .unset, .unset, .unset, .unset, .unset, .unset, .unset, .unset, .unset, .unset, .unset, .unset, .unset, .unset, .unset] [(.int (XT.ushr p0 (5 : Int32)))])
    refine Go.by (fun _ gk => XT.iconstV X0.here hx rfl (3 : Int32) (hb hby at_31) (by decide) gk) ?_
    show Go _ _ _ _ s₁ (mkF m 32 #[.val (.int p0), .val (.int p1), .val (.int p2), .val (.int k), .val (.int li), .val (.int md), .unset, .unset, .unset, .unset, .unset, .unset, .unset, .unset, .unset, .unset, .unset, .unset, .unset, .unset, .unset] [(.int (3 : Int32)), (.int (XT.ushr p0 (5 : Int32)))])
    refine Go.by (fun _ gk => XS.iand X0.here hx rfl (hb hby at_32) rfl gk) ?_
    show Go _ _ _ _ s₁ (mkF m 33 #[.val (.int p0), .val (.int p1), .val (.int p2), .val (.int k), .val (.int li), .val (.int md), .unset, .unset, .unset, .unset, .unset, .unset, .unset, .unset, .unset, .unset, .unset, .unset, .unset, .unset, .unset] [(.int ((XT.ushr p0 (5 : Int32)) &&& (3 : Int32)))])
    refine Go.by (fun _ gk => XT.iconstV X0.here hx rfl (3 : Int32) (hb hby at_33) (by decide) gk) ?_
    show Go _ _ _ _ s₁ (mkF m 34 #[.val (.int p0), .val (.int p1), .val (.int p2), .val (.int k), .val (.int li), .val (.int md), .unset, .unset, .unset, .unset, .unset, .unset, .unset, .unset, .unset, .unset, .unset, .unset, .unset, .unset, .unset] [(.int (3 : Int32)), (.int ((XT.ushr p0 (5 : Int32)) &&& (3 : Int32)))])
    refine Go.by (fun _ gk => XS.irem X0.here hx rfl (hb hby at_34) rfl (by decide) gk) ?_
    show Go _ _ _ _ s₁ (mkF m 35 #[.val (.int p0), .val (.int p1), .val (.int p2), .val (.int k), .val (.int li), .val (.int md), .unset, .unset, .unset, .unset, .unset, .unset, .unset, .unset, .unset, .unset, .unset, .unset, .unset, .unset, .unset] [(.int (((XT.ushr p0 (5 : Int32)) &&& (3 : Int32)) - ((XT.ushr p0 (5 : Int32)) &&& (3 : Int32)) / (3 : Int32) * (3 : Int32)))])
    refine Go.by (fun _ gk => XS.istore X0.here hx rfl (hb hby at_35) rfl (l' := #[.val (.int p0), .val (.int p1), .val (.int p2), .val (.int k), .val (.int li), .val (.int md), .val (.int (((XT.ushr p0 (5 : Int32)) &&& (3 : Int32)) - ((XT.ushr p0 (5 : Int32)) &&& (3 : Int32)) / (3 : Int32) * (3 : Int32))), .unset, .unset, .unset, .unset, .unset, .unset, .unset, .unset, .unset, .unset, .unset, .unset, .unset, .unset]) rfl gk) ?_
    show Go _ _ _ _ s₁ (mkF m 37 #[.val (.int p0), .val (.int p1), .val (.int p2), .val (.int k), .val (.int li), .val (.int md), .val (.int (((XT.ushr p0 (5 : Int32)) &&& (3 : Int32)) - ((XT.ushr p0 (5 : Int32)) &&& (3 : Int32)) / (3 : Int32) * (3 : Int32))), .unset, .unset, .unset, .unset, .unset, .unset, .unset, .unset, .unset, .unset, .unset, .unset, .unset, .unset] [])
    obtain ⟨lu, h_lu⟩ : ∃ z, z = (((XT.ushr p0 (5 : Int32)) &&& (3 : Int32)) - ((XT.ushr p0 (5 : Int32)) &&& (3 : Int32)) / (3 : Int32) * (3 : Int32)) := ⟨_, rfl⟩
    rw [← h_lu]
    show Go _ _ _ _ s₁ (mkF m 37 #[.val (.int p0), .val (.int p1), .val (.int p2), .val (.int k), .val (.int li), .val (.int md), .val (.int lu), .unset, .unset, .unset, .unset, .unset, .unset, .unset, .unset, .unset, .unset, .unset, .unset, .unset, .unset] [])
    have hlu := own_mod3 h_lu
    refine Go.by (fun _ gk => XS.iloadN X0.here hx rfl (hb hby at_37) rfl gk) ?_
    show Go _ _ _ _ s₁ (mkF m 38 #[.val (.int p0), .val (.int p1), .val (.int p2), .val (.int k), .val (.int li), .val (.int md), .val (.int lu), .unset, .unset, .unset, .unset, .unset, .unset, .unset, .unset, .unset, .unset, .unset, .unset, .unset, .unset] [(.int p0)])
    refine Go.by (fun _ gk => XT.bipushV X0.here hx rfl (7 : Int32) (hb hby at_38) (by decide) gk) ?_
    show Go _ _ _ _ s₁ (mkF m 40 #[.val (.int p0), .val (.int p1), .val (.int p2), .val (.int k), .val (.int li), .val (.int md), .val (.int lu), .unset, .unset, .unset, .unset, .unset, .unset, .unset, .unset, .unset, .unset, .unset, .unset, .unset, .unset] [(.int (7 : Int32)), (.int p0)])
    refine Go.by (fun _ gk => XT.iushr X0.here hx rfl (hb hby at_40) rfl gk) ?_
    show Go _ _ _ _ s₁ (mkF m 41 #[.val (.int p0), .val (.int p1), .val (.int p2), .val (.int k), .val (.int li), .val (.int md), .val (.int lu), .unset, .unset, .unset, .unset, .unset, .unset, .unset, .unset, .unset, .unset, .unset, .unset, .unset, .unset] [(.int (XT.ushr p0 (7 : Int32)))])
    refine Go.by (fun _ gk => XT.iconstV X0.here hx rfl (3 : Int32) (hb hby at_41) (by decide) gk) ?_
    show Go _ _ _ _ s₁ (mkF m 42 #[.val (.int p0), .val (.int p1), .val (.int p2), .val (.int k), .val (.int li), .val (.int md), .val (.int lu), .unset, .unset, .unset, .unset, .unset, .unset, .unset, .unset, .unset, .unset, .unset, .unset, .unset, .unset] [(.int (3 : Int32)), (.int (XT.ushr p0 (7 : Int32)))])
    refine Go.by (fun _ gk => XS.iand X0.here hx rfl (hb hby at_42) rfl gk) ?_
    show Go _ _ _ _ s₁ (mkF m 43 #[.val (.int p0), .val (.int p1), .val (.int p2), .val (.int k), .val (.int li), .val (.int md), .val (.int lu), .unset, .unset, .unset, .unset, .unset, .unset, .unset, .unset, .unset, .unset, .unset, .unset, .unset, .unset] [(.int ((XT.ushr p0 (7 : Int32)) &&& (3 : Int32)))])
    refine Go.by (fun _ gk => XT.iconstV X0.here hx rfl (3 : Int32) (hb hby at_43) (by decide) gk) ?_
    show Go _ _ _ _ s₁ (mkF m 44 #[.val (.int p0), .val (.int p1), .val (.int p2), .val (.int k), .val (.int li), .val (.int md), .val (.int lu), .unset, .unset, .unset, .unset, .unset, .unset, .unset, .unset, .unset, .unset, .unset, .unset, .unset, .unset] [(.int (3 : Int32)), (.int ((XT.ushr p0 (7 : Int32)) &&& (3 : Int32)))])
    refine Go.by (fun _ gk => XS.irem X0.here hx rfl (hb hby at_44) rfl (by decide) gk) ?_
    show Go _ _ _ _ s₁ (mkF m 45 #[.val (.int p0), .val (.int p1), .val (.int p2), .val (.int k), .val (.int li), .val (.int md), .val (.int lu), .unset, .unset, .unset, .unset, .unset, .unset, .unset, .unset, .unset, .unset, .unset, .unset, .unset, .unset] [(.int (((XT.ushr p0 (7 : Int32)) &&& (3 : Int32)) - ((XT.ushr p0 (7 : Int32)) &&& (3 : Int32)) / (3 : Int32) * (3 : Int32)))])
    refine Go.by (fun _ gk => XS.istore X0.here hx rfl (hb hby at_45) rfl (l' := #[.val (.int p0), .val (.int p1), .val (.int p2), .val (.int k), .val (.int li), .val (.int md), .val (.int lu), .val (.int (((XT.ushr p0 (7 : Int32)) &&& (3 : Int32)) - ((XT.ushr p0 (7 : Int32)) &&& (3 : Int32)) / (3 : Int32) * (3 : Int32))), .unset, .unset, .unset, .unset, .unset, .unset, .unset, .unset, .unset, .unset, .unset, .unset, .unset]) rfl gk) ?_
    show Go _ _ _ _ s₁ (mkF m 47 #[.val (.int p0), .val (.int p1), .val (.int p2), .val (.int k), .val (.int li), .val (.int md), .val (.int lu), .val (.int (((XT.ushr p0 (7 : Int32)) &&& (3 : Int32)) - ((XT.ushr p0 (7 : Int32)) &&& (3 : Int32)) / (3 : Int32) * (3 : Int32))), .unset, .unset, .unset, .unset, .unset, .unset, .unset, .unset, .unset, .unset, .unset, .unset, .unset] [])
    obtain ⟨lr, h_lr⟩ : ∃ z, z = (((XT.ushr p0 (7 : Int32)) &&& (3 : Int32)) - ((XT.ushr p0 (7 : Int32)) &&& (3 : Int32)) / (3 : Int32) * (3 : Int32)) := ⟨_, rfl⟩
    rw [← h_lr]
    show Go _ _ _ _ s₁ (mkF m 47 #[.val (.int p0), .val (.int p1), .val (.int p2), .val (.int k), .val (.int li), .val (.int md), .val (.int lu), .val (.int lr), .unset, .unset, .unset, .unset, .unset, .unset, .unset, .unset, .unset, .unset, .unset, .unset, .unset] [])
    have hlr := own_mod3 h_lr
    refine Go.by (fun _ gk => XS.iloadN X0.here hx rfl (hb hby at_47) rfl gk) ?_
    show Go _ _ _ _ s₁ (mkF m 48 #[.val (.int p0), .val (.int p1), .val (.int p2), .val (.int k), .val (.int li), .val (.int md), .val (.int lu), .val (.int lr), .unset, .unset, .unset, .unset, .unset, .unset, .unset, .unset, .unset, .unset, .unset, .unset, .unset] [(.int p1)])
    refine Go.by (fun _ gk => XT.sipushV X0.here hx rfl (255 : Int32) (hb hby at_48) (by decide) gk) ?_
    show Go _ _ _ _ s₁ (mkF m 51 #[.val (.int p0), .val (.int p1), .val (.int p2), .val (.int k), .val (.int li), .val (.int md), .val (.int lu), .val (.int lr), .unset, .unset, .unset, .unset, .unset, .unset, .unset, .unset, .unset, .unset, .unset, .unset, .unset] [(.int (255 : Int32)), (.int p1)])
    refine Go.by (fun _ gk => XS.iand X0.here hx rfl (hb hby at_51) rfl gk) ?_
    show Go _ _ _ _ s₁ (mkF m 52 #[.val (.int p0), .val (.int p1), .val (.int p2), .val (.int k), .val (.int li), .val (.int md), .val (.int lu), .val (.int lr), .unset, .unset, .unset, .unset, .unset, .unset, .unset, .unset, .unset, .unset, .unset, .unset, .unset] [(.int (p1 &&& (255 : Int32)))])
    refine Go.by (fun _ gk => XT.i2c X0.here hx rfl (hb hby at_52) rfl gk) ?_
    show Go _ _ _ _ s₁ (mkF m 53 #[.val (.int p0), .val (.int p1), .val (.int p2), .val (.int k), .val (.int li), .val (.int md), .val (.int lu), .val (.int lr), .unset, .unset, .unset, .unset, .unset, .unset, .unset, .unset, .unset, .unset, .unset, .unset, .unset] [(.int ((p1 &&& (255 : Int32)).toUInt32.toUInt16.toUInt32.toInt32))])
    rw [i2c_mask]
    show Go _ _ _ _ s₁ (mkF m 53 #[.val (.int p0), .val (.int p1), .val (.int p2), .val (.int k), .val (.int li), .val (.int md), .val (.int lu), .val (.int lr), .unset, .unset, .unset, .unset, .unset, .unset, .unset, .unset, .unset, .unset, .unset, .unset, .unset] [(.int (p1 &&& (255 : Int32)))])
    refine Go.by (fun _ gk => XS.istore X0.here hx rfl (hb hby at_53) rfl (l' := #[.val (.int p0), .val (.int p1), .val (.int p2), .val (.int k), .val (.int li), .val (.int md), .val (.int lu), .val (.int lr), .val (.int (p1 &&& (255 : Int32))), .unset, .unset, .unset, .unset, .unset, .unset, .unset, .unset, .unset, .unset, .unset, .unset]) rfl gk) ?_
    show Go _ _ _ _ s₁ (mkF m 55 #[.val (.int p0), .val (.int p1), .val (.int p2), .val (.int k), .val (.int li), .val (.int md), .val (.int lu), .val (.int lr), .val (.int (p1 &&& (255 : Int32))), .unset, .unset, .unset, .unset, .unset, .unset, .unset, .unset, .unset, .unset, .unset, .unset] [])
    obtain ⟨ua, h_ua⟩ : ∃ z, z = (p1 &&& (255 : Int32)) := ⟨_, rfl⟩
    rw [← h_ua]
    show Go _ _ _ _ s₁ (mkF m 55 #[.val (.int p0), .val (.int p1), .val (.int p2), .val (.int k), .val (.int li), .val (.int md), .val (.int lu), .val (.int lr), .val (.int ua), .unset, .unset, .unset, .unset, .unset, .unset, .unset, .unset, .unset, .unset, .unset, .unset] [])
    have q_ua := own_chr h_ua
    refine Go.by (fun _ gk => XS.iloadN X0.here hx rfl (hb hby at_55) rfl gk) ?_
    show Go _ _ _ _ s₁ (mkF m 56 #[.val (.int p0), .val (.int p1), .val (.int p2), .val (.int k), .val (.int li), .val (.int md), .val (.int lu), .val (.int lr), .val (.int ua), .unset, .unset, .unset, .unset, .unset, .unset, .unset, .unset, .unset, .unset, .unset, .unset] [(.int p1)])
    refine Go.by (fun _ gk => XT.bipushV X0.here hx rfl (8 : Int32) (hb hby at_56) (by decide) gk) ?_
    show Go _ _ _ _ s₁ (mkF m 58 #[.val (.int p0), .val (.int p1), .val (.int p2), .val (.int k), .val (.int li), .val (.int md), .val (.int lu), .val (.int lr), .val (.int ua), .unset, .unset, .unset, .unset, .unset, .unset, .unset, .unset, .unset, .unset, .unset, .unset] [(.int (8 : Int32)), (.int p1)])
    refine Go.by (fun _ gk => XT.iushr X0.here hx rfl (hb hby at_58) rfl gk) ?_
    show Go _ _ _ _ s₁ (mkF m 59 #[.val (.int p0), .val (.int p1), .val (.int p2), .val (.int k), .val (.int li), .val (.int md), .val (.int lu), .val (.int lr), .val (.int ua), .unset, .unset, .unset, .unset, .unset, .unset, .unset, .unset, .unset, .unset, .unset, .unset] [(.int (XT.ushr p1 (8 : Int32)))])
    refine Go.by (fun _ gk => XT.sipushV X0.here hx rfl (255 : Int32) (hb hby at_59) (by decide) gk) ?_
    show Go _ _ _ _ s₁ (mkF m 62 #[.val (.int p0), .val (.int p1), .val (.int p2), .val (.int k), .val (.int li), .val (.int md), .val (.int lu), .val (.int lr), .val (.int ua), .unset, .unset, .unset, .unset, .unset, .unset, .unset, .unset, .unset, .unset, .unset, .unset] [(.int (255 : Int32)), (.int (XT.ushr p1 (8 : Int32)))])
    refine Go.by (fun _ gk => XS.iand X0.here hx rfl (hb hby at_62) rfl gk) ?_
    show Go _ _ _ _ s₁ (mkF m 63 #[.val (.int p0), .val (.int p1), .val (.int p2), .val (.int k), .val (.int li), .val (.int md), .val (.int lu), .val (.int lr), .val (.int ua), .unset, .unset, .unset, .unset, .unset, .unset, .unset, .unset, .unset, .unset, .unset, .unset] [(.int ((XT.ushr p1 (8 : Int32)) &&& (255 : Int32)))])
    refine Go.by (fun _ gk => XT.i2c X0.here hx rfl (hb hby at_63) rfl gk) ?_
    show Go _ _ _ _ s₁ (mkF m 64 #[.val (.int p0), .val (.int p1), .val (.int p2), .val (.int k), .val (.int li), .val (.int md), .val (.int lu), .val (.int lr), .val (.int ua), .unset, .unset, .unset, .unset, .unset, .unset, .unset, .unset, .unset, .unset, .unset, .unset] [(.int (((XT.ushr p1 (8 : Int32)) &&& (255 : Int32)).toUInt32.toUInt16.toUInt32.toInt32))])
    rw [i2c_mask]
    show Go _ _ _ _ s₁ (mkF m 64 #[.val (.int p0), .val (.int p1), .val (.int p2), .val (.int k), .val (.int li), .val (.int md), .val (.int lu), .val (.int lr), .val (.int ua), .unset, .unset, .unset, .unset, .unset, .unset, .unset, .unset, .unset, .unset, .unset, .unset] [(.int ((XT.ushr p1 (8 : Int32)) &&& (255 : Int32)))])
    refine Go.by (fun _ gk => XS.istore X0.here hx rfl (hb hby at_64) rfl (l' := #[.val (.int p0), .val (.int p1), .val (.int p2), .val (.int k), .val (.int li), .val (.int md), .val (.int lu), .val (.int lr), .val (.int ua), .val (.int ((XT.ushr p1 (8 : Int32)) &&& (255 : Int32))), .unset, .unset, .unset, .unset, .unset, .unset, .unset, .unset, .unset, .unset, .unset]) rfl gk) ?_
    show Go _ _ _ _ s₁ (mkF m 66 #[.val (.int p0), .val (.int p1), .val (.int p2), .val (.int k), .val (.int li), .val (.int md), .val (.int lu), .val (.int lr), .val (.int ua), .val (.int ((XT.ushr p1 (8 : Int32)) &&& (255 : Int32))), .unset, .unset, .unset, .unset, .unset, .unset, .unset, .unset, .unset, .unset, .unset] [])
    obtain ⟨ub, h_ub⟩ : ∃ z, z = ((XT.ushr p1 (8 : Int32)) &&& (255 : Int32)) := ⟨_, rfl⟩
    rw [← h_ub]
    show Go _ _ _ _ s₁ (mkF m 66 #[.val (.int p0), .val (.int p1), .val (.int p2), .val (.int k), .val (.int li), .val (.int md), .val (.int lu), .val (.int lr), .val (.int ua), .val (.int ub), .unset, .unset, .unset, .unset, .unset, .unset, .unset, .unset, .unset, .unset, .unset] [])
    have q_ub := own_chr h_ub
    refine Go.by (fun _ gk => XS.iloadN X0.here hx rfl (hb hby at_66) rfl gk) ?_
    show Go _ _ _ _ s₁ (mkF m 67 #[.val (.int p0), .val (.int p1), .val (.int p2), .val (.int k), .val (.int li), .val (.int md), .val (.int lu), .val (.int lr), .val (.int ua), .val (.int ub), .unset, .unset, .unset, .unset, .unset, .unset, .unset, .unset, .unset, .unset, .unset] [(.int p2)])
    refine Go.by (fun _ gk => XT.sipushV X0.here hx rfl (255 : Int32) (hb hby at_67) (by decide) gk) ?_
    show Go _ _ _ _ s₁ (mkF m 70 #[.val (.int p0), .val (.int p1), .val (.int p2), .val (.int k), .val (.int li), .val (.int md), .val (.int lu), .val (.int lr), .val (.int ua), .val (.int ub), .unset, .unset, .unset, .unset, .unset, .unset, .unset, .unset, .unset, .unset, .unset] [(.int (255 : Int32)), (.int p2)])
    refine Go.by (fun _ gk => XS.iand X0.here hx rfl (hb hby at_70) rfl gk) ?_
    show Go _ _ _ _ s₁ (mkF m 71 #[.val (.int p0), .val (.int p1), .val (.int p2), .val (.int k), .val (.int li), .val (.int md), .val (.int lu), .val (.int lr), .val (.int ua), .val (.int ub), .unset, .unset, .unset, .unset, .unset, .unset, .unset, .unset, .unset, .unset, .unset] [(.int (p2 &&& (255 : Int32)))])
    refine Go.by (fun _ gk => XT.i2c X0.here hx rfl (hb hby at_71) rfl gk) ?_
    show Go _ _ _ _ s₁ (mkF m 72 #[.val (.int p0), .val (.int p1), .val (.int p2), .val (.int k), .val (.int li), .val (.int md), .val (.int lu), .val (.int lr), .val (.int ua), .val (.int ub), .unset, .unset, .unset, .unset, .unset, .unset, .unset, .unset, .unset, .unset, .unset] [(.int ((p2 &&& (255 : Int32)).toUInt32.toUInt16.toUInt32.toInt32))])
    rw [i2c_mask]
    show Go _ _ _ _ s₁ (mkF m 72 #[.val (.int p0), .val (.int p1), .val (.int p2), .val (.int k), .val (.int li), .val (.int md), .val (.int lu), .val (.int lr), .val (.int ua), .val (.int ub), .unset, .unset, .unset, .unset, .unset, .unset, .unset, .unset, .unset, .unset, .unset] [(.int (p2 &&& (255 : Int32)))])
    refine Go.by (fun _ gk => XS.istore X0.here hx rfl (hb hby at_72) rfl (l' := #[.val (.int p0), .val (.int p1), .val (.int p2), .val (.int k), .val (.int li), .val (.int md), .val (.int lu), .val (.int lr), .val (.int ua), .val (.int ub), .val (.int (p2 &&& (255 : Int32))), .unset, .unset, .unset, .unset, .unset, .unset, .unset, .unset, .unset, .unset]) rfl gk) ?_
    show Go _ _ _ _ s₁ (mkF m 74 #[.val (.int p0), .val (.int p1), .val (.int p2), .val (.int k), .val (.int li), .val (.int md), .val (.int lu), .val (.int lr), .val (.int ua), .val (.int ub), .val (.int (p2 &&& (255 : Int32))), .unset, .unset, .unset, .unset, .unset, .unset, .unset, .unset, .unset, .unset] [])
    obtain ⟨rc, h_rc⟩ : ∃ z, z = (p2 &&& (255 : Int32)) := ⟨_, rfl⟩
    rw [← h_rc]
    show Go _ _ _ _ s₁ (mkF m 74 #[.val (.int p0), .val (.int p1), .val (.int p2), .val (.int k), .val (.int li), .val (.int md), .val (.int lu), .val (.int lr), .val (.int ua), .val (.int ub), .val (.int rc), .unset, .unset, .unset, .unset, .unset, .unset, .unset, .unset, .unset, .unset] [])
    have q_rc := own_chr h_rc
    refine Go.by (fun _ gk => XS.iloadN X0.here hx rfl (hb hby at_74) rfl gk) ?_
    show Go _ _ _ _ s₁ (mkF m 75 #[.val (.int p0), .val (.int p1), .val (.int p2), .val (.int k), .val (.int li), .val (.int md), .val (.int lu), .val (.int lr), .val (.int ua), .val (.int ub), .val (.int rc), .unset, .unset, .unset, .unset, .unset, .unset, .unset, .unset, .unset, .unset] [(.int p2)])
    refine Go.by (fun _ gk => XT.bipushV X0.here hx rfl (8 : Int32) (hb hby at_75) (by decide) gk) ?_
    show Go _ _ _ _ s₁ (mkF m 77 #[.val (.int p0), .val (.int p1), .val (.int p2), .val (.int k), .val (.int li), .val (.int md), .val (.int lu), .val (.int lr), .val (.int ua), .val (.int ub), .val (.int rc), .unset, .unset, .unset, .unset, .unset, .unset, .unset, .unset, .unset, .unset] [(.int (8 : Int32)), (.int p2)])
    refine Go.by (fun _ gk => XT.iushr X0.here hx rfl (hb hby at_77) rfl gk) ?_
    show Go _ _ _ _ s₁ (mkF m 78 #[.val (.int p0), .val (.int p1), .val (.int p2), .val (.int k), .val (.int li), .val (.int md), .val (.int lu), .val (.int lr), .val (.int ua), .val (.int ub), .val (.int rc), .unset, .unset, .unset, .unset, .unset, .unset, .unset, .unset, .unset, .unset] [(.int (XT.ushr p2 (8 : Int32)))])
    refine Go.by (fun _ gk => XT.sipushV X0.here hx rfl (255 : Int32) (hb hby at_78) (by decide) gk) ?_
    show Go _ _ _ _ s₁ (mkF m 81 #[.val (.int p0), .val (.int p1), .val (.int p2), .val (.int k), .val (.int li), .val (.int md), .val (.int lu), .val (.int lr), .val (.int ua), .val (.int ub), .val (.int rc), .unset, .unset, .unset, .unset, .unset, .unset, .unset, .unset, .unset, .unset] [(.int (255 : Int32)), (.int (XT.ushr p2 (8 : Int32)))])
    refine Go.by (fun _ gk => XS.iand X0.here hx rfl (hb hby at_81) rfl gk) ?_
    show Go _ _ _ _ s₁ (mkF m 82 #[.val (.int p0), .val (.int p1), .val (.int p2), .val (.int k), .val (.int li), .val (.int md), .val (.int lu), .val (.int lr), .val (.int ua), .val (.int ub), .val (.int rc), .unset, .unset, .unset, .unset, .unset, .unset, .unset, .unset, .unset, .unset] [(.int ((XT.ushr p2 (8 : Int32)) &&& (255 : Int32)))])
    refine Go.by (fun _ gk => XT.i2c X0.here hx rfl (hb hby at_82) rfl gk) ?_
    show Go _ _ _ _ s₁ (mkF m 83 #[.val (.int p0), .val (.int p1), .val (.int p2), .val (.int k), .val (.int li), .val (.int md), .val (.int lu), .val (.int lr), .val (.int ua), .val (.int ub), .val (.int rc), .unset, .unset, .unset, .unset, .unset, .unset, .unset, .unset, .unset, .unset] [(.int (((XT.ushr p2 (8 : Int32)) &&& (255 : Int32)).toUInt32.toUInt16.toUInt32.toInt32))])
    rw [i2c_mask]
    show Go _ _ _ _ s₁ (mkF m 83 #[.val (.int p0), .val (.int p1), .val (.int p2), .val (.int k), .val (.int li), .val (.int md), .val (.int lu), .val (.int lr), .val (.int ua), .val (.int ub), .val (.int rc), .unset, .unset, .unset, .unset, .unset, .unset, .unset, .unset, .unset, .unset] [(.int ((XT.ushr p2 (8 : Int32)) &&& (255 : Int32)))])
    refine Go.by (fun _ gk => XS.istore X0.here hx rfl (hb hby at_83) rfl (l' := #[.val (.int p0), .val (.int p1), .val (.int p2), .val (.int k), .val (.int li), .val (.int md), .val (.int lu), .val (.int lr), .val (.int ua), .val (.int ub), .val (.int rc), .val (.int ((XT.ushr p2 (8 : Int32)) &&& (255 : Int32))), .unset, .unset, .unset, .unset, .unset, .unset, .unset, .unset, .unset]) rfl gk) ?_
    show Go _ _ _ _ s₁ (mkF m 85 #[.val (.int p0), .val (.int p1), .val (.int p2), .val (.int k), .val (.int li), .val (.int md), .val (.int lu), .val (.int lr), .val (.int ua), .val (.int ub), .val (.int rc), .val (.int ((XT.ushr p2 (8 : Int32)) &&& (255 : Int32))), .unset, .unset, .unset, .unset, .unset, .unset, .unset, .unset, .unset] [])
    obtain ⟨rd, h_rd⟩ : ∃ z, z = ((XT.ushr p2 (8 : Int32)) &&& (255 : Int32)) := ⟨_, rfl⟩
    rw [← h_rd]
    show Go _ _ _ _ s₁ (mkF m 85 #[.val (.int p0), .val (.int p1), .val (.int p2), .val (.int k), .val (.int li), .val (.int md), .val (.int lu), .val (.int lr), .val (.int ua), .val (.int ub), .val (.int rc), .val (.int rd), .unset, .unset, .unset, .unset, .unset, .unset, .unset, .unset, .unset] [])
    have q_rd := own_chr h_rd
    refine Go.by (fun _ gk => XS.iloadN X0.here hx rfl (hb hby at_85) rfl gk) ?_
    show Go _ _ _ _ s₁ (mkF m 86 #[.val (.int p0), .val (.int p1), .val (.int p2), .val (.int k), .val (.int li), .val (.int md), .val (.int lu), .val (.int lr), .val (.int ua), .val (.int ub), .val (.int rc), .val (.int rd), .unset, .unset, .unset, .unset, .unset, .unset, .unset, .unset, .unset] [(.int k)])
    refine Go.joinT (α := Addr) (St := own_at X0 h0) (P := fun vv => (k = 0 ∧ c_EVERYONE = vv) ∨ (k = 1 ∧ c_CONTACTS = vv) ∨ (k = 2 ∧ c_NOBODY = vv)) (fr := fun vv => (mkF m 115 #[.val (.int p0), .val (.int p1), .val (.int p2), .val (.int k), .val (.int li), .val (.int md), .val (.int lu), .val (.int lr), .val (.int ua), .val (.int ub), .val (.int rc), .val (.int rd), .val (.ref vv), .unset, .unset, .unset, .unset, .unset, .unset, .unset, .unset] [])) ?_ ?_
    · intro T2 Xq2 vv h_vv
      obtain ⟨X2, e2⟩ := Xq2
      show Go _ _ _ _ T2 (mkF m 115 #[.val (.int p0), .val (.int p1), .val (.int p2), .val (.int k), .val (.int li), .val (.int md), .val (.int lu), .val (.int lr), .val (.int ua), .val (.int ub), .val (.int rc), .val (.int rd), .val (.ref vv), .unset, .unset, .unset, .unset, .unset, .unset, .unset, .unset] [])
      have E_vv : Exa Z Z.heap vv "com/example/muster/muster/model/Visibility" := by
        rcases h_vv with ⟨-, rfl⟩ | ⟨-, rfl⟩ | ⟨-, rfl⟩
        · exact E_c_EVERYONE
        · exact E_c_CONTACTS
        · exact E_c_NOBODY
      refine Go.by (fun _ gk => XS.iload X2.here hx rfl (hb hby at_115) rfl gk) ?_
      show Go _ _ _ _ T2 (mkF m 117 #[.val (.int p0), .val (.int p1), .val (.int p2), .val (.int k), .val (.int li), .val (.int md), .val (.int lu), .val (.int lr), .val (.int ua), .val (.int ub), .val (.int rc), .val (.int rd), .val (.ref vv), .unset, .unset, .unset, .unset, .unset, .unset, .unset, .unset] [(.int md)])
      refine Go.by (fun _ gk => XT.iconstV X2.here hx rfl (1 : Int32) (hb hby at_117) (by decide) gk) ?_
      show Go _ _ _ _ T2 (mkF m 118 #[.val (.int p0), .val (.int p1), .val (.int p2), .val (.int k), .val (.int li), .val (.int md), .val (.int lu), .val (.int lr), .val (.int ua), .val (.int ub), .val (.int rc), .val (.int rd), .val (.ref vv), .unset, .unset, .unset, .unset, .unset, .unset, .unset, .unset] [(.int (1 : Int32)), (.int md)])
      by_cases hb3 : md = (1 : Int32)
      · refine Go.by (fun _ gk => XS.icmpNo X2.here hx rfl (hb hby at_118) rfl (XT.ii_ne_f hb3) gk) ?_
        show Go _ _ _ _ T2 (mkF m 121 #[.val (.int p0), .val (.int p1), .val (.int p2), .val (.int k), .val (.int li), .val (.int md), .val (.int lu), .val (.int lr), .val (.int ua), .val (.int ub), .val (.int rc), .val (.int rd), .val (.ref vv), .unset, .unset, .unset, .unset, .unset, .unset, .unset, .unset] [])
        refine Go.by (fun _ gk => XS.iload X2.here hx rfl (hb hby at_121) rfl gk) ?_
        show Go _ _ _ _ T2 (mkF m 123 #[.val (.int p0), .val (.int p1), .val (.int p2), .val (.int k), .val (.int li), .val (.int md), .val (.int lu), .val (.int lr), .val (.int ua), .val (.int ub), .val (.int rc), .val (.int rd), .val (.ref vv), .unset, .unset, .unset, .unset, .unset, .unset, .unset, .unset] [(.int lu)])
        refine Go.by (fun _ gk => XS.goto X2.here hx rfl (pc0 := 123) (pc' := 128) rfl (hb hby at_123) (by decide) (by decide) gk) ?_
        show Go _ _ _ _ T2 (mkF m 128 #[.val (.int p0), .val (.int p1), .val (.int p2), .val (.int k), .val (.int li), .val (.int md), .val (.int lu), .val (.int lr), .val (.int ua), .val (.int ub), .val (.int rc), .val (.int rd), .val (.ref vv), .unset, .unset, .unset, .unset, .unset, .unset, .unset, .unset] [(.int lu)])
        refine Go.by (fun _ gk => XS.istore X2.here hx rfl (hb hby at_128) rfl (l' := #[.val (.int p0), .val (.int p1), .val (.int p2), .val (.int k), .val (.int li), .val (.int md), .val (.int lu), .val (.int lr), .val (.int ua), .val (.int ub), .val (.int rc), .val (.int rd), .val (.ref vv), .val (.int lu), .unset, .unset, .unset, .unset, .unset, .unset, .unset]) rfl gk) ?_
        show Go _ _ _ _ T2 (mkF m 130 #[.val (.int p0), .val (.int p1), .val (.int p2), .val (.int k), .val (.int li), .val (.int md), .val (.int lu), .val (.int lr), .val (.int ua), .val (.int ub), .val (.int rc), .val (.int rd), .val (.ref vv), .val (.int lu), .unset, .unset, .unset, .unset, .unset, .unset, .unset] [])
        refine Go.by (fun _ gk => XS.iload X2.here hx rfl (hb hby at_130) rfl gk) ?_
        show Go _ _ _ _ T2 (mkF m 132 #[.val (.int p0), .val (.int p1), .val (.int p2), .val (.int k), .val (.int li), .val (.int md), .val (.int lu), .val (.int lr), .val (.int ua), .val (.int ub), .val (.int rc), .val (.int rd), .val (.ref vv), .val (.int lu), .unset, .unset, .unset, .unset, .unset, .unset, .unset] [(.int md)])
        refine Go.by (fun _ gk => XT.iconstV X2.here hx rfl (1 : Int32) (hb hby at_132) (by decide) gk) ?_
        show Go _ _ _ _ T2 (mkF m 133 #[.val (.int p0), .val (.int p1), .val (.int p2), .val (.int k), .val (.int li), .val (.int md), .val (.int lu), .val (.int lr), .val (.int ua), .val (.int ub), .val (.int rc), .val (.int rd), .val (.ref vv), .val (.int lu), .unset, .unset, .unset, .unset, .unset, .unset, .unset] [(.int (1 : Int32)), (.int md)])
        refine Go.by (fun _ gk => XS.icmpNo X2.here hx rfl (hb hby at_133) rfl (XT.ii_ne_f hb3) gk) ?_
        show Go _ _ _ _ T2 (mkF m 136 #[.val (.int p0), .val (.int p1), .val (.int p2), .val (.int k), .val (.int li), .val (.int md), .val (.int lu), .val (.int lr), .val (.int ua), .val (.int ub), .val (.int rc), .val (.int rd), .val (.ref vv), .val (.int lu), .unset, .unset, .unset, .unset, .unset, .unset, .unset] [])
        refine Go.by (fun _ gk => XS.iload X2.here hx rfl (hb hby at_136) rfl gk) ?_
        show Go _ _ _ _ T2 (mkF m 138 #[.val (.int p0), .val (.int p1), .val (.int p2), .val (.int k), .val (.int li), .val (.int md), .val (.int lu), .val (.int lr), .val (.int ua), .val (.int ub), .val (.int rc), .val (.int rd), .val (.ref vv), .val (.int lu), .unset, .unset, .unset, .unset, .unset, .unset, .unset] [(.int ua)])
        refine Go.by (fun _ gk => XS.goto X2.here hx rfl (pc0 := 138) (pc' := 143) rfl (hb hby at_138) (by decide) (by decide) gk) ?_
        show Go _ _ _ _ T2 (mkF m 143 #[.val (.int p0), .val (.int p1), .val (.int p2), .val (.int k), .val (.int li), .val (.int md), .val (.int lu), .val (.int lr), .val (.int ua), .val (.int ub), .val (.int rc), .val (.int rd), .val (.ref vv), .val (.int lu), .unset, .unset, .unset, .unset, .unset, .unset, .unset] [(.int ua)])
        refine Go.by (fun _ gk => XS.istore X2.here hx rfl (hb hby at_143) rfl (l' := #[.val (.int p0), .val (.int p1), .val (.int p2), .val (.int k), .val (.int li), .val (.int md), .val (.int lu), .val (.int lr), .val (.int ua), .val (.int ub), .val (.int rc), .val (.int rd), .val (.ref vv), .val (.int lu), .val (.int ua), .unset, .unset, .unset, .unset, .unset, .unset]) rfl gk) ?_
        show Go _ _ _ _ T2 (mkF m 145 #[.val (.int p0), .val (.int p1), .val (.int p2), .val (.int k), .val (.int li), .val (.int md), .val (.int lu), .val (.int lr), .val (.int ua), .val (.int ub), .val (.int rc), .val (.int rd), .val (.ref vv), .val (.int lu), .val (.int ua), .unset, .unset, .unset, .unset, .unset, .unset] [])
        refine Go.by (fun _ gk => XS.iload X2.here hx rfl (hb hby at_145) rfl gk) ?_
        show Go _ _ _ _ T2 (mkF m 147 #[.val (.int p0), .val (.int p1), .val (.int p2), .val (.int k), .val (.int li), .val (.int md), .val (.int lu), .val (.int lr), .val (.int ua), .val (.int ub), .val (.int rc), .val (.int rd), .val (.ref vv), .val (.int lu), .val (.int ua), .unset, .unset, .unset, .unset, .unset, .unset] [(.int md)])
        refine Go.by (fun _ gk => XT.iconstV X2.here hx rfl (1 : Int32) (hb hby at_147) (by decide) gk) ?_
        show Go _ _ _ _ T2 (mkF m 148 #[.val (.int p0), .val (.int p1), .val (.int p2), .val (.int k), .val (.int li), .val (.int md), .val (.int lu), .val (.int lr), .val (.int ua), .val (.int ub), .val (.int rc), .val (.int rd), .val (.ref vv), .val (.int lu), .val (.int ua), .unset, .unset, .unset, .unset, .unset, .unset] [(.int (1 : Int32)), (.int md)])
        refine Go.by (fun _ gk => XS.icmpNo X2.here hx rfl (hb hby at_148) rfl (XT.ii_ne_f hb3) gk) ?_
        show Go _ _ _ _ T2 (mkF m 151 #[.val (.int p0), .val (.int p1), .val (.int p2), .val (.int k), .val (.int li), .val (.int md), .val (.int lu), .val (.int lr), .val (.int ua), .val (.int ub), .val (.int rc), .val (.int rd), .val (.ref vv), .val (.int lu), .val (.int ua), .unset, .unset, .unset, .unset, .unset, .unset] [])
        refine Go.by (fun _ gk => XS.iload X2.here hx rfl (hb hby at_151) rfl gk) ?_
        show Go _ _ _ _ T2 (mkF m 153 #[.val (.int p0), .val (.int p1), .val (.int p2), .val (.int k), .val (.int li), .val (.int md), .val (.int lu), .val (.int lr), .val (.int ua), .val (.int ub), .val (.int rc), .val (.int rd), .val (.ref vv), .val (.int lu), .val (.int ua), .unset, .unset, .unset, .unset, .unset, .unset] [(.int ub)])
        refine Go.by (fun _ gk => XS.goto X2.here hx rfl (pc0 := 153) (pc' := 158) rfl (hb hby at_153) (by decide) (by decide) gk) ?_
        show Go _ _ _ _ T2 (mkF m 158 #[.val (.int p0), .val (.int p1), .val (.int p2), .val (.int k), .val (.int li), .val (.int md), .val (.int lu), .val (.int lr), .val (.int ua), .val (.int ub), .val (.int rc), .val (.int rd), .val (.ref vv), .val (.int lu), .val (.int ua), .unset, .unset, .unset, .unset, .unset, .unset] [(.int ub)])
        refine Go.by (fun _ gk => XS.istore X2.here hx rfl (hb hby at_158) rfl (l' := #[.val (.int p0), .val (.int p1), .val (.int p2), .val (.int k), .val (.int li), .val (.int md), .val (.int lu), .val (.int lr), .val (.int ua), .val (.int ub), .val (.int rc), .val (.int rd), .val (.ref vv), .val (.int lu), .val (.int ua), .val (.int ub), .unset, .unset, .unset, .unset, .unset]) rfl gk) ?_
        show Go _ _ _ _ T2 (mkF m 160 #[.val (.int p0), .val (.int p1), .val (.int p2), .val (.int k), .val (.int li), .val (.int md), .val (.int lu), .val (.int lr), .val (.int ua), .val (.int ub), .val (.int rc), .val (.int rd), .val (.ref vv), .val (.int lu), .val (.int ua), .val (.int ub), .unset, .unset, .unset, .unset, .unset] [])
        refine Go.by (fun _ gk => XS.iload X2.here hx rfl (hb hby at_160) rfl gk) ?_
        show Go _ _ _ _ T2 (mkF m 162 #[.val (.int p0), .val (.int p1), .val (.int p2), .val (.int k), .val (.int li), .val (.int md), .val (.int lu), .val (.int lr), .val (.int ua), .val (.int ub), .val (.int rc), .val (.int rd), .val (.ref vv), .val (.int lu), .val (.int ua), .val (.int ub), .unset, .unset, .unset, .unset, .unset] [(.int lu)])
        refine Go.by (fun _ gk => XS.iload X2.here hx rfl (hb hby at_162) rfl gk) ?_
        show Go _ _ _ _ T2 (mkF m 164 #[.val (.int p0), .val (.int p1), .val (.int p2), .val (.int k), .val (.int li), .val (.int md), .val (.int lu), .val (.int lr), .val (.int ua), .val (.int ub), .val (.int rc), .val (.int rd), .val (.ref vv), .val (.int lu), .val (.int ua), .val (.int ub), .unset, .unset, .unset, .unset, .unset] [(.int ua), (.int lu)])
        refine Go.by (fun _ gk => XS.iload X2.here hx rfl (hb hby at_164) rfl gk) ?_
        show Go _ _ _ _ T2 (mkF m 166 #[.val (.int p0), .val (.int p1), .val (.int p2), .val (.int k), .val (.int li), .val (.int md), .val (.int lu), .val (.int lr), .val (.int ua), .val (.int ub), .val (.int rc), .val (.int rd), .val (.ref vv), .val (.int lu), .val (.int ua), .val (.int ub), .unset, .unset, .unset, .unset, .unset] [(.int ub), (.int ua), (.int lu)])
        obtain ⟨_, _, ⟨T4, L4, k4, n4⟩, -, Xq4, hSq4, hgr4, ⟨Lc4, hQ4, l4, y4, z4, CH4⟩, st4⟩ := callSS X2 hx (y := (⟨"com/example/muster/muster/model/VisibilityShowsPinLaw", "str", "(ICC)Ljava/lang/String;"⟩ : MethodName)) hown (mvT hZ (hw _ (List.mem_of_getElem? (i := 3) rfl))) (mvT hZ (hw _ (List.mem_of_getElem? (i := 4) rfl))) (mvT hZ (hw _ (List.mem_of_getElem? (i := 5) rfl))) (mvT hZ (hw _ (List.mem_of_getElem? (i := 6) rfl))) (by decide) (backOfSH (W := 0) (rmStr l Z a0 hw [] lu ua ub cs h0 n0 Z0 O0 hlu q_ua.2 q_ub.2 S_cs n_cs) hZ (hw _ (List.mem_of_getElem? (i := 6) rfl)) (hw _ (List.mem_of_getElem? (i := 5) rfl)) (by decide) (by decide) hEL C0.1) (g := (mkF m 166 #[.val (.int p0), .val (.int p1), .val (.int p2), .val (.int k), .val (.int li), .val (.int md), .val (.int lu), .val (.int lr), .val (.int ua), .val (.int ub), .val (.int rc), .val (.int rd), .val (.ref vv), .val (.int lu), .val (.int ua), .val (.int ub), .unset, .unset, .unset, .unset, .unset] [(.int ub), (.int ua), (.int lu)])) rfl (by rw [hml]; rfl) (argsL := [(.int lu), (.int ua), (.int ub)]) (rest := []) (lenOf pd_212 rfl) rfl (by show 2 * 0 + _ ≤ _; exact Nat.le_of_eq rfl) (hb hby at_166) (fun _ _ => ⟨rfl, e2, (by decide : 0 + 6 ≤ _), (by decide : 0 + 12 ≤ _)⟩)
        dsimp only [Pt.U, Pt.locs, Pt.cells, Pt.slots] at Xq4 hSq4 hgr4 l4 y4 z4 st4 hQ4 CH4
        subst l4 y4 z4
        obtain ⟨us, usb, kus, rfl, N4q, K4, Q4_0, Q4_1, Q4_2, Q4_3, Q4_4⟩ := hQ4
        have N4 := Fr.app N0 N4q
        obtain ⟨X4, hS4, hZ4, hown4⟩ := rebS hS0 (by rw [e2]; exact hk0) Xq4 hSq4 hgr4 hZ hown
        have C5 : CHr Z own_EL s.vm h0 T4.vm T4.heap := C0.trans CH4
        refine Go.to st4 ?_
        show Go _ _ _ _ T4 (mkF m 169 #[.val (.int p0), .val (.int p1), .val (.int p2), .val (.int k), .val (.int li), .val (.int md), .val (.int lu), .val (.int lr), .val (.int ua), .val (.int ub), .val (.int rc), .val (.int rd), .val (.ref vv), .val (.int lu), .val (.int ua), .val (.int ub), .unset, .unset, .unset, .unset, .unset] [(.ref us)])
        have ge_us : n0 ≤ us := Nat.le_trans Z0 Q4_4
        have sz_us : h0.size ≤ us := Nat.le_trans (Keep.refl h0 []).1 Q4_4
        refine Go.by (fun _ gk => XS.astore X4.here hx rfl (hb hby at_169) rfl rfl (l' := #[.val (.int p0), .val (.int p1), .val (.int p2), .val (.int k), .val (.int li), .val (.int md), .val (.int lu), .val (.int lr), .val (.int ua), .val (.int ub), .val (.int rc), .val (.int rd), .val (.ref vv), .val (.int lu), .val (.int ua), .val (.int ub), .val (.ref us), .unset, .unset, .unset, .unset]) rfl gk) ?_
        show Go _ _ _ _ T4 (mkF m 171 #[.val (.int p0), .val (.int p1), .val (.int p2), .val (.int k), .val (.int li), .val (.int md), .val (.int lu), .val (.int lr), .val (.int ua), .val (.int ub), .val (.int rc), .val (.int rd), .val (.ref vv), .val (.int lu), .val (.int ua), .val (.int ub), .val (.ref us), .unset, .unset, .unset, .unset] [])
        refine Go.by (fun _ gk => XS.aconstNull X4.here hx rfl (hb hby at_171) gk) ?_
        show Go _ _ _ _ T4 (mkF m 172 #[.val (.int p0), .val (.int p1), .val (.int p2), .val (.int k), .val (.int li), .val (.int md), .val (.int lu), .val (.int lr), .val (.int ua), .val (.int ub), .val (.int rc), .val (.int rd), .val (.ref vv), .val (.int lu), .val (.int ua), .val (.int ub), .val (.ref us), .unset, .unset, .unset, .unset] [.null])
        refine Go.by (fun _ gk => XS.astore X4.here hx rfl (hb hby at_172) rfl rfl (l' := #[.val (.int p0), .val (.int p1), .val (.int p2), .val (.int k), .val (.int li), .val (.int md), .val (.int lu), .val (.int lr), .val (.int ua), .val (.int ub), .val (.int rc), .val (.int rd), .val (.ref vv), .val (.int lu), .val (.int ua), .val (.int ub), .val (.ref us), .val .null, .unset, .unset, .unset]) rfl gk) ?_
        show Go _ _ _ _ T4 (mkF m 174 #[.val (.int p0), .val (.int p1), .val (.int p2), .val (.int k), .val (.int li), .val (.int md), .val (.int lu), .val (.int lr), .val (.int ua), .val (.int ub), .val (.int rc), .val (.int rd), .val (.ref vv), .val (.int lu), .val (.int ua), .val (.int ub), .val (.ref us), .val .null, .unset, .unset, .unset] [])
        refine Go.by (fun _ gk => XS.iload X4.here hx rfl (hb hby at_174) rfl gk) ?_
        show Go _ _ _ _ T4 (mkF m 176 #[.val (.int p0), .val (.int p1), .val (.int p2), .val (.int k), .val (.int li), .val (.int md), .val (.int lu), .val (.int lr), .val (.int ua), .val (.int ub), .val (.int rc), .val (.int rd), .val (.ref vv), .val (.int lu), .val (.int ua), .val (.int ub), .val (.ref us), .val .null, .unset, .unset, .unset] [(.int md)])
        refine Go.by (fun _ gk => XS.ifNo X4.here hx rfl (hb hby at_176) rfl (XT.i0_eq_f (own_1 hb3)) gk) ?_
        show Go _ _ _ _ T4 (mkF m 179 #[.val (.int p0), .val (.int p1), .val (.int p2), .val (.int k), .val (.int li), .val (.int md), .val (.int lu), .val (.int lr), .val (.int ua), .val (.int ub), .val (.int rc), .val (.int rd), .val (.ref vv), .val (.int lu), .val (.int ua), .val (.int ub), .val (.ref us), .val .null, .unset, .unset, .unset] [])
        refine Go.by (fun _ gk => XS.iload X4.here hx rfl (hb hby at_179) rfl gk) ?_
        show Go _ _ _ _ T4 (mkF m 181 #[.val (.int p0), .val (.int p1), .val (.int p2), .val (.int k), .val (.int li), .val (.int md), .val (.int lu), .val (.int lr), .val (.int ua), .val (.int ub), .val (.int rc), .val (.int rd), .val (.ref vv), .val (.int lu), .val (.int ua), .val (.int ub), .val (.ref us), .val .null, .unset, .unset, .unset] [(.int lu)])
        refine Go.by (fun _ gk => XS.iload X4.here hx rfl (hb hby at_181) rfl gk) ?_
        show Go _ _ _ _ T4 (mkF m 183 #[.val (.int p0), .val (.int p1), .val (.int p2), .val (.int k), .val (.int li), .val (.int md), .val (.int lu), .val (.int lr), .val (.int ua), .val (.int ub), .val (.int rc), .val (.int rd), .val (.ref vv), .val (.int lu), .val (.int ua), .val (.int ub), .val (.ref us), .val .null, .unset, .unset, .unset] [(.int ua), (.int lu)])
        refine Go.by (fun _ gk => XS.iload X4.here hx rfl (hb hby at_183) rfl gk) ?_
        show Go _ _ _ _ T4 (mkF m 185 #[.val (.int p0), .val (.int p1), .val (.int p2), .val (.int k), .val (.int li), .val (.int md), .val (.int lu), .val (.int lr), .val (.int ua), .val (.int ub), .val (.int rc), .val (.int rd), .val (.ref vv), .val (.int lu), .val (.int ua), .val (.int ub), .val (.ref us), .val .null, .unset, .unset, .unset] [(.int ub), (.int ua), (.int lu)])
        have F6 : Old Z n0 T4.heap := O0.keep K4 all0
        have F7 : n0 ≤ T4.heap.size := Nat.le_trans Z0 K4.1
        have F8 : Keep h0 T4.heap [] := (Keep.refl h0 []).trans K4 all0
        obtain ⟨_, _, ⟨T9, L9, k9, n9⟩, -, Xq9, hSq9, hgr9, ⟨Lc9, hQ9, l9, y9, z9, CH9⟩, st9⟩ := callSS X4 hx (y := (⟨"com/example/muster/muster/model/VisibilityShowsPinLaw", "str", "(ICC)Ljava/lang/String;"⟩ : MethodName)) hown4 (mvT hZ4 (hw _ (List.mem_of_getElem? (i := 3) rfl))) (mvT hZ4 (hw _ (List.mem_of_getElem? (i := 4) rfl))) (mvT hZ4 (hw _ (List.mem_of_getElem? (i := 5) rfl))) (mvT hZ4 (hw _ (List.mem_of_getElem? (i := 6) rfl))) (by decide) (backOfSH (W := 0) (rmStr l Z a0 hw [] lu ua ub cs T4.heap n0 F7 F6 hlu q_ua.2 q_ub.2 S_cs n_cs) hZ4 (hw _ (List.mem_of_getElem? (i := 6) rfl)) (hw _ (List.mem_of_getElem? (i := 5) rfl)) (by decide) (by decide) hEL C5.1) (g := (mkF m 185 #[.val (.int p0), .val (.int p1), .val (.int p2), .val (.int k), .val (.int li), .val (.int md), .val (.int lu), .val (.int lr), .val (.int ua), .val (.int ub), .val (.int rc), .val (.int rd), .val (.ref vv), .val (.int lu), .val (.int ua), .val (.int ub), .val (.ref us), .val .null, .unset, .unset, .unset] [(.int ub), (.int ua), (.int lu)])) rfl (by rw [hml]; rfl) (argsL := [(.int lu), (.int ua), (.int ub)]) (rest := []) (lenOf pd_212 rfl) rfl (by show 2 * 0 + _ ≤ _; exact Nat.le_of_eq rfl) (hb hby at_185) (fun _ _ => ⟨rfl, rfl, (by decide : 6 + 6 ≤ _), (by decide : 12 + 12 ≤ _)⟩)
        dsimp only [Pt.U, Pt.locs, Pt.cells, Pt.slots] at Xq9 hSq9 hgr9 l9 y9 z9 st9 hQ9 CH9
        subst l9 y9 z9
        obtain ⟨rq, rqb, krq, rfl, N9q, K9, Q9_0, Q9_1, Q9_2, Q9_3, Q9_4⟩ := hQ9
        have N9 := Fr.app N4 N9q
        obtain ⟨X9, hS9, hZ9, hown9⟩ := rebS hS4 (by exact (Nat.le_refl T4.heap.size)) Xq9 hSq9 hgr9 hZ4 hown4
        have C10 : CHr Z own_EL s.vm h0 T9.vm T9.heap := C5.trans CH9
        refine Go.to st9 ?_
        show Go _ _ _ _ T9 (mkF m 188 #[.val (.int p0), .val (.int p1), .val (.int p2), .val (.int k), .val (.int li), .val (.int md), .val (.int lu), .val (.int lr), .val (.int ua), .val (.int ub), .val (.int rc), .val (.int rd), .val (.ref vv), .val (.int lu), .val (.int ua), .val (.int ub), .val (.ref us), .val .null, .unset, .unset, .unset] [(.ref rq)])
        have ge_rq : n0 ≤ rq := Nat.le_trans F7 Q9_4
        have sz_rq : h0.size ≤ rq := Nat.le_trans F8.1 Q9_4
        have ne_us_rq : us ≠ rq := Nat.ne_of_lt (Nat.lt_of_lt_of_le Q4_0.lt Q9_4)
        have ne_usb_rq : usb ≠ rq := Nat.ne_of_lt (Nat.lt_of_lt_of_le Q4_3.lt Q9_4)
        refine Go.by (fun _ gk => XS.astore X9.here hx rfl (hb hby at_188) rfl rfl (l' := #[.val (.int p0), .val (.int p1), .val (.int p2), .val (.int k), .val (.int li), .val (.int md), .val (.int lu), .val (.int lr), .val (.int ua), .val (.int ub), .val (.int rc), .val (.int rd), .val (.ref vv), .val (.int lu), .val (.int ua), .val (.int ub), .val (.ref us), .val (.ref rq), .unset, .unset, .unset]) rfl gk) ?_
        show Go _ _ _ _ T9 (mkF m 190 #[.val (.int p0), .val (.int p1), .val (.int p2), .val (.int k), .val (.int li), .val (.int md), .val (.int lu), .val (.int lr), .val (.int ua), .val (.int ub), .val (.int rc), .val (.int rd), .val (.ref vv), .val (.int lu), .val (.int ua), .val (.int ub), .val (.ref us), .val (.ref rq), .unset, .unset, .unset] [])
        refine Go.by (fun _ gk => XS.iload X9.here hx rfl (hb hby at_190) rfl gk) ?_
        show Go _ _ _ _ T9 (mkF m 192 #[.val (.int p0), .val (.int p1), .val (.int p2), .val (.int k), .val (.int li), .val (.int md), .val (.int lu), .val (.int lr), .val (.int ua), .val (.int ub), .val (.int rc), .val (.int rd), .val (.ref vv), .val (.int lu), .val (.int ua), .val (.int ub), .val (.ref us), .val (.ref rq), .unset, .unset, .unset] [(.int lu)])
        refine Go.by (fun _ gk => XS.iload X9.here hx rfl (hb hby at_192) rfl gk) ?_
        show Go _ _ _ _ T9 (mkF m 194 #[.val (.int p0), .val (.int p1), .val (.int p2), .val (.int k), .val (.int li), .val (.int md), .val (.int lu), .val (.int lr), .val (.int ua), .val (.int ub), .val (.int rc), .val (.int rd), .val (.ref vv), .val (.int lu), .val (.int ua), .val (.int ub), .val (.ref us), .val (.ref rq), .unset, .unset, .unset] [(.int lu), (.int lu)])
        refine Go.join (α := Int32) (P := fun sm => (sm = 1 ∧ own_same lu ua ub lu ua ub) ∨ (sm = 0 ∧ ¬ own_same lu ua ub lu ua ub)) (fr := fun sm => (mkF m 228 #[.val (.int p0), .val (.int p1), .val (.int p2), .val (.int k), .val (.int li), .val (.int md), .val (.int lu), .val (.int lr), .val (.int ua), .val (.int ub), .val (.int rc), .val (.int rd), .val (.ref vv), .val (.int lu), .val (.int ua), .val (.int ub), .val (.ref us), .val (.ref rq), .unset, .unset, .unset] [(.int sm)])) ?_ ?_
        · intro sm h_sm
          show Go _ _ _ _ T9 (mkF m 228 #[.val (.int p0), .val (.int p1), .val (.int p2), .val (.int k), .val (.int li), .val (.int md), .val (.int lu), .val (.int lr), .val (.int ua), .val (.int ub), .val (.int rc), .val (.int rd), .val (.ref vv), .val (.int lu), .val (.int ua), .val (.int ub), .val (.ref us), .val (.ref rq), .unset, .unset, .unset] [(.int sm)])
          refine Go.by (fun _ gk => XS.istore X9.here hx rfl (hb hby at_228) rfl (l' := #[.val (.int p0), .val (.int p1), .val (.int p2), .val (.int k), .val (.int li), .val (.int md), .val (.int lu), .val (.int lr), .val (.int ua), .val (.int ub), .val (.int rc), .val (.int rd), .val (.ref vv), .val (.int lu), .val (.int ua), .val (.int ub), .val (.ref us), .val (.ref rq), .val (.int sm), .unset, .unset]) rfl gk) ?_
          show Go _ _ _ _ T9 (mkF m 230 #[.val (.int p0), .val (.int p1), .val (.int p2), .val (.int k), .val (.int li), .val (.int md), .val (.int lu), .val (.int lr), .val (.int ua), .val (.int ub), .val (.int rc), .val (.int rd), .val (.ref vv), .val (.int lu), .val (.int ua), .val (.int ub), .val (.ref us), .val (.ref rq), .val (.int sm), .unset, .unset] [])
          refine Go.by (fun _ gk => XS.iload X9.here hx rfl (hb hby at_230) rfl gk) ?_
          show Go _ _ _ _ T9 (mkF m 232 #[.val (.int p0), .val (.int p1), .val (.int p2), .val (.int k), .val (.int li), .val (.int md), .val (.int lu), .val (.int lr), .val (.int ua), .val (.int ub), .val (.int rc), .val (.int rd), .val (.ref vv), .val (.int lu), .val (.int ua), .val (.int ub), .val (.ref us), .val (.ref rq), .val (.int sm), .unset, .unset] [(.int md)])
          refine Go.by (fun _ gk => XS.ifYes X9.here hx rfl (pc0 := 232) (pc' := 241) rfl (hb hby at_232) rfl (XT.i0_ne_t (own_1 hb3)) (by decide) (by decide) gk) ?_
          show Go _ _ _ _ T9 (mkF m 241 #[.val (.int p0), .val (.int p1), .val (.int p2), .val (.int k), .val (.int li), .val (.int md), .val (.int lu), .val (.int lr), .val (.int ua), .val (.int ub), .val (.int rc), .val (.int rd), .val (.ref vv), .val (.int lu), .val (.int ua), .val (.int ub), .val (.ref us), .val (.ref rq), .val (.int sm), .unset, .unset] [])
          refine Go.by (fun _ gk => XS.iload X9.here hx rfl (hb hby at_241) rfl gk) ?_
          show Go _ _ _ _ T9 (mkF m 243 #[.val (.int p0), .val (.int p1), .val (.int p2), .val (.int k), .val (.int li), .val (.int md), .val (.int lu), .val (.int lr), .val (.int ua), .val (.int ub), .val (.int rc), .val (.int rd), .val (.ref vv), .val (.int lu), .val (.int ua), .val (.int ub), .val (.ref us), .val (.ref rq), .val (.int sm), .unset, .unset] [(.int sm)])
          rcases h_sm with ⟨rfl, hE⟩ | ⟨rfl, hE⟩
          · show Go _ _ _ _ T9 (mkF m 243 #[.val (.int p0), .val (.int p1), .val (.int p2), .val (.int k), .val (.int li), .val (.int md), .val (.int lu), .val (.int lr), .val (.int ua), .val (.int ub), .val (.int rc), .val (.int rd), .val (.ref vv), .val (.int lu), .val (.int ua), .val (.int ub), .val (.ref us), .val (.ref rq), .val (.int (1 : Int32)), .unset, .unset] [(.int (1 : Int32))])
            refine Go.by (fun _ gk => XS.ifNo X9.here hx rfl (hb hby at_243) rfl (XT.i0_eq_f (by decide)) gk) ?_
            show Go _ _ _ _ T9 (mkF m 246 #[.val (.int p0), .val (.int p1), .val (.int p2), .val (.int k), .val (.int li), .val (.int md), .val (.int lu), .val (.int lr), .val (.int ua), .val (.int ub), .val (.int rc), .val (.int rd), .val (.ref vv), .val (.int lu), .val (.int ua), .val (.int ub), .val (.ref us), .val (.ref rq), .val (.int (1 : Int32)), .unset, .unset] [])
            refine Go.by (fun _ gk => XT.iconstV X9.here hx rfl (1 : Int32) (hb hby at_246) (by decide) gk) ?_
            show Go _ _ _ _ T9 (mkF m 247 #[.val (.int p0), .val (.int p1), .val (.int p2), .val (.int k), .val (.int li), .val (.int md), .val (.int lu), .val (.int lr), .val (.int ua), .val (.int ub), .val (.int rc), .val (.int rd), .val (.ref vv), .val (.int lu), .val (.int ua), .val (.int ub), .val (.ref us), .val (.ref rq), .val (.int (1 : Int32)), .unset, .unset] [(.int (1 : Int32))])
            refine Go.by (fun _ gk => XS.istore X9.here hx rfl (hb hby at_247) rfl (l' := #[.val (.int p0), .val (.int p1), .val (.int p2), .val (.int k), .val (.int li), .val (.int md), .val (.int lu), .val (.int lr), .val (.int ua), .val (.int ub), .val (.int rc), .val (.int rd), .val (.ref vv), .val (.int lu), .val (.int ua), .val (.int ub), .val (.ref us), .val (.ref rq), .val (.int (1 : Int32)), .val (.int (1 : Int32)), .unset]) rfl gk) ?_
            show Go _ _ _ _ T9 (mkF m 249 #[.val (.int p0), .val (.int p1), .val (.int p2), .val (.int k), .val (.int li), .val (.int md), .val (.int lu), .val (.int lr), .val (.int ua), .val (.int ub), .val (.int rc), .val (.int rd), .val (.ref vv), .val (.int lu), .val (.int ua), .val (.int ub), .val (.ref us), .val (.ref rq), .val (.int (1 : Int32)), .val (.int (1 : Int32)), .unset] [])
            refine Go.by (fun _ gk => XS.goto X9.here hx rfl (pc0 := 249) (pc' := 277) rfl (hb hby at_249) (by decide) (by decide) gk) ?_
            show Go _ _ _ _ T9 (mkF m 277 #[.val (.int p0), .val (.int p1), .val (.int p2), .val (.int k), .val (.int li), .val (.int md), .val (.int lu), .val (.int lr), .val (.int ua), .val (.int ub), .val (.int rc), .val (.int rd), .val (.ref vv), .val (.int lu), .val (.int ua), .val (.int ub), .val (.ref us), .val (.ref rq), .val (.int (1 : Int32)), .val (.int (1 : Int32)), .unset] [])
            refine Go.by (fun _ gk => XS.aload X9.here hx rfl (hb hby at_277) rfl rfl gk) ?_
            show Go _ _ _ _ T9 (mkF m 279 #[.val (.int p0), .val (.int p1), .val (.int p2), .val (.int k), .val (.int li), .val (.int md), .val (.int lu), .val (.int lr), .val (.int ua), .val (.int ub), .val (.int rc), .val (.int rd), .val (.ref vv), .val (.int lu), .val (.int ua), .val (.int ub), .val (.ref us), .val (.ref rq), .val (.int (1 : Int32)), .val (.int (1 : Int32)), .unset] [(.ref vv)])
            refine Go.by (fun _ gk => XS.aload X9.here hx rfl (hb hby at_279) rfl rfl gk) ?_
            show Go _ _ _ _ T9 (mkF m 281 #[.val (.int p0), .val (.int p1), .val (.int p2), .val (.int k), .val (.int li), .val (.int md), .val (.int lu), .val (.int lr), .val (.int ua), .val (.int ub), .val (.int rc), .val (.int rd), .val (.ref vv), .val (.int lu), .val (.int ua), .val (.int ub), .val (.ref us), .val (.ref rq), .val (.int (1 : Int32)), .val (.int (1 : Int32)), .unset] [(.ref us), (.ref vv)])
            refine Go.by (fun _ gk => XS.aload X9.here hx rfl (hb hby at_281) rfl rfl gk) ?_
            show Go _ _ _ _ T9 (mkF m 283 #[.val (.int p0), .val (.int p1), .val (.int p2), .val (.int k), .val (.int li), .val (.int md), .val (.int lu), .val (.int lr), .val (.int ua), .val (.int ub), .val (.int rc), .val (.int rd), .val (.ref vv), .val (.int lu), .val (.int ua), .val (.int ub), .val (.ref us), .val (.ref rq), .val (.int (1 : Int32)), .val (.int (1 : Int32)), .unset] [(.ref rq), (.ref us), (.ref vv)])
            refine Go.by (fun _ gk => XS.iload X9.here hx rfl (hb hby at_283) rfl gk) ?_
            show Go _ _ _ _ T9 (mkF m 285 #[.val (.int p0), .val (.int p1), .val (.int p2), .val (.int k), .val (.int li), .val (.int md), .val (.int lu), .val (.int lr), .val (.int ua), .val (.int ub), .val (.int rc), .val (.int rd), .val (.ref vv), .val (.int lu), .val (.int ua), .val (.int ub), .val (.ref us), .val (.ref rq), .val (.int (1 : Int32)), .val (.int (1 : Int32)), .unset] [(.int li), (.ref rq), (.ref us), (.ref vv)])
            have F12 : Old Z n0 T9.heap := F6.keep K9 all0
            have F13 : Exa Z T9.heap us "java/lang/String" := Q4_0.keep K9
            have F14 : Fld Z T9.heap us "java/lang/String" "coder" "B" (.int (0 : Int32)) := Q4_1.keep K9 nin0
            have F15 : Fld Z T9.heap us "java/lang/String" "value" "[B" (.ref usb) := Q4_2.keep K9 nin0
            have F16 : Arv Z T9.heap usb kus .byte lu (own_str lu ua ub) (.int (0 : Int32)) := Q4_3.keep K9 nin0
            have F17 : n0 ≤ T9.heap.size := Nat.le_trans F7 K9.1
            have F19 : Exa Z T9.heap vv "com/example/muster/muster/model/Visibility" := E_vv.ext F12.2
            obtain ⟨cq18, kq18, q18a, q18b, q18c⟩ := isOf hZ9 rfl F19
            obtain ⟨_, _, ⟨T18, L18, k18, n18⟩, -, X18, ⟨Lc18, hQ18, l18, y18, z18⟩, st18⟩ := X9.virtualBack hx (y := (⟨"com/example/muster/muster/model/Visibility", "shows", "(Ljava/lang/String;Ljava/lang/String;Z)Z"⟩ : MethodName)) (z := (⟨"com/example/muster/muster/model/Visibility", "shows", "(Ljava/lang/String;Ljava/lang/String;Z)Z"⟩ : MethodName)) hown9 (mvT hZ9 (hw _ (List.mem_of_getElem? (i := 29) rfl))) (mvT hZ9 (hw _ (List.mem_of_getElem? (i := 30) rfl))) (notFace_of_selects (args := #[]) (mvT hZ9 (hw _ (List.mem_of_getElem? (i := 32) rfl)))) (mvT hZ9 (hw _ (List.mem_of_getElem? (i := 32) rfl))) (mvT hZ9 (hw _ (List.mem_of_getElem? (i := 31) rfl))) (by decide) (backOf (W := 0) (rmShows l Z a0 hw [] vv us rq li k usb rqb kus krq lu ua ub lu ua ub c_EVERYONE c_CONTACTS c_NOBODY cs T9.heap n0 F17 F12 Q9_0 Q9_1 Q9_2 Q9_3 F13 F14 F15 F16 hlu hlu (Ne.symm ne_us_rq) h_vv h_li S_c_EVERYONE E_c_EVERYONE O_c_EVERYONE S_c_CONTACTS E_c_CONTACTS O_c_CONTACTS S_c_NOBODY E_c_NOBODY O_c_NOBODY S_cs n_cs) hZ9 (hw _ (List.mem_of_getElem? (i := 33) rfl)) (hw _ (List.mem_of_getElem? (i := 1) rfl)) (by decide) (by decide)) q18a q18c (g := (mkF m 285 #[.val (.int p0), .val (.int p1), .val (.int p2), .val (.int k), .val (.int li), .val (.int md), .val (.int lu), .val (.int lr), .val (.int ua), .val (.int ub), .val (.int rc), .val (.int rd), .val (.ref vv), .val (.int lu), .val (.int ua), .val (.int ub), .val (.ref us), .val (.ref rq), .val (.int (1 : Int32)), .val (.int (1 : Int32)), .unset] [(.int li), (.ref rq), (.ref us), (.ref vv)])) rfl (by rw [hml]; rfl) (Steps.refl _) (argsL := [(.ref us), (.ref rq), (.int li)]) (rest := []) (lenOf pd_213 rfl) rfl (by show 2 * 0 + _ ≤ _; exact Nat.le_of_eq rfl) (hb hby at_285) (fun _ _ => ⟨rfl, rfl, (by decide : 12 + 0 ≤ _), (by decide : 24 + 0 ≤ _)⟩)
            dsimp only [Pt.U, Pt.locs, Pt.cells, Pt.slots] at X18 l18 y18 z18 st18 hQ18
            subst l18 y18 z18
            obtain ⟨rr, rfl, N18q, e18, Q18_0⟩ := hQ18
            have N18 := Fr.app N9 N18q
            refine Go.to st18 ?_
            show Go _ _ _ _ T18 (mkF m 288 #[.val (.int p0), .val (.int p1), .val (.int p2), .val (.int k), .val (.int li), .val (.int md), .val (.int lu), .val (.int lr), .val (.int ua), .val (.int ub), .val (.int rc), .val (.int rd), .val (.ref vv), .val (.int lu), .val (.int ua), .val (.int ub), .val (.ref us), .val (.ref rq), .val (.int (1 : Int32)), .val (.int (1 : Int32)), .unset] [(.int rr)])
            refine Go.by (fun _ gk => XS.istore X18.here hx rfl (hb hby at_288) rfl (l' := #[.val (.int p0), .val (.int p1), .val (.int p2), .val (.int k), .val (.int li), .val (.int md), .val (.int lu), .val (.int lr), .val (.int ua), .val (.int ub), .val (.int rc), .val (.int rd), .val (.ref vv), .val (.int lu), .val (.int ua), .val (.int ub), .val (.ref us), .val (.ref rq), .val (.int (1 : Int32)), .val (.int (1 : Int32)), .val (.int rr)]) rfl gk) ?_
            show Go _ _ _ _ T18 (mkF m 290 #[.val (.int p0), .val (.int p1), .val (.int p2), .val (.int k), .val (.int li), .val (.int md), .val (.int lu), .val (.int lr), .val (.int ua), .val (.int ub), .val (.int rc), .val (.int rd), .val (.ref vv), .val (.int lu), .val (.int ua), .val (.int ub), .val (.ref us), .val (.ref rq), .val (.int (1 : Int32)), .val (.int (1 : Int32)), .val (.int rr)] [])
            refine Go.by (fun _ gk => XS.iload X18.here hx rfl (hb hby at_290) rfl gk) ?_
            show Go _ _ _ _ T18 (mkF m 292 #[.val (.int p0), .val (.int p1), .val (.int p2), .val (.int k), .val (.int li), .val (.int md), .val (.int lu), .val (.int lr), .val (.int ua), .val (.int ub), .val (.int rc), .val (.int rd), .val (.ref vv), .val (.int lu), .val (.int ua), .val (.int ub), .val (.ref us), .val (.ref rq), .val (.int (1 : Int32)), .val (.int (1 : Int32)), .val (.int rr)] [(.int rr)])
            refine Go.by (fun _ gk => XS.iload X18.here hx rfl (hb hby at_292) rfl gk) ?_
            show Go _ _ _ _ T18 (mkF m 294 #[.val (.int p0), .val (.int p1), .val (.int p2), .val (.int k), .val (.int li), .val (.int md), .val (.int lu), .val (.int lr), .val (.int ua), .val (.int ub), .val (.int rc), .val (.int rd), .val (.ref vv), .val (.int lu), .val (.int ua), .val (.int ub), .val (.ref us), .val (.ref rq), .val (.int (1 : Int32)), .val (.int (1 : Int32)), .val (.int rr)] [(.int (1 : Int32)), (.int rr)])
            obtain rfl : rr = 1 := by
              rcases Q18_0 with ⟨-, q⟩ | ⟨q, -⟩
              · exact q
              · exact absurd ((own_same_iff hlu q_ua q_ub q_ua q_ub).mpr hE) q
            show Go _ _ _ _ T18 (mkF m 294 #[.val (.int p0), .val (.int p1), .val (.int p2), .val (.int k), .val (.int li), .val (.int md), .val (.int lu), .val (.int lr), .val (.int ua), .val (.int ub), .val (.int rc), .val (.int rd), .val (.ref vv), .val (.int lu), .val (.int ua), .val (.int ub), .val (.ref us), .val (.ref rq), .val (.int (1 : Int32)), .val (.int (1 : Int32)), .val (.int (1 : Int32))] [(.int (1 : Int32)), (.int (1 : Int32))])
            refine Go.by (fun _ gk => XS.icmpNo X18.here hx rfl (hb hby at_294) rfl (XT.ii_ne_f rfl) gk) ?_
            show Go _ _ _ _ T18 (mkF m 297 #[.val (.int p0), .val (.int p1), .val (.int p2), .val (.int k), .val (.int li), .val (.int md), .val (.int lu), .val (.int lr), .val (.int ua), .val (.int ub), .val (.int rc), .val (.int rd), .val (.ref vv), .val (.int lu), .val (.int ua), .val (.int ub), .val (.ref us), .val (.ref rq), .val (.int (1 : Int32)), .val (.int (1 : Int32)), .val (.int (1 : Int32))] [])
            refine Go.by (fun _ gk => XT.iconstV X18.here hx rfl (1 : Int32) (hb hby at_297) (by decide) gk) ?_
            show Go _ _ _ _ T18 (mkF m 298 #[.val (.int p0), .val (.int p1), .val (.int p2), .val (.int k), .val (.int li), .val (.int md), .val (.int lu), .val (.int lr), .val (.int ua), .val (.int ub), .val (.int rc), .val (.int rd), .val (.ref vv), .val (.int lu), .val (.int ua), .val (.int ub), .val (.ref us), .val (.ref rq), .val (.int (1 : Int32)), .val (.int (1 : Int32)), .val (.int (1 : Int32))] [(.int (1 : Int32))])
            refine Go.by (fun _ gk => XS.goto X18.here hx rfl (pc0 := 298) (pc' := 302) rfl (hb hby at_298) (by decide) (by decide) gk) ?_
            show Go _ _ _ _ T18 (mkF m 302 #[.val (.int p0), .val (.int p1), .val (.int p2), .val (.int k), .val (.int li), .val (.int md), .val (.int lu), .val (.int lr), .val (.int ua), .val (.int ub), .val (.int rc), .val (.int rd), .val (.ref vv), .val (.int lu), .val (.int ua), .val (.int ub), .val (.ref us), .val (.ref rq), .val (.int (1 : Int32)), .val (.int (1 : Int32)), .val (.int (1 : Int32))] [(.int (1 : Int32))])
            exact Go.retIW X18 hx Bd.notSynchronized hS9 (by rw [e18]; exact (Nat.le_refl T9.heap.size)) hZ9 hEL (by rw [hh, e18]; exact C10) Bd.returns rfl (by simp) (hb hby at_302) (by rw [e18]; exact ⟨rfl, N18⟩) (by decide) (by decide)
          · show Go _ _ _ _ T9 (mkF m 243 #[.val (.int p0), .val (.int p1), .val (.int p2), .val (.int k), .val (.int li), .val (.int md), .val (.int lu), .val (.int lr), .val (.int ua), .val (.int ub), .val (.int rc), .val (.int rd), .val (.ref vv), .val (.int lu), .val (.int ua), .val (.int ub), .val (.ref us), .val (.ref rq), .val (.int (0 : Int32)), .unset, .unset] [(.int (0 : Int32))])
            refine Go.by (fun _ gk => XS.ifYes X9.here hx rfl (pc0 := 243) (pc' := 252) rfl (hb hby at_243) rfl (XT.i0_eq_t rfl) (by decide) (by decide) gk) ?_
            show Go _ _ _ _ T9 (mkF m 252 #[.val (.int p0), .val (.int p1), .val (.int p2), .val (.int k), .val (.int li), .val (.int md), .val (.int lu), .val (.int lr), .val (.int ua), .val (.int ub), .val (.int rc), .val (.int rd), .val (.ref vv), .val (.int lu), .val (.int ua), .val (.int ub), .val (.ref us), .val (.ref rq), .val (.int (0 : Int32)), .unset, .unset] [])
            refine Go.by (fun _ gk => XS.iloadN X9.here hx rfl (hb hby at_252) rfl gk) ?_
            show Go _ _ _ _ T9 (mkF m 253 #[.val (.int p0), .val (.int p1), .val (.int p2), .val (.int k), .val (.int li), .val (.int md), .val (.int lu), .val (.int lr), .val (.int ua), .val (.int ub), .val (.int rc), .val (.int rd), .val (.ref vv), .val (.int lu), .val (.int ua), .val (.int ub), .val (.ref us), .val (.ref rq), .val (.int (0 : Int32)), .unset, .unset] [(.int k)])
            rcases hk with rfl | rfl | rfl
            · show Go _ _ _ _ T9 (mkF m 253 #[.val (.int p0), .val (.int p1), .val (.int p2), .val (.int (0 : Int32)), .val (.int li), .val (.int md), .val (.int lu), .val (.int lr), .val (.int ua), .val (.int ub), .val (.int rc), .val (.int rd), .val (.ref vv), .val (.int lu), .val (.int ua), .val (.int ub), .val (.ref us), .val (.ref rq), .val (.int (0 : Int32)), .unset, .unset] [(.int (0 : Int32))])
              refine Go.by (fun _ gk => XS.ifNo X9.here hx rfl (hb hby at_253) rfl (XT.i0_ne_f rfl) gk) ?_
              show Go _ _ _ _ T9 (mkF m 256 #[.val (.int p0), .val (.int p1), .val (.int p2), .val (.int (0 : Int32)), .val (.int li), .val (.int md), .val (.int lu), .val (.int lr), .val (.int ua), .val (.int ub), .val (.int rc), .val (.int rd), .val (.ref vv), .val (.int lu), .val (.int ua), .val (.int ub), .val (.ref us), .val (.ref rq), .val (.int (0 : Int32)), .unset, .unset] [])
              refine Go.by (fun _ gk => XT.iconstV X9.here hx rfl (1 : Int32) (hb hby at_256) (by decide) gk) ?_
              show Go _ _ _ _ T9 (mkF m 257 #[.val (.int p0), .val (.int p1), .val (.int p2), .val (.int (0 : Int32)), .val (.int li), .val (.int md), .val (.int lu), .val (.int lr), .val (.int ua), .val (.int ub), .val (.int rc), .val (.int rd), .val (.ref vv), .val (.int lu), .val (.int ua), .val (.int ub), .val (.ref us), .val (.ref rq), .val (.int (0 : Int32)), .unset, .unset] [(.int (1 : Int32))])
              refine Go.by (fun _ gk => XS.istore X9.here hx rfl (hb hby at_257) rfl (l' := #[.val (.int p0), .val (.int p1), .val (.int p2), .val (.int (0 : Int32)), .val (.int li), .val (.int md), .val (.int lu), .val (.int lr), .val (.int ua), .val (.int ub), .val (.int rc), .val (.int rd), .val (.ref vv), .val (.int lu), .val (.int ua), .val (.int ub), .val (.ref us), .val (.ref rq), .val (.int (0 : Int32)), .val (.int (1 : Int32)), .unset]) rfl gk) ?_
              show Go _ _ _ _ T9 (mkF m 259 #[.val (.int p0), .val (.int p1), .val (.int p2), .val (.int (0 : Int32)), .val (.int li), .val (.int md), .val (.int lu), .val (.int lr), .val (.int ua), .val (.int ub), .val (.int rc), .val (.int rd), .val (.ref vv), .val (.int lu), .val (.int ua), .val (.int ub), .val (.ref us), .val (.ref rq), .val (.int (0 : Int32)), .val (.int (1 : Int32)), .unset] [])
              refine Go.by (fun _ gk => XS.goto X9.here hx rfl (pc0 := 259) (pc' := 277) rfl (hb hby at_259) (by decide) (by decide) gk) ?_
              show Go _ _ _ _ T9 (mkF m 277 #[.val (.int p0), .val (.int p1), .val (.int p2), .val (.int (0 : Int32)), .val (.int li), .val (.int md), .val (.int lu), .val (.int lr), .val (.int ua), .val (.int ub), .val (.int rc), .val (.int rd), .val (.ref vv), .val (.int lu), .val (.int ua), .val (.int ub), .val (.ref us), .val (.ref rq), .val (.int (0 : Int32)), .val (.int (1 : Int32)), .unset] [])
              refine Go.by (fun _ gk => XS.aload X9.here hx rfl (hb hby at_277) rfl rfl gk) ?_
              show Go _ _ _ _ T9 (mkF m 279 #[.val (.int p0), .val (.int p1), .val (.int p2), .val (.int (0 : Int32)), .val (.int li), .val (.int md), .val (.int lu), .val (.int lr), .val (.int ua), .val (.int ub), .val (.int rc), .val (.int rd), .val (.ref vv), .val (.int lu), .val (.int ua), .val (.int ub), .val (.ref us), .val (.ref rq), .val (.int (0 : Int32)), .val (.int (1 : Int32)), .unset] [(.ref vv)])
              refine Go.by (fun _ gk => XS.aload X9.here hx rfl (hb hby at_279) rfl rfl gk) ?_
              show Go _ _ _ _ T9 (mkF m 281 #[.val (.int p0), .val (.int p1), .val (.int p2), .val (.int (0 : Int32)), .val (.int li), .val (.int md), .val (.int lu), .val (.int lr), .val (.int ua), .val (.int ub), .val (.int rc), .val (.int rd), .val (.ref vv), .val (.int lu), .val (.int ua), .val (.int ub), .val (.ref us), .val (.ref rq), .val (.int (0 : Int32)), .val (.int (1 : Int32)), .unset] [(.ref us), (.ref vv)])
              refine Go.by (fun _ gk => XS.aload X9.here hx rfl (hb hby at_281) rfl rfl gk) ?_
              show Go _ _ _ _ T9 (mkF m 283 #[.val (.int p0), .val (.int p1), .val (.int p2), .val (.int (0 : Int32)), .val (.int li), .val (.int md), .val (.int lu), .val (.int lr), .val (.int ua), .val (.int ub), .val (.int rc), .val (.int rd), .val (.ref vv), .val (.int lu), .val (.int ua), .val (.int ub), .val (.ref us), .val (.ref rq), .val (.int (0 : Int32)), .val (.int (1 : Int32)), .unset] [(.ref rq), (.ref us), (.ref vv)])
              refine Go.by (fun _ gk => XS.iload X9.here hx rfl (hb hby at_283) rfl gk) ?_
              show Go _ _ _ _ T9 (mkF m 285 #[.val (.int p0), .val (.int p1), .val (.int p2), .val (.int (0 : Int32)), .val (.int li), .val (.int md), .val (.int lu), .val (.int lr), .val (.int ua), .val (.int ub), .val (.int rc), .val (.int rd), .val (.ref vv), .val (.int lu), .val (.int ua), .val (.int ub), .val (.ref us), .val (.ref rq), .val (.int (0 : Int32)), .val (.int (1 : Int32)), .unset] [(.int li), (.ref rq), (.ref us), (.ref vv)])
              have F20 : Old Z n0 T9.heap := F6.keep K9 all0
              have F21 : Exa Z T9.heap us "java/lang/String" := Q4_0.keep K9
              have F22 : Fld Z T9.heap us "java/lang/String" "coder" "B" (.int (0 : Int32)) := Q4_1.keep K9 nin0
              have F23 : Fld Z T9.heap us "java/lang/String" "value" "[B" (.ref usb) := Q4_2.keep K9 nin0
              have F24 : Arv Z T9.heap usb kus .byte lu (own_str lu ua ub) (.int (0 : Int32)) := Q4_3.keep K9 nin0
              have F25 : n0 ≤ T9.heap.size := Nat.le_trans F7 K9.1
              have F27 : Exa Z T9.heap vv "com/example/muster/muster/model/Visibility" := E_vv.ext F20.2
              obtain ⟨cq26, kq26, q26a, q26b, q26c⟩ := isOf hZ9 rfl F27
              obtain ⟨_, _, ⟨T26, L26, k26, n26⟩, -, X26, ⟨Lc26, hQ26, l26, y26, z26⟩, st26⟩ := X9.virtualBack hx (y := (⟨"com/example/muster/muster/model/Visibility", "shows", "(Ljava/lang/String;Ljava/lang/String;Z)Z"⟩ : MethodName)) (z := (⟨"com/example/muster/muster/model/Visibility", "shows", "(Ljava/lang/String;Ljava/lang/String;Z)Z"⟩ : MethodName)) hown9 (mvT hZ9 (hw _ (List.mem_of_getElem? (i := 29) rfl))) (mvT hZ9 (hw _ (List.mem_of_getElem? (i := 30) rfl))) (notFace_of_selects (args := #[]) (mvT hZ9 (hw _ (List.mem_of_getElem? (i := 32) rfl)))) (mvT hZ9 (hw _ (List.mem_of_getElem? (i := 32) rfl))) (mvT hZ9 (hw _ (List.mem_of_getElem? (i := 31) rfl))) (by decide) (backOf (W := 0) (rmShows l Z a0 hw [] vv us rq li (0 : Int32) usb rqb kus krq lu ua ub lu ua ub c_EVERYONE c_CONTACTS c_NOBODY cs T9.heap n0 F25 F20 Q9_0 Q9_1 Q9_2 Q9_3 F21 F22 F23 F24 hlu hlu (Ne.symm ne_us_rq) h_vv h_li S_c_EVERYONE E_c_EVERYONE O_c_EVERYONE S_c_CONTACTS E_c_CONTACTS O_c_CONTACTS S_c_NOBODY E_c_NOBODY O_c_NOBODY S_cs n_cs) hZ9 (hw _ (List.mem_of_getElem? (i := 33) rfl)) (hw _ (List.mem_of_getElem? (i := 1) rfl)) (by decide) (by decide)) q26a q26c (g := (mkF m 285 #[.val (.int p0), .val (.int p1), .val (.int p2), .val (.int (0 : Int32)), .val (.int li), .val (.int md), .val (.int lu), .val (.int lr), .val (.int ua), .val (.int ub), .val (.int rc), .val (.int rd), .val (.ref vv), .val (.int lu), .val (.int ua), .val (.int ub), .val (.ref us), .val (.ref rq), .val (.int (0 : Int32)), .val (.int (1 : Int32)), .unset] [(.int li), (.ref rq), (.ref us), (.ref vv)])) rfl (by rw [hml]; rfl) (Steps.refl _) (argsL := [(.ref us), (.ref rq), (.int li)]) (rest := []) (lenOf pd_213 rfl) rfl (by show 2 * 0 + _ ≤ _; exact Nat.le_of_eq rfl) (hb hby at_285) (fun _ _ => ⟨rfl, rfl, (by decide : 12 + 0 ≤ _), (by decide : 24 + 0 ≤ _)⟩)
              dsimp only [Pt.U, Pt.locs, Pt.cells, Pt.slots] at X26 l26 y26 z26 st26 hQ26
              subst l26 y26 z26
              obtain ⟨rr, rfl, N26q, e26, Q26_0⟩ := hQ26
              have N26 := Fr.app N9 N26q
              refine Go.to st26 ?_
              show Go _ _ _ _ T26 (mkF m 288 #[.val (.int p0), .val (.int p1), .val (.int p2), .val (.int (0 : Int32)), .val (.int li), .val (.int md), .val (.int lu), .val (.int lr), .val (.int ua), .val (.int ub), .val (.int rc), .val (.int rd), .val (.ref vv), .val (.int lu), .val (.int ua), .val (.int ub), .val (.ref us), .val (.ref rq), .val (.int (0 : Int32)), .val (.int (1 : Int32)), .unset] [(.int rr)])
              refine Go.by (fun _ gk => XS.istore X26.here hx rfl (hb hby at_288) rfl (l' := #[.val (.int p0), .val (.int p1), .val (.int p2), .val (.int (0 : Int32)), .val (.int li), .val (.int md), .val (.int lu), .val (.int lr), .val (.int ua), .val (.int ub), .val (.int rc), .val (.int rd), .val (.ref vv), .val (.int lu), .val (.int ua), .val (.int ub), .val (.ref us), .val (.ref rq), .val (.int (0 : Int32)), .val (.int (1 : Int32)), .val (.int rr)]) rfl gk) ?_
              show Go _ _ _ _ T26 (mkF m 290 #[.val (.int p0), .val (.int p1), .val (.int p2), .val (.int (0 : Int32)), .val (.int li), .val (.int md), .val (.int lu), .val (.int lr), .val (.int ua), .val (.int ub), .val (.int rc), .val (.int rd), .val (.ref vv), .val (.int lu), .val (.int ua), .val (.int ub), .val (.ref us), .val (.ref rq), .val (.int (0 : Int32)), .val (.int (1 : Int32)), .val (.int rr)] [])
              refine Go.by (fun _ gk => XS.iload X26.here hx rfl (hb hby at_290) rfl gk) ?_
              show Go _ _ _ _ T26 (mkF m 292 #[.val (.int p0), .val (.int p1), .val (.int p2), .val (.int (0 : Int32)), .val (.int li), .val (.int md), .val (.int lu), .val (.int lr), .val (.int ua), .val (.int ub), .val (.int rc), .val (.int rd), .val (.ref vv), .val (.int lu), .val (.int ua), .val (.int ub), .val (.ref us), .val (.ref rq), .val (.int (0 : Int32)), .val (.int (1 : Int32)), .val (.int rr)] [(.int rr)])
              refine Go.by (fun _ gk => XS.iload X26.here hx rfl (hb hby at_292) rfl gk) ?_
              show Go _ _ _ _ T26 (mkF m 294 #[.val (.int p0), .val (.int p1), .val (.int p2), .val (.int (0 : Int32)), .val (.int li), .val (.int md), .val (.int lu), .val (.int lr), .val (.int ua), .val (.int ub), .val (.int rc), .val (.int rd), .val (.ref vv), .val (.int lu), .val (.int ua), .val (.int ub), .val (.ref us), .val (.ref rq), .val (.int (0 : Int32)), .val (.int (1 : Int32)), .val (.int rr)] [(.int (1 : Int32)), (.int rr)])
              obtain rfl : rr = (1 : Int32) := by
                rcases Q26_0 with ⟨q, -⟩ | ⟨-, q⟩
                · exact absurd ((own_same_iff hlu q_ua q_ub q_ua q_ub).mp q) hE
                · simpa using q
              show Go _ _ _ _ T26 (mkF m 294 #[.val (.int p0), .val (.int p1), .val (.int p2), .val (.int (0 : Int32)), .val (.int li), .val (.int md), .val (.int lu), .val (.int lr), .val (.int ua), .val (.int ub), .val (.int rc), .val (.int rd), .val (.ref vv), .val (.int lu), .val (.int ua), .val (.int ub), .val (.ref us), .val (.ref rq), .val (.int (0 : Int32)), .val (.int (1 : Int32)), .val (.int (1 : Int32))] [(.int (1 : Int32)), (.int (1 : Int32))])
              refine Go.by (fun _ gk => XS.icmpNo X26.here hx rfl (hb hby at_294) rfl (XT.ii_ne_f rfl) gk) ?_
              show Go _ _ _ _ T26 (mkF m 297 #[.val (.int p0), .val (.int p1), .val (.int p2), .val (.int (0 : Int32)), .val (.int li), .val (.int md), .val (.int lu), .val (.int lr), .val (.int ua), .val (.int ub), .val (.int rc), .val (.int rd), .val (.ref vv), .val (.int lu), .val (.int ua), .val (.int ub), .val (.ref us), .val (.ref rq), .val (.int (0 : Int32)), .val (.int (1 : Int32)), .val (.int (1 : Int32))] [])
              refine Go.by (fun _ gk => XT.iconstV X26.here hx rfl (1 : Int32) (hb hby at_297) (by decide) gk) ?_
              show Go _ _ _ _ T26 (mkF m 298 #[.val (.int p0), .val (.int p1), .val (.int p2), .val (.int (0 : Int32)), .val (.int li), .val (.int md), .val (.int lu), .val (.int lr), .val (.int ua), .val (.int ub), .val (.int rc), .val (.int rd), .val (.ref vv), .val (.int lu), .val (.int ua), .val (.int ub), .val (.ref us), .val (.ref rq), .val (.int (0 : Int32)), .val (.int (1 : Int32)), .val (.int (1 : Int32))] [(.int (1 : Int32))])
              refine Go.by (fun _ gk => XS.goto X26.here hx rfl (pc0 := 298) (pc' := 302) rfl (hb hby at_298) (by decide) (by decide) gk) ?_
              show Go _ _ _ _ T26 (mkF m 302 #[.val (.int p0), .val (.int p1), .val (.int p2), .val (.int (0 : Int32)), .val (.int li), .val (.int md), .val (.int lu), .val (.int lr), .val (.int ua), .val (.int ub), .val (.int rc), .val (.int rd), .val (.ref vv), .val (.int lu), .val (.int ua), .val (.int ub), .val (.ref us), .val (.ref rq), .val (.int (0 : Int32)), .val (.int (1 : Int32)), .val (.int (1 : Int32))] [(.int (1 : Int32))])
              exact Go.retIW X26 hx Bd.notSynchronized hS9 (by rw [e26]; exact (Nat.le_refl T9.heap.size)) hZ9 hEL (by rw [hh, e26]; exact C10) Bd.returns rfl (by simp) (hb hby at_302) (by rw [e26]; exact ⟨rfl, N26⟩) (by decide) (by decide)
            · show Go _ _ _ _ T9 (mkF m 253 #[.val (.int p0), .val (.int p1), .val (.int p2), .val (.int (1 : Int32)), .val (.int li), .val (.int md), .val (.int lu), .val (.int lr), .val (.int ua), .val (.int ub), .val (.int rc), .val (.int rd), .val (.ref vv), .val (.int lu), .val (.int ua), .val (.int ub), .val (.ref us), .val (.ref rq), .val (.int (0 : Int32)), .unset, .unset] [(.int (1 : Int32))])
              refine Go.by (fun _ gk => XS.ifYes X9.here hx rfl (pc0 := 253) (pc' := 262) rfl (hb hby at_253) rfl (XT.i0_ne_t (by decide)) (by decide) (by decide) gk) ?_
              show Go _ _ _ _ T9 (mkF m 262 #[.val (.int p0), .val (.int p1), .val (.int p2), .val (.int (1 : Int32)), .val (.int li), .val (.int md), .val (.int lu), .val (.int lr), .val (.int ua), .val (.int ub), .val (.int rc), .val (.int rd), .val (.ref vv), .val (.int lu), .val (.int ua), .val (.int ub), .val (.ref us), .val (.ref rq), .val (.int (0 : Int32)), .unset, .unset] [])
              refine Go.by (fun _ gk => XS.iloadN X9.here hx rfl (hb hby at_262) rfl gk) ?_
              show Go _ _ _ _ T9 (mkF m 263 #[.val (.int p0), .val (.int p1), .val (.int p2), .val (.int (1 : Int32)), .val (.int li), .val (.int md), .val (.int lu), .val (.int lr), .val (.int ua), .val (.int ub), .val (.int rc), .val (.int rd), .val (.ref vv), .val (.int lu), .val (.int ua), .val (.int ub), .val (.ref us), .val (.ref rq), .val (.int (0 : Int32)), .unset, .unset] [(.int (1 : Int32))])
              refine Go.by (fun _ gk => XT.iconstV X9.here hx rfl (1 : Int32) (hb hby at_263) (by decide) gk) ?_
              show Go _ _ _ _ T9 (mkF m 264 #[.val (.int p0), .val (.int p1), .val (.int p2), .val (.int (1 : Int32)), .val (.int li), .val (.int md), .val (.int lu), .val (.int lr), .val (.int ua), .val (.int ub), .val (.int rc), .val (.int rd), .val (.ref vv), .val (.int lu), .val (.int ua), .val (.int ub), .val (.ref us), .val (.ref rq), .val (.int (0 : Int32)), .unset, .unset] [(.int (1 : Int32)), (.int (1 : Int32))])
              refine Go.by (fun _ gk => XS.icmpNo X9.here hx rfl (hb hby at_264) rfl (XT.ii_ne_f rfl) gk) ?_
              show Go _ _ _ _ T9 (mkF m 267 #[.val (.int p0), .val (.int p1), .val (.int p2), .val (.int (1 : Int32)), .val (.int li), .val (.int md), .val (.int lu), .val (.int lr), .val (.int ua), .val (.int ub), .val (.int rc), .val (.int rd), .val (.ref vv), .val (.int lu), .val (.int ua), .val (.int ub), .val (.ref us), .val (.ref rq), .val (.int (0 : Int32)), .unset, .unset] [])
              refine Go.by (fun _ gk => XS.iload X9.here hx rfl (hb hby at_267) rfl gk) ?_
              show Go _ _ _ _ T9 (mkF m 269 #[.val (.int p0), .val (.int p1), .val (.int p2), .val (.int (1 : Int32)), .val (.int li), .val (.int md), .val (.int lu), .val (.int lr), .val (.int ua), .val (.int ub), .val (.int rc), .val (.int rd), .val (.ref vv), .val (.int lu), .val (.int ua), .val (.int ub), .val (.ref us), .val (.ref rq), .val (.int (0 : Int32)), .unset, .unset] [(.int li)])
              refine Go.by (fun _ gk => XS.istore X9.here hx rfl (hb hby at_269) rfl (l' := #[.val (.int p0), .val (.int p1), .val (.int p2), .val (.int (1 : Int32)), .val (.int li), .val (.int md), .val (.int lu), .val (.int lr), .val (.int ua), .val (.int ub), .val (.int rc), .val (.int rd), .val (.ref vv), .val (.int lu), .val (.int ua), .val (.int ub), .val (.ref us), .val (.ref rq), .val (.int (0 : Int32)), .val (.int li), .unset]) rfl gk) ?_
              show Go _ _ _ _ T9 (mkF m 271 #[.val (.int p0), .val (.int p1), .val (.int p2), .val (.int (1 : Int32)), .val (.int li), .val (.int md), .val (.int lu), .val (.int lr), .val (.int ua), .val (.int ub), .val (.int rc), .val (.int rd), .val (.ref vv), .val (.int lu), .val (.int ua), .val (.int ub), .val (.ref us), .val (.ref rq), .val (.int (0 : Int32)), .val (.int li), .unset] [])
              refine Go.by (fun _ gk => XS.goto X9.here hx rfl (pc0 := 271) (pc' := 277) rfl (hb hby at_271) (by decide) (by decide) gk) ?_
              show Go _ _ _ _ T9 (mkF m 277 #[.val (.int p0), .val (.int p1), .val (.int p2), .val (.int (1 : Int32)), .val (.int li), .val (.int md), .val (.int lu), .val (.int lr), .val (.int ua), .val (.int ub), .val (.int rc), .val (.int rd), .val (.ref vv), .val (.int lu), .val (.int ua), .val (.int ub), .val (.ref us), .val (.ref rq), .val (.int (0 : Int32)), .val (.int li), .unset] [])
              refine Go.by (fun _ gk => XS.aload X9.here hx rfl (hb hby at_277) rfl rfl gk) ?_
              show Go _ _ _ _ T9 (mkF m 279 #[.val (.int p0), .val (.int p1), .val (.int p2), .val (.int (1 : Int32)), .val (.int li), .val (.int md), .val (.int lu), .val (.int lr), .val (.int ua), .val (.int ub), .val (.int rc), .val (.int rd), .val (.ref vv), .val (.int lu), .val (.int ua), .val (.int ub), .val (.ref us), .val (.ref rq), .val (.int (0 : Int32)), .val (.int li), .unset] [(.ref vv)])
              refine Go.by (fun _ gk => XS.aload X9.here hx rfl (hb hby at_279) rfl rfl gk) ?_
              show Go _ _ _ _ T9 (mkF m 281 #[.val (.int p0), .val (.int p1), .val (.int p2), .val (.int (1 : Int32)), .val (.int li), .val (.int md), .val (.int lu), .val (.int lr), .val (.int ua), .val (.int ub), .val (.int rc), .val (.int rd), .val (.ref vv), .val (.int lu), .val (.int ua), .val (.int ub), .val (.ref us), .val (.ref rq), .val (.int (0 : Int32)), .val (.int li), .unset] [(.ref us), (.ref vv)])
              refine Go.by (fun _ gk => XS.aload X9.here hx rfl (hb hby at_281) rfl rfl gk) ?_
              show Go _ _ _ _ T9 (mkF m 283 #[.val (.int p0), .val (.int p1), .val (.int p2), .val (.int (1 : Int32)), .val (.int li), .val (.int md), .val (.int lu), .val (.int lr), .val (.int ua), .val (.int ub), .val (.int rc), .val (.int rd), .val (.ref vv), .val (.int lu), .val (.int ua), .val (.int ub), .val (.ref us), .val (.ref rq), .val (.int (0 : Int32)), .val (.int li), .unset] [(.ref rq), (.ref us), (.ref vv)])
              refine Go.by (fun _ gk => XS.iload X9.here hx rfl (hb hby at_283) rfl gk) ?_
              show Go _ _ _ _ T9 (mkF m 285 #[.val (.int p0), .val (.int p1), .val (.int p2), .val (.int (1 : Int32)), .val (.int li), .val (.int md), .val (.int lu), .val (.int lr), .val (.int ua), .val (.int ub), .val (.int rc), .val (.int rd), .val (.ref vv), .val (.int lu), .val (.int ua), .val (.int ub), .val (.ref us), .val (.ref rq), .val (.int (0 : Int32)), .val (.int li), .unset] [(.int li), (.ref rq), (.ref us), (.ref vv)])
              have F28 : Old Z n0 T9.heap := F6.keep K9 all0
              have F29 : Exa Z T9.heap us "java/lang/String" := Q4_0.keep K9
              have F30 : Fld Z T9.heap us "java/lang/String" "coder" "B" (.int (0 : Int32)) := Q4_1.keep K9 nin0
              have F31 : Fld Z T9.heap us "java/lang/String" "value" "[B" (.ref usb) := Q4_2.keep K9 nin0
              have F32 : Arv Z T9.heap usb kus .byte lu (own_str lu ua ub) (.int (0 : Int32)) := Q4_3.keep K9 nin0
              have F33 : n0 ≤ T9.heap.size := Nat.le_trans F7 K9.1
              have F35 : Exa Z T9.heap vv "com/example/muster/muster/model/Visibility" := E_vv.ext F28.2
              obtain ⟨cq34, kq34, q34a, q34b, q34c⟩ := isOf hZ9 rfl F35
              obtain ⟨_, _, ⟨T34, L34, k34, n34⟩, -, X34, ⟨Lc34, hQ34, l34, y34, z34⟩, st34⟩ := X9.virtualBack hx (y := (⟨"com/example/muster/muster/model/Visibility", "shows", "(Ljava/lang/String;Ljava/lang/String;Z)Z"⟩ : MethodName)) (z := (⟨"com/example/muster/muster/model/Visibility", "shows", "(Ljava/lang/String;Ljava/lang/String;Z)Z"⟩ : MethodName)) hown9 (mvT hZ9 (hw _ (List.mem_of_getElem? (i := 29) rfl))) (mvT hZ9 (hw _ (List.mem_of_getElem? (i := 30) rfl))) (notFace_of_selects (args := #[]) (mvT hZ9 (hw _ (List.mem_of_getElem? (i := 32) rfl)))) (mvT hZ9 (hw _ (List.mem_of_getElem? (i := 32) rfl))) (mvT hZ9 (hw _ (List.mem_of_getElem? (i := 31) rfl))) (by decide) (backOf (W := 0) (rmShows l Z a0 hw [] vv us rq li (1 : Int32) usb rqb kus krq lu ua ub lu ua ub c_EVERYONE c_CONTACTS c_NOBODY cs T9.heap n0 F33 F28 Q9_0 Q9_1 Q9_2 Q9_3 F29 F30 F31 F32 hlu hlu (Ne.symm ne_us_rq) h_vv h_li S_c_EVERYONE E_c_EVERYONE O_c_EVERYONE S_c_CONTACTS E_c_CONTACTS O_c_CONTACTS S_c_NOBODY E_c_NOBODY O_c_NOBODY S_cs n_cs) hZ9 (hw _ (List.mem_of_getElem? (i := 33) rfl)) (hw _ (List.mem_of_getElem? (i := 1) rfl)) (by decide) (by decide)) q34a q34c (g := (mkF m 285 #[.val (.int p0), .val (.int p1), .val (.int p2), .val (.int (1 : Int32)), .val (.int li), .val (.int md), .val (.int lu), .val (.int lr), .val (.int ua), .val (.int ub), .val (.int rc), .val (.int rd), .val (.ref vv), .val (.int lu), .val (.int ua), .val (.int ub), .val (.ref us), .val (.ref rq), .val (.int (0 : Int32)), .val (.int li), .unset] [(.int li), (.ref rq), (.ref us), (.ref vv)])) rfl (by rw [hml]; rfl) (Steps.refl _) (argsL := [(.ref us), (.ref rq), (.int li)]) (rest := []) (lenOf pd_213 rfl) rfl (by show 2 * 0 + _ ≤ _; exact Nat.le_of_eq rfl) (hb hby at_285) (fun _ _ => ⟨rfl, rfl, (by decide : 12 + 0 ≤ _), (by decide : 24 + 0 ≤ _)⟩)
              dsimp only [Pt.U, Pt.locs, Pt.cells, Pt.slots] at X34 l34 y34 z34 st34 hQ34
              subst l34 y34 z34
              obtain ⟨rr, rfl, N34q, e34, Q34_0⟩ := hQ34
              have N34 := Fr.app N9 N34q
              refine Go.to st34 ?_
              show Go _ _ _ _ T34 (mkF m 288 #[.val (.int p0), .val (.int p1), .val (.int p2), .val (.int (1 : Int32)), .val (.int li), .val (.int md), .val (.int lu), .val (.int lr), .val (.int ua), .val (.int ub), .val (.int rc), .val (.int rd), .val (.ref vv), .val (.int lu), .val (.int ua), .val (.int ub), .val (.ref us), .val (.ref rq), .val (.int (0 : Int32)), .val (.int li), .unset] [(.int rr)])
              refine Go.by (fun _ gk => XS.istore X34.here hx rfl (hb hby at_288) rfl (l' := #[.val (.int p0), .val (.int p1), .val (.int p2), .val (.int (1 : Int32)), .val (.int li), .val (.int md), .val (.int lu), .val (.int lr), .val (.int ua), .val (.int ub), .val (.int rc), .val (.int rd), .val (.ref vv), .val (.int lu), .val (.int ua), .val (.int ub), .val (.ref us), .val (.ref rq), .val (.int (0 : Int32)), .val (.int li), .val (.int rr)]) rfl gk) ?_
              show Go _ _ _ _ T34 (mkF m 290 #[.val (.int p0), .val (.int p1), .val (.int p2), .val (.int (1 : Int32)), .val (.int li), .val (.int md), .val (.int lu), .val (.int lr), .val (.int ua), .val (.int ub), .val (.int rc), .val (.int rd), .val (.ref vv), .val (.int lu), .val (.int ua), .val (.int ub), .val (.ref us), .val (.ref rq), .val (.int (0 : Int32)), .val (.int li), .val (.int rr)] [])
              refine Go.by (fun _ gk => XS.iload X34.here hx rfl (hb hby at_290) rfl gk) ?_
              show Go _ _ _ _ T34 (mkF m 292 #[.val (.int p0), .val (.int p1), .val (.int p2), .val (.int (1 : Int32)), .val (.int li), .val (.int md), .val (.int lu), .val (.int lr), .val (.int ua), .val (.int ub), .val (.int rc), .val (.int rd), .val (.ref vv), .val (.int lu), .val (.int ua), .val (.int ub), .val (.ref us), .val (.ref rq), .val (.int (0 : Int32)), .val (.int li), .val (.int rr)] [(.int rr)])
              refine Go.by (fun _ gk => XS.iload X34.here hx rfl (hb hby at_292) rfl gk) ?_
              show Go _ _ _ _ T34 (mkF m 294 #[.val (.int p0), .val (.int p1), .val (.int p2), .val (.int (1 : Int32)), .val (.int li), .val (.int md), .val (.int lu), .val (.int lr), .val (.int ua), .val (.int ub), .val (.int rc), .val (.int rd), .val (.ref vv), .val (.int lu), .val (.int ua), .val (.int ub), .val (.ref us), .val (.ref rq), .val (.int (0 : Int32)), .val (.int li), .val (.int rr)] [(.int li), (.int rr)])
              obtain rfl : li = rr := by
                rcases Q34_0 with ⟨q, -⟩ | ⟨-, q⟩
                · exact absurd ((own_same_iff hlu q_ua q_ub q_ua q_ub).mp q) hE
                · exact (by simpa using q : rr = li).symm
              show Go _ _ _ _ T34 (mkF m 294 #[.val (.int p0), .val (.int p1), .val (.int p2), .val (.int (1 : Int32)), .val (.int li), .val (.int md), .val (.int lu), .val (.int lr), .val (.int ua), .val (.int ub), .val (.int rc), .val (.int rd), .val (.ref vv), .val (.int lu), .val (.int ua), .val (.int ub), .val (.ref us), .val (.ref rq), .val (.int (0 : Int32)), .val (.int li), .val (.int li)] [(.int li), (.int li)])
              refine Go.by (fun _ gk => XS.icmpNo X34.here hx rfl (hb hby at_294) rfl (XT.ii_ne_f rfl) gk) ?_
              show Go _ _ _ _ T34 (mkF m 297 #[.val (.int p0), .val (.int p1), .val (.int p2), .val (.int (1 : Int32)), .val (.int li), .val (.int md), .val (.int lu), .val (.int lr), .val (.int ua), .val (.int ub), .val (.int rc), .val (.int rd), .val (.ref vv), .val (.int lu), .val (.int ua), .val (.int ub), .val (.ref us), .val (.ref rq), .val (.int (0 : Int32)), .val (.int li), .val (.int li)] [])
              refine Go.by (fun _ gk => XT.iconstV X34.here hx rfl (1 : Int32) (hb hby at_297) (by decide) gk) ?_
              show Go _ _ _ _ T34 (mkF m 298 #[.val (.int p0), .val (.int p1), .val (.int p2), .val (.int (1 : Int32)), .val (.int li), .val (.int md), .val (.int lu), .val (.int lr), .val (.int ua), .val (.int ub), .val (.int rc), .val (.int rd), .val (.ref vv), .val (.int lu), .val (.int ua), .val (.int ub), .val (.ref us), .val (.ref rq), .val (.int (0 : Int32)), .val (.int li), .val (.int li)] [(.int (1 : Int32))])
              refine Go.by (fun _ gk => XS.goto X34.here hx rfl (pc0 := 298) (pc' := 302) rfl (hb hby at_298) (by decide) (by decide) gk) ?_
              show Go _ _ _ _ T34 (mkF m 302 #[.val (.int p0), .val (.int p1), .val (.int p2), .val (.int (1 : Int32)), .val (.int li), .val (.int md), .val (.int lu), .val (.int lr), .val (.int ua), .val (.int ub), .val (.int rc), .val (.int rd), .val (.ref vv), .val (.int lu), .val (.int ua), .val (.int ub), .val (.ref us), .val (.ref rq), .val (.int (0 : Int32)), .val (.int li), .val (.int li)] [(.int (1 : Int32))])
              exact Go.retIW X34 hx Bd.notSynchronized hS9 (by rw [e34]; exact (Nat.le_refl T9.heap.size)) hZ9 hEL (by rw [hh, e34]; exact C10) Bd.returns rfl (by simp) (hb hby at_302) (by rw [e34]; exact ⟨rfl, N34⟩) (by decide) (by decide)
            · show Go _ _ _ _ T9 (mkF m 253 #[.val (.int p0), .val (.int p1), .val (.int p2), .val (.int (2 : Int32)), .val (.int li), .val (.int md), .val (.int lu), .val (.int lr), .val (.int ua), .val (.int ub), .val (.int rc), .val (.int rd), .val (.ref vv), .val (.int lu), .val (.int ua), .val (.int ub), .val (.ref us), .val (.ref rq), .val (.int (0 : Int32)), .unset, .unset] [(.int (2 : Int32))])
              refine Go.by (fun _ gk => XS.ifYes X9.here hx rfl (pc0 := 253) (pc' := 262) rfl (hb hby at_253) rfl (XT.i0_ne_t (by decide)) (by decide) (by decide) gk) ?_
              show Go _ _ _ _ T9 (mkF m 262 #[.val (.int p0), .val (.int p1), .val (.int p2), .val (.int (2 : Int32)), .val (.int li), .val (.int md), .val (.int lu), .val (.int lr), .val (.int ua), .val (.int ub), .val (.int rc), .val (.int rd), .val (.ref vv), .val (.int lu), .val (.int ua), .val (.int ub), .val (.ref us), .val (.ref rq), .val (.int (0 : Int32)), .unset, .unset] [])
              refine Go.by (fun _ gk => XS.iloadN X9.here hx rfl (hb hby at_262) rfl gk) ?_
              show Go _ _ _ _ T9 (mkF m 263 #[.val (.int p0), .val (.int p1), .val (.int p2), .val (.int (2 : Int32)), .val (.int li), .val (.int md), .val (.int lu), .val (.int lr), .val (.int ua), .val (.int ub), .val (.int rc), .val (.int rd), .val (.ref vv), .val (.int lu), .val (.int ua), .val (.int ub), .val (.ref us), .val (.ref rq), .val (.int (0 : Int32)), .unset, .unset] [(.int (2 : Int32))])
              refine Go.by (fun _ gk => XT.iconstV X9.here hx rfl (1 : Int32) (hb hby at_263) (by decide) gk) ?_
              show Go _ _ _ _ T9 (mkF m 264 #[.val (.int p0), .val (.int p1), .val (.int p2), .val (.int (2 : Int32)), .val (.int li), .val (.int md), .val (.int lu), .val (.int lr), .val (.int ua), .val (.int ub), .val (.int rc), .val (.int rd), .val (.ref vv), .val (.int lu), .val (.int ua), .val (.int ub), .val (.ref us), .val (.ref rq), .val (.int (0 : Int32)), .unset, .unset] [(.int (1 : Int32)), (.int (2 : Int32))])
              refine Go.by (fun _ gk => XS.icmpYes X9.here hx rfl (pc0 := 264) (pc' := 274) rfl (hb hby at_264) rfl (XT.ii_ne_t (by decide)) (by decide) (by decide) gk) ?_
              show Go _ _ _ _ T9 (mkF m 274 #[.val (.int p0), .val (.int p1), .val (.int p2), .val (.int (2 : Int32)), .val (.int li), .val (.int md), .val (.int lu), .val (.int lr), .val (.int ua), .val (.int ub), .val (.int rc), .val (.int rd), .val (.ref vv), .val (.int lu), .val (.int ua), .val (.int ub), .val (.ref us), .val (.ref rq), .val (.int (0 : Int32)), .unset, .unset] [])
              refine Go.by (fun _ gk => XT.iconstV X9.here hx rfl (0 : Int32) (hb hby at_274) (by decide) gk) ?_
              show Go _ _ _ _ T9 (mkF m 275 #[.val (.int p0), .val (.int p1), .val (.int p2), .val (.int (2 : Int32)), .val (.int li), .val (.int md), .val (.int lu), .val (.int lr), .val (.int ua), .val (.int ub), .val (.int rc), .val (.int rd), .val (.ref vv), .val (.int lu), .val (.int ua), .val (.int ub), .val (.ref us), .val (.ref rq), .val (.int (0 : Int32)), .unset, .unset] [(.int (0 : Int32))])
              refine Go.by (fun _ gk => XS.istore X9.here hx rfl (hb hby at_275) rfl (l' := #[.val (.int p0), .val (.int p1), .val (.int p2), .val (.int (2 : Int32)), .val (.int li), .val (.int md), .val (.int lu), .val (.int lr), .val (.int ua), .val (.int ub), .val (.int rc), .val (.int rd), .val (.ref vv), .val (.int lu), .val (.int ua), .val (.int ub), .val (.ref us), .val (.ref rq), .val (.int (0 : Int32)), .val (.int (0 : Int32)), .unset]) rfl gk) ?_
              show Go _ _ _ _ T9 (mkF m 277 #[.val (.int p0), .val (.int p1), .val (.int p2), .val (.int (2 : Int32)), .val (.int li), .val (.int md), .val (.int lu), .val (.int lr), .val (.int ua), .val (.int ub), .val (.int rc), .val (.int rd), .val (.ref vv), .val (.int lu), .val (.int ua), .val (.int ub), .val (.ref us), .val (.ref rq), .val (.int (0 : Int32)), .val (.int (0 : Int32)), .unset] [])
              refine Go.by (fun _ gk => XS.aload X9.here hx rfl (hb hby at_277) rfl rfl gk) ?_
              show Go _ _ _ _ T9 (mkF m 279 #[.val (.int p0), .val (.int p1), .val (.int p2), .val (.int (2 : Int32)), .val (.int li), .val (.int md), .val (.int lu), .val (.int lr), .val (.int ua), .val (.int ub), .val (.int rc), .val (.int rd), .val (.ref vv), .val (.int lu), .val (.int ua), .val (.int ub), .val (.ref us), .val (.ref rq), .val (.int (0 : Int32)), .val (.int (0 : Int32)), .unset] [(.ref vv)])
              refine Go.by (fun _ gk => XS.aload X9.here hx rfl (hb hby at_279) rfl rfl gk) ?_
              show Go _ _ _ _ T9 (mkF m 281 #[.val (.int p0), .val (.int p1), .val (.int p2), .val (.int (2 : Int32)), .val (.int li), .val (.int md), .val (.int lu), .val (.int lr), .val (.int ua), .val (.int ub), .val (.int rc), .val (.int rd), .val (.ref vv), .val (.int lu), .val (.int ua), .val (.int ub), .val (.ref us), .val (.ref rq), .val (.int (0 : Int32)), .val (.int (0 : Int32)), .unset] [(.ref us), (.ref vv)])
              refine Go.by (fun _ gk => XS.aload X9.here hx rfl (hb hby at_281) rfl rfl gk) ?_
              show Go _ _ _ _ T9 (mkF m 283 #[.val (.int p0), .val (.int p1), .val (.int p2), .val (.int (2 : Int32)), .val (.int li), .val (.int md), .val (.int lu), .val (.int lr), .val (.int ua), .val (.int ub), .val (.int rc), .val (.int rd), .val (.ref vv), .val (.int lu), .val (.int ua), .val (.int ub), .val (.ref us), .val (.ref rq), .val (.int (0 : Int32)), .val (.int (0 : Int32)), .unset] [(.ref rq), (.ref us), (.ref vv)])
              refine Go.by (fun _ gk => XS.iload X9.here hx rfl (hb hby at_283) rfl gk) ?_
              show Go _ _ _ _ T9 (mkF m 285 #[.val (.int p0), .val (.int p1), .val (.int p2), .val (.int (2 : Int32)), .val (.int li), .val (.int md), .val (.int lu), .val (.int lr), .val (.int ua), .val (.int ub), .val (.int rc), .val (.int rd), .val (.ref vv), .val (.int lu), .val (.int ua), .val (.int ub), .val (.ref us), .val (.ref rq), .val (.int (0 : Int32)), .val (.int (0 : Int32)), .unset] [(.int li), (.ref rq), (.ref us), (.ref vv)])
              have F36 : Old Z n0 T9.heap := F6.keep K9 all0
              have F37 : Exa Z T9.heap us "java/lang/String" := Q4_0.keep K9
              have F38 : Fld Z T9.heap us "java/lang/String" "coder" "B" (.int (0 : Int32)) := Q4_1.keep K9 nin0
              have F39 : Fld Z T9.heap us "java/lang/String" "value" "[B" (.ref usb) := Q4_2.keep K9 nin0
              have F40 : Arv Z T9.heap usb kus .byte lu (own_str lu ua ub) (.int (0 : Int32)) := Q4_3.keep K9 nin0
              have F41 : n0 ≤ T9.heap.size := Nat.le_trans F7 K9.1
              have F43 : Exa Z T9.heap vv "com/example/muster/muster/model/Visibility" := E_vv.ext F36.2
              obtain ⟨cq42, kq42, q42a, q42b, q42c⟩ := isOf hZ9 rfl F43
              obtain ⟨_, _, ⟨T42, L42, k42, n42⟩, -, X42, ⟨Lc42, hQ42, l42, y42, z42⟩, st42⟩ := X9.virtualBack hx (y := (⟨"com/example/muster/muster/model/Visibility", "shows", "(Ljava/lang/String;Ljava/lang/String;Z)Z"⟩ : MethodName)) (z := (⟨"com/example/muster/muster/model/Visibility", "shows", "(Ljava/lang/String;Ljava/lang/String;Z)Z"⟩ : MethodName)) hown9 (mvT hZ9 (hw _ (List.mem_of_getElem? (i := 29) rfl))) (mvT hZ9 (hw _ (List.mem_of_getElem? (i := 30) rfl))) (notFace_of_selects (args := #[]) (mvT hZ9 (hw _ (List.mem_of_getElem? (i := 32) rfl)))) (mvT hZ9 (hw _ (List.mem_of_getElem? (i := 32) rfl))) (mvT hZ9 (hw _ (List.mem_of_getElem? (i := 31) rfl))) (by decide) (backOf (W := 0) (rmShows l Z a0 hw [] vv us rq li (2 : Int32) usb rqb kus krq lu ua ub lu ua ub c_EVERYONE c_CONTACTS c_NOBODY cs T9.heap n0 F41 F36 Q9_0 Q9_1 Q9_2 Q9_3 F37 F38 F39 F40 hlu hlu (Ne.symm ne_us_rq) h_vv h_li S_c_EVERYONE E_c_EVERYONE O_c_EVERYONE S_c_CONTACTS E_c_CONTACTS O_c_CONTACTS S_c_NOBODY E_c_NOBODY O_c_NOBODY S_cs n_cs) hZ9 (hw _ (List.mem_of_getElem? (i := 33) rfl)) (hw _ (List.mem_of_getElem? (i := 1) rfl)) (by decide) (by decide)) q42a q42c (g := (mkF m 285 #[.val (.int p0), .val (.int p1), .val (.int p2), .val (.int (2 : Int32)), .val (.int li), .val (.int md), .val (.int lu), .val (.int lr), .val (.int ua), .val (.int ub), .val (.int rc), .val (.int rd), .val (.ref vv), .val (.int lu), .val (.int ua), .val (.int ub), .val (.ref us), .val (.ref rq), .val (.int (0 : Int32)), .val (.int (0 : Int32)), .unset] [(.int li), (.ref rq), (.ref us), (.ref vv)])) rfl (by rw [hml]; rfl) (Steps.refl _) (argsL := [(.ref us), (.ref rq), (.int li)]) (rest := []) (lenOf pd_213 rfl) rfl (by show 2 * 0 + _ ≤ _; exact Nat.le_of_eq rfl) (hb hby at_285) (fun _ _ => ⟨rfl, rfl, (by decide : 12 + 0 ≤ _), (by decide : 24 + 0 ≤ _)⟩)
              dsimp only [Pt.U, Pt.locs, Pt.cells, Pt.slots] at X42 l42 y42 z42 st42 hQ42
              subst l42 y42 z42
              obtain ⟨rr, rfl, N42q, e42, Q42_0⟩ := hQ42
              have N42 := Fr.app N9 N42q
              refine Go.to st42 ?_
              show Go _ _ _ _ T42 (mkF m 288 #[.val (.int p0), .val (.int p1), .val (.int p2), .val (.int (2 : Int32)), .val (.int li), .val (.int md), .val (.int lu), .val (.int lr), .val (.int ua), .val (.int ub), .val (.int rc), .val (.int rd), .val (.ref vv), .val (.int lu), .val (.int ua), .val (.int ub), .val (.ref us), .val (.ref rq), .val (.int (0 : Int32)), .val (.int (0 : Int32)), .unset] [(.int rr)])
              refine Go.by (fun _ gk => XS.istore X42.here hx rfl (hb hby at_288) rfl (l' := #[.val (.int p0), .val (.int p1), .val (.int p2), .val (.int (2 : Int32)), .val (.int li), .val (.int md), .val (.int lu), .val (.int lr), .val (.int ua), .val (.int ub), .val (.int rc), .val (.int rd), .val (.ref vv), .val (.int lu), .val (.int ua), .val (.int ub), .val (.ref us), .val (.ref rq), .val (.int (0 : Int32)), .val (.int (0 : Int32)), .val (.int rr)]) rfl gk) ?_
              show Go _ _ _ _ T42 (mkF m 290 #[.val (.int p0), .val (.int p1), .val (.int p2), .val (.int (2 : Int32)), .val (.int li), .val (.int md), .val (.int lu), .val (.int lr), .val (.int ua), .val (.int ub), .val (.int rc), .val (.int rd), .val (.ref vv), .val (.int lu), .val (.int ua), .val (.int ub), .val (.ref us), .val (.ref rq), .val (.int (0 : Int32)), .val (.int (0 : Int32)), .val (.int rr)] [])
              refine Go.by (fun _ gk => XS.iload X42.here hx rfl (hb hby at_290) rfl gk) ?_
              show Go _ _ _ _ T42 (mkF m 292 #[.val (.int p0), .val (.int p1), .val (.int p2), .val (.int (2 : Int32)), .val (.int li), .val (.int md), .val (.int lu), .val (.int lr), .val (.int ua), .val (.int ub), .val (.int rc), .val (.int rd), .val (.ref vv), .val (.int lu), .val (.int ua), .val (.int ub), .val (.ref us), .val (.ref rq), .val (.int (0 : Int32)), .val (.int (0 : Int32)), .val (.int rr)] [(.int rr)])
              refine Go.by (fun _ gk => XS.iload X42.here hx rfl (hb hby at_292) rfl gk) ?_
              show Go _ _ _ _ T42 (mkF m 294 #[.val (.int p0), .val (.int p1), .val (.int p2), .val (.int (2 : Int32)), .val (.int li), .val (.int md), .val (.int lu), .val (.int lr), .val (.int ua), .val (.int ub), .val (.int rc), .val (.int rd), .val (.ref vv), .val (.int lu), .val (.int ua), .val (.int ub), .val (.ref us), .val (.ref rq), .val (.int (0 : Int32)), .val (.int (0 : Int32)), .val (.int rr)] [(.int (0 : Int32)), (.int rr)])
              obtain rfl : rr = (0 : Int32) := by
                rcases Q42_0 with ⟨q, -⟩ | ⟨-, q⟩
                · exact absurd ((own_same_iff hlu q_ua q_ub q_ua q_ub).mp q) hE
                · simpa using q
              show Go _ _ _ _ T42 (mkF m 294 #[.val (.int p0), .val (.int p1), .val (.int p2), .val (.int (2 : Int32)), .val (.int li), .val (.int md), .val (.int lu), .val (.int lr), .val (.int ua), .val (.int ub), .val (.int rc), .val (.int rd), .val (.ref vv), .val (.int lu), .val (.int ua), .val (.int ub), .val (.ref us), .val (.ref rq), .val (.int (0 : Int32)), .val (.int (0 : Int32)), .val (.int (0 : Int32))] [(.int (0 : Int32)), (.int (0 : Int32))])
              refine Go.by (fun _ gk => XS.icmpNo X42.here hx rfl (hb hby at_294) rfl (XT.ii_ne_f rfl) gk) ?_
              show Go _ _ _ _ T42 (mkF m 297 #[.val (.int p0), .val (.int p1), .val (.int p2), .val (.int (2 : Int32)), .val (.int li), .val (.int md), .val (.int lu), .val (.int lr), .val (.int ua), .val (.int ub), .val (.int rc), .val (.int rd), .val (.ref vv), .val (.int lu), .val (.int ua), .val (.int ub), .val (.ref us), .val (.ref rq), .val (.int (0 : Int32)), .val (.int (0 : Int32)), .val (.int (0 : Int32))] [])
              refine Go.by (fun _ gk => XT.iconstV X42.here hx rfl (1 : Int32) (hb hby at_297) (by decide) gk) ?_
              show Go _ _ _ _ T42 (mkF m 298 #[.val (.int p0), .val (.int p1), .val (.int p2), .val (.int (2 : Int32)), .val (.int li), .val (.int md), .val (.int lu), .val (.int lr), .val (.int ua), .val (.int ub), .val (.int rc), .val (.int rd), .val (.ref vv), .val (.int lu), .val (.int ua), .val (.int ub), .val (.ref us), .val (.ref rq), .val (.int (0 : Int32)), .val (.int (0 : Int32)), .val (.int (0 : Int32))] [(.int (1 : Int32))])
              refine Go.by (fun _ gk => XS.goto X42.here hx rfl (pc0 := 298) (pc' := 302) rfl (hb hby at_298) (by decide) (by decide) gk) ?_
              show Go _ _ _ _ T42 (mkF m 302 #[.val (.int p0), .val (.int p1), .val (.int p2), .val (.int (2 : Int32)), .val (.int li), .val (.int md), .val (.int lu), .val (.int lr), .val (.int ua), .val (.int ub), .val (.int rc), .val (.int rd), .val (.ref vv), .val (.int lu), .val (.int ua), .val (.int ub), .val (.ref us), .val (.ref rq), .val (.int (0 : Int32)), .val (.int (0 : Int32)), .val (.int (0 : Int32))] [(.int (1 : Int32))])
              exact Go.retIW X42 hx Bd.notSynchronized hS9 (by rw [e42]; exact (Nat.le_refl T9.heap.size)) hZ9 hEL (by rw [hh, e42]; exact C10) Bd.returns rfl (by simp) (hb hby at_302) (by rw [e42]; exact ⟨rfl, N42⟩) (by decide) (by decide)
        · intro J11
          show Go _ _ _ _ T9 (mkF m 194 #[.val (.int p0), .val (.int p1), .val (.int p2), .val (.int k), .val (.int li), .val (.int md), .val (.int lu), .val (.int lr), .val (.int ua), .val (.int ub), .val (.int rc), .val (.int rd), .val (.ref vv), .val (.int lu), .val (.int ua), .val (.int ub), .val (.ref us), .val (.ref rq), .unset, .unset, .unset] [(.int lu), (.int lu)])
          refine Go.by (fun _ gk => XS.icmpNo X9.here hx rfl (hb hby at_194) rfl (XT.ii_ne_f rfl) gk) ?_
          show Go _ _ _ _ T9 (mkF m 197 #[.val (.int p0), .val (.int p1), .val (.int p2), .val (.int k), .val (.int li), .val (.int md), .val (.int lu), .val (.int lr), .val (.int ua), .val (.int ub), .val (.int rc), .val (.int rd), .val (.ref vv), .val (.int lu), .val (.int ua), .val (.int ub), .val (.ref us), .val (.ref rq), .unset, .unset, .unset] [])
          refine Go.by (fun _ gk => XS.iload X9.here hx rfl (hb hby at_197) rfl gk) ?_
          show Go _ _ _ _ T9 (mkF m 199 #[.val (.int p0), .val (.int p1), .val (.int p2), .val (.int k), .val (.int li), .val (.int md), .val (.int lu), .val (.int lr), .val (.int ua), .val (.int ub), .val (.int rc), .val (.int rd), .val (.ref vv), .val (.int lu), .val (.int ua), .val (.int ub), .val (.ref us), .val (.ref rq), .unset, .unset, .unset] [(.int lu)])
          refine Go.by (fun _ gk => XT.iconstV X9.here hx rfl (1 : Int32) (hb hby at_199) (by decide) gk) ?_
          show Go _ _ _ _ T9 (mkF m 200 #[.val (.int p0), .val (.int p1), .val (.int p2), .val (.int k), .val (.int li), .val (.int md), .val (.int lu), .val (.int lr), .val (.int ua), .val (.int ub), .val (.int rc), .val (.int rd), .val (.ref vv), .val (.int lu), .val (.int ua), .val (.int ub), .val (.ref us), .val (.ref rq), .unset, .unset, .unset] [(.int (1 : Int32)), (.int lu)])
          by_cases hb44 : lu < (1 : Int32)
          · refine Go.by (fun _ gk => XS.icmpYes X9.here hx rfl (pc0 := 200) (pc' := 210) rfl (hb hby at_200) rfl (XT.ii_lt_t hb44) (by decide) (by decide) gk) ?_
            show Go _ _ _ _ T9 (mkF m 210 #[.val (.int p0), .val (.int p1), .val (.int p2), .val (.int k), .val (.int li), .val (.int md), .val (.int lu), .val (.int lr), .val (.int ua), .val (.int ub), .val (.int rc), .val (.int rd), .val (.ref vv), .val (.int lu), .val (.int ua), .val (.int ub), .val (.ref us), .val (.ref rq), .unset, .unset, .unset] [])
            refine Go.by (fun _ gk => XS.iload X9.here hx rfl (hb hby at_210) rfl gk) ?_
            show Go _ _ _ _ T9 (mkF m 212 #[.val (.int p0), .val (.int p1), .val (.int p2), .val (.int k), .val (.int li), .val (.int md), .val (.int lu), .val (.int lr), .val (.int ua), .val (.int ub), .val (.int rc), .val (.int rd), .val (.ref vv), .val (.int lu), .val (.int ua), .val (.int ub), .val (.ref us), .val (.ref rq), .unset, .unset, .unset] [(.int lu)])
            refine Go.by (fun _ gk => XT.iconstV X9.here hx rfl (2 : Int32) (hb hby at_212) (by decide) gk) ?_
            show Go _ _ _ _ T9 (mkF m 213 #[.val (.int p0), .val (.int p1), .val (.int p2), .val (.int k), .val (.int li), .val (.int md), .val (.int lu), .val (.int lr), .val (.int ua), .val (.int ub), .val (.int rc), .val (.int rd), .val (.ref vv), .val (.int lu), .val (.int ua), .val (.int ub), .val (.ref us), .val (.ref rq), .unset, .unset, .unset] [(.int (2 : Int32)), (.int lu)])
            by_cases hb45 : lu < (2 : Int32)
            · refine Go.by (fun _ gk => XS.icmpYes X9.here hx rfl (pc0 := 213) (pc' := 223) rfl (hb hby at_213) rfl (XT.ii_lt_t hb45) (by decide) (by decide) gk) ?_
              show Go _ _ _ _ T9 (mkF m 223 #[.val (.int p0), .val (.int p1), .val (.int p2), .val (.int k), .val (.int li), .val (.int md), .val (.int lu), .val (.int lr), .val (.int ua), .val (.int ub), .val (.int rc), .val (.int rd), .val (.ref vv), .val (.int lu), .val (.int ua), .val (.int ub), .val (.ref us), .val (.ref rq), .unset, .unset, .unset] [])
              refine Go.by (fun _ gk => XT.iconstV X9.here hx rfl (1 : Int32) (hb hby at_223) (by decide) gk) ?_
              show Go _ _ _ _ T9 (mkF m 224 #[.val (.int p0), .val (.int p1), .val (.int p2), .val (.int k), .val (.int li), .val (.int md), .val (.int lu), .val (.int lr), .val (.int ua), .val (.int ub), .val (.int rc), .val (.int rd), .val (.ref vv), .val (.int lu), .val (.int ua), .val (.int ub), .val (.ref us), .val (.ref rq), .unset, .unset, .unset] [(.int (1 : Int32))])
              refine Go.by (fun _ gk => XS.goto X9.here hx rfl (pc0 := 224) (pc' := 228) rfl (hb hby at_224) (by decide) (by decide) gk) ?_
              show Go _ _ _ _ T9 (mkF m 228 #[.val (.int p0), .val (.int p1), .val (.int p2), .val (.int k), .val (.int li), .val (.int md), .val (.int lu), .val (.int lr), .val (.int ua), .val (.int ub), .val (.int rc), .val (.int rd), .val (.ref vv), .val (.int lu), .val (.int ua), .val (.int ub), .val (.ref us), .val (.ref rq), .unset, .unset, .unset] [(.int (1 : Int32))])
              exact J11 _ (Or.inl ⟨rfl, by simp [own_same, true_and, hb44, hb45]⟩)
            · refine Go.by (fun _ gk => XS.icmpNo X9.here hx rfl (hb hby at_213) rfl (XT.ii_lt_f hb45) gk) ?_
              show Go _ _ _ _ T9 (mkF m 216 #[.val (.int p0), .val (.int p1), .val (.int p2), .val (.int k), .val (.int li), .val (.int md), .val (.int lu), .val (.int lr), .val (.int ua), .val (.int ub), .val (.int rc), .val (.int rd), .val (.ref vv), .val (.int lu), .val (.int ua), .val (.int ub), .val (.ref us), .val (.ref rq), .unset, .unset, .unset] [])
              refine Go.by (fun _ gk => XS.iload X9.here hx rfl (hb hby at_216) rfl gk) ?_
              show Go _ _ _ _ T9 (mkF m 218 #[.val (.int p0), .val (.int p1), .val (.int p2), .val (.int k), .val (.int li), .val (.int md), .val (.int lu), .val (.int lr), .val (.int ua), .val (.int ub), .val (.int rc), .val (.int rd), .val (.ref vv), .val (.int lu), .val (.int ua), .val (.int ub), .val (.ref us), .val (.ref rq), .unset, .unset, .unset] [(.int ub)])
              refine Go.by (fun _ gk => XS.iload X9.here hx rfl (hb hby at_218) rfl gk) ?_
              show Go _ _ _ _ T9 (mkF m 220 #[.val (.int p0), .val (.int p1), .val (.int p2), .val (.int k), .val (.int li), .val (.int md), .val (.int lu), .val (.int lr), .val (.int ua), .val (.int ub), .val (.int rc), .val (.int rd), .val (.ref vv), .val (.int lu), .val (.int ua), .val (.int ub), .val (.ref us), .val (.ref rq), .unset, .unset, .unset] [(.int ub), (.int ub)])
              refine Go.by (fun _ gk => XS.icmpNo X9.here hx rfl (hb hby at_220) rfl (XT.ii_ne_f rfl) gk) ?_
              show Go _ _ _ _ T9 (mkF m 223 #[.val (.int p0), .val (.int p1), .val (.int p2), .val (.int k), .val (.int li), .val (.int md), .val (.int lu), .val (.int lr), .val (.int ua), .val (.int ub), .val (.int rc), .val (.int rd), .val (.ref vv), .val (.int lu), .val (.int ua), .val (.int ub), .val (.ref us), .val (.ref rq), .unset, .unset, .unset] [])
              refine Go.by (fun _ gk => XT.iconstV X9.here hx rfl (1 : Int32) (hb hby at_223) (by decide) gk) ?_
              show Go _ _ _ _ T9 (mkF m 224 #[.val (.int p0), .val (.int p1), .val (.int p2), .val (.int k), .val (.int li), .val (.int md), .val (.int lu), .val (.int lr), .val (.int ua), .val (.int ub), .val (.int rc), .val (.int rd), .val (.ref vv), .val (.int lu), .val (.int ua), .val (.int ub), .val (.ref us), .val (.ref rq), .unset, .unset, .unset] [(.int (1 : Int32))])
              refine Go.by (fun _ gk => XS.goto X9.here hx rfl (pc0 := 224) (pc' := 228) rfl (hb hby at_224) (by decide) (by decide) gk) ?_
              show Go _ _ _ _ T9 (mkF m 228 #[.val (.int p0), .val (.int p1), .val (.int p2), .val (.int k), .val (.int li), .val (.int md), .val (.int lu), .val (.int lr), .val (.int ua), .val (.int ub), .val (.int rc), .val (.int rd), .val (.ref vv), .val (.int lu), .val (.int ua), .val (.int ub), .val (.ref us), .val (.ref rq), .unset, .unset, .unset] [(.int (1 : Int32))])
              exact J11 _ (Or.inl ⟨rfl, by simp [own_same, true_and, hb44, hb45, true_and]⟩)
          · refine Go.by (fun _ gk => XS.icmpNo X9.here hx rfl (hb hby at_200) rfl (XT.ii_lt_f hb44) gk) ?_
            show Go _ _ _ _ T9 (mkF m 203 #[.val (.int p0), .val (.int p1), .val (.int p2), .val (.int k), .val (.int li), .val (.int md), .val (.int lu), .val (.int lr), .val (.int ua), .val (.int ub), .val (.int rc), .val (.int rd), .val (.ref vv), .val (.int lu), .val (.int ua), .val (.int ub), .val (.ref us), .val (.ref rq), .unset, .unset, .unset] [])
            refine Go.by (fun _ gk => XS.iload X9.here hx rfl (hb hby at_203) rfl gk) ?_
            show Go _ _ _ _ T9 (mkF m 205 #[.val (.int p0), .val (.int p1), .val (.int p2), .val (.int k), .val (.int li), .val (.int md), .val (.int lu), .val (.int lr), .val (.int ua), .val (.int ub), .val (.int rc), .val (.int rd), .val (.ref vv), .val (.int lu), .val (.int ua), .val (.int ub), .val (.ref us), .val (.ref rq), .unset, .unset, .unset] [(.int ua)])
            refine Go.by (fun _ gk => XS.iload X9.here hx rfl (hb hby at_205) rfl gk) ?_
            show Go _ _ _ _ T9 (mkF m 207 #[.val (.int p0), .val (.int p1), .val (.int p2), .val (.int k), .val (.int li), .val (.int md), .val (.int lu), .val (.int lr), .val (.int ua), .val (.int ub), .val (.int rc), .val (.int rd), .val (.ref vv), .val (.int lu), .val (.int ua), .val (.int ub), .val (.ref us), .val (.ref rq), .unset, .unset, .unset] [(.int ua), (.int ua)])
            refine Go.by (fun _ gk => XS.icmpNo X9.here hx rfl (hb hby at_207) rfl (XT.ii_ne_f rfl) gk) ?_
            show Go _ _ _ _ T9 (mkF m 210 #[.val (.int p0), .val (.int p1), .val (.int p2), .val (.int k), .val (.int li), .val (.int md), .val (.int lu), .val (.int lr), .val (.int ua), .val (.int ub), .val (.int rc), .val (.int rd), .val (.ref vv), .val (.int lu), .val (.int ua), .val (.int ub), .val (.ref us), .val (.ref rq), .unset, .unset, .unset] [])
            refine Go.by (fun _ gk => XS.iload X9.here hx rfl (hb hby at_210) rfl gk) ?_
            show Go _ _ _ _ T9 (mkF m 212 #[.val (.int p0), .val (.int p1), .val (.int p2), .val (.int k), .val (.int li), .val (.int md), .val (.int lu), .val (.int lr), .val (.int ua), .val (.int ub), .val (.int rc), .val (.int rd), .val (.ref vv), .val (.int lu), .val (.int ua), .val (.int ub), .val (.ref us), .val (.ref rq), .unset, .unset, .unset] [(.int lu)])
            refine Go.by (fun _ gk => XT.iconstV X9.here hx rfl (2 : Int32) (hb hby at_212) (by decide) gk) ?_
            show Go _ _ _ _ T9 (mkF m 213 #[.val (.int p0), .val (.int p1), .val (.int p2), .val (.int k), .val (.int li), .val (.int md), .val (.int lu), .val (.int lr), .val (.int ua), .val (.int ub), .val (.int rc), .val (.int rd), .val (.ref vv), .val (.int lu), .val (.int ua), .val (.int ub), .val (.ref us), .val (.ref rq), .unset, .unset, .unset] [(.int (2 : Int32)), (.int lu)])
            by_cases hb46 : lu < (2 : Int32)
            · refine Go.by (fun _ gk => XS.icmpYes X9.here hx rfl (pc0 := 213) (pc' := 223) rfl (hb hby at_213) rfl (XT.ii_lt_t hb46) (by decide) (by decide) gk) ?_
              show Go _ _ _ _ T9 (mkF m 223 #[.val (.int p0), .val (.int p1), .val (.int p2), .val (.int k), .val (.int li), .val (.int md), .val (.int lu), .val (.int lr), .val (.int ua), .val (.int ub), .val (.int rc), .val (.int rd), .val (.ref vv), .val (.int lu), .val (.int ua), .val (.int ub), .val (.ref us), .val (.ref rq), .unset, .unset, .unset] [])
              refine Go.by (fun _ gk => XT.iconstV X9.here hx rfl (1 : Int32) (hb hby at_223) (by decide) gk) ?_
              show Go _ _ _ _ T9 (mkF m 224 #[.val (.int p0), .val (.int p1), .val (.int p2), .val (.int k), .val (.int li), .val (.int md), .val (.int lu), .val (.int lr), .val (.int ua), .val (.int ub), .val (.int rc), .val (.int rd), .val (.ref vv), .val (.int lu), .val (.int ua), .val (.int ub), .val (.ref us), .val (.ref rq), .unset, .unset, .unset] [(.int (1 : Int32))])
              refine Go.by (fun _ gk => XS.goto X9.here hx rfl (pc0 := 224) (pc' := 228) rfl (hb hby at_224) (by decide) (by decide) gk) ?_
              show Go _ _ _ _ T9 (mkF m 228 #[.val (.int p0), .val (.int p1), .val (.int p2), .val (.int k), .val (.int li), .val (.int md), .val (.int lu), .val (.int lr), .val (.int ua), .val (.int ub), .val (.int rc), .val (.int rd), .val (.ref vv), .val (.int lu), .val (.int ua), .val (.int ub), .val (.ref us), .val (.ref rq), .unset, .unset, .unset] [(.int (1 : Int32))])
              exact J11 _ (Or.inl ⟨rfl, by simp [own_same, true_and, hb44, true_and, hb46]⟩)
            · refine Go.by (fun _ gk => XS.icmpNo X9.here hx rfl (hb hby at_213) rfl (XT.ii_lt_f hb46) gk) ?_
              show Go _ _ _ _ T9 (mkF m 216 #[.val (.int p0), .val (.int p1), .val (.int p2), .val (.int k), .val (.int li), .val (.int md), .val (.int lu), .val (.int lr), .val (.int ua), .val (.int ub), .val (.int rc), .val (.int rd), .val (.ref vv), .val (.int lu), .val (.int ua), .val (.int ub), .val (.ref us), .val (.ref rq), .unset, .unset, .unset] [])
              refine Go.by (fun _ gk => XS.iload X9.here hx rfl (hb hby at_216) rfl gk) ?_
              show Go _ _ _ _ T9 (mkF m 218 #[.val (.int p0), .val (.int p1), .val (.int p2), .val (.int k), .val (.int li), .val (.int md), .val (.int lu), .val (.int lr), .val (.int ua), .val (.int ub), .val (.int rc), .val (.int rd), .val (.ref vv), .val (.int lu), .val (.int ua), .val (.int ub), .val (.ref us), .val (.ref rq), .unset, .unset, .unset] [(.int ub)])
              refine Go.by (fun _ gk => XS.iload X9.here hx rfl (hb hby at_218) rfl gk) ?_
              show Go _ _ _ _ T9 (mkF m 220 #[.val (.int p0), .val (.int p1), .val (.int p2), .val (.int k), .val (.int li), .val (.int md), .val (.int lu), .val (.int lr), .val (.int ua), .val (.int ub), .val (.int rc), .val (.int rd), .val (.ref vv), .val (.int lu), .val (.int ua), .val (.int ub), .val (.ref us), .val (.ref rq), .unset, .unset, .unset] [(.int ub), (.int ub)])
              refine Go.by (fun _ gk => XS.icmpNo X9.here hx rfl (hb hby at_220) rfl (XT.ii_ne_f rfl) gk) ?_
              show Go _ _ _ _ T9 (mkF m 223 #[.val (.int p0), .val (.int p1), .val (.int p2), .val (.int k), .val (.int li), .val (.int md), .val (.int lu), .val (.int lr), .val (.int ua), .val (.int ub), .val (.int rc), .val (.int rd), .val (.ref vv), .val (.int lu), .val (.int ua), .val (.int ub), .val (.ref us), .val (.ref rq), .unset, .unset, .unset] [])
              refine Go.by (fun _ gk => XT.iconstV X9.here hx rfl (1 : Int32) (hb hby at_223) (by decide) gk) ?_
              show Go _ _ _ _ T9 (mkF m 224 #[.val (.int p0), .val (.int p1), .val (.int p2), .val (.int k), .val (.int li), .val (.int md), .val (.int lu), .val (.int lr), .val (.int ua), .val (.int ub), .val (.int rc), .val (.int rd), .val (.ref vv), .val (.int lu), .val (.int ua), .val (.int ub), .val (.ref us), .val (.ref rq), .unset, .unset, .unset] [(.int (1 : Int32))])
              refine Go.by (fun _ gk => XS.goto X9.here hx rfl (pc0 := 224) (pc' := 228) rfl (hb hby at_224) (by decide) (by decide) gk) ?_
              show Go _ _ _ _ T9 (mkF m 228 #[.val (.int p0), .val (.int p1), .val (.int p2), .val (.int k), .val (.int li), .val (.int md), .val (.int lu), .val (.int lr), .val (.int ua), .val (.int ub), .val (.int rc), .val (.int rd), .val (.ref vv), .val (.int lu), .val (.int ua), .val (.int ub), .val (.ref us), .val (.ref rq), .unset, .unset, .unset] [(.int (1 : Int32))])
              exact J11 _ (Or.inl ⟨rfl, by simp [own_same, true_and, hb44, true_and, hb46, true_and]⟩)
      · refine Go.by (fun _ gk => XS.icmpYes X2.here hx rfl (pc0 := 118) (pc' := 126) rfl (hb hby at_118) rfl (XT.ii_ne_t hb3) (by decide) (by decide) gk) ?_
        show Go _ _ _ _ T2 (mkF m 126 #[.val (.int p0), .val (.int p1), .val (.int p2), .val (.int k), .val (.int li), .val (.int md), .val (.int lu), .val (.int lr), .val (.int ua), .val (.int ub), .val (.int rc), .val (.int rd), .val (.ref vv), .unset, .unset, .unset, .unset, .unset, .unset, .unset, .unset] [])
        refine Go.by (fun _ gk => XS.iload X2.here hx rfl (hb hby at_126) rfl gk) ?_
        show Go _ _ _ _ T2 (mkF m 128 #[.val (.int p0), .val (.int p1), .val (.int p2), .val (.int k), .val (.int li), .val (.int md), .val (.int lu), .val (.int lr), .val (.int ua), .val (.int ub), .val (.int rc), .val (.int rd), .val (.ref vv), .unset, .unset, .unset, .unset, .unset, .unset, .unset, .unset] [(.int lr)])
        refine Go.by (fun _ gk => XS.istore X2.here hx rfl (hb hby at_128) rfl (l' := #[.val (.int p0), .val (.int p1), .val (.int p2), .val (.int k), .val (.int li), .val (.int md), .val (.int lu), .val (.int lr), .val (.int ua), .val (.int ub), .val (.int rc), .val (.int rd), .val (.ref vv), .val (.int lr), .unset, .unset, .unset, .unset, .unset, .unset, .unset]) rfl gk) ?_
        show Go _ _ _ _ T2 (mkF m 130 #[.val (.int p0), .val (.int p1), .val (.int p2), .val (.int k), .val (.int li), .val (.int md), .val (.int lu), .val (.int lr), .val (.int ua), .val (.int ub), .val (.int rc), .val (.int rd), .val (.ref vv), .val (.int lr), .unset, .unset, .unset, .unset, .unset, .unset, .unset] [])
        refine Go.by (fun _ gk => XS.iload X2.here hx rfl (hb hby at_130) rfl gk) ?_
        show Go _ _ _ _ T2 (mkF m 132 #[.val (.int p0), .val (.int p1), .val (.int p2), .val (.int k), .val (.int li), .val (.int md), .val (.int lu), .val (.int lr), .val (.int ua), .val (.int ub), .val (.int rc), .val (.int rd), .val (.ref vv), .val (.int lr), .unset, .unset, .unset, .unset, .unset, .unset, .unset] [(.int md)])
        refine Go.by (fun _ gk => XT.iconstV X2.here hx rfl (1 : Int32) (hb hby at_132) (by decide) gk) ?_
        show Go _ _ _ _ T2 (mkF m 133 #[.val (.int p0), .val (.int p1), .val (.int p2), .val (.int k), .val (.int li), .val (.int md), .val (.int lu), .val (.int lr), .val (.int ua), .val (.int ub), .val (.int rc), .val (.int rd), .val (.ref vv), .val (.int lr), .unset, .unset, .unset, .unset, .unset, .unset, .unset] [(.int (1 : Int32)), (.int md)])
        refine Go.by (fun _ gk => XS.icmpYes X2.here hx rfl (pc0 := 133) (pc' := 141) rfl (hb hby at_133) rfl (XT.ii_ne_t hb3) (by decide) (by decide) gk) ?_
        show Go _ _ _ _ T2 (mkF m 141 #[.val (.int p0), .val (.int p1), .val (.int p2), .val (.int k), .val (.int li), .val (.int md), .val (.int lu), .val (.int lr), .val (.int ua), .val (.int ub), .val (.int rc), .val (.int rd), .val (.ref vv), .val (.int lr), .unset, .unset, .unset, .unset, .unset, .unset, .unset] [])
        refine Go.by (fun _ gk => XS.iload X2.here hx rfl (hb hby at_141) rfl gk) ?_
        show Go _ _ _ _ T2 (mkF m 143 #[.val (.int p0), .val (.int p1), .val (.int p2), .val (.int k), .val (.int li), .val (.int md), .val (.int lu), .val (.int lr), .val (.int ua), .val (.int ub), .val (.int rc), .val (.int rd), .val (.ref vv), .val (.int lr), .unset, .unset, .unset, .unset, .unset, .unset, .unset] [(.int rc)])
        refine Go.by (fun _ gk => XS.istore X2.here hx rfl (hb hby at_143) rfl (l' := #[.val (.int p0), .val (.int p1), .val (.int p2), .val (.int k), .val (.int li), .val (.int md), .val (.int lu), .val (.int lr), .val (.int ua), .val (.int ub), .val (.int rc), .val (.int rd), .val (.ref vv), .val (.int lr), .val (.int rc), .unset, .unset, .unset, .unset, .unset, .unset]) rfl gk) ?_
        show Go _ _ _ _ T2 (mkF m 145 #[.val (.int p0), .val (.int p1), .val (.int p2), .val (.int k), .val (.int li), .val (.int md), .val (.int lu), .val (.int lr), .val (.int ua), .val (.int ub), .val (.int rc), .val (.int rd), .val (.ref vv), .val (.int lr), .val (.int rc), .unset, .unset, .unset, .unset, .unset, .unset] [])
        refine Go.by (fun _ gk => XS.iload X2.here hx rfl (hb hby at_145) rfl gk) ?_
        show Go _ _ _ _ T2 (mkF m 147 #[.val (.int p0), .val (.int p1), .val (.int p2), .val (.int k), .val (.int li), .val (.int md), .val (.int lu), .val (.int lr), .val (.int ua), .val (.int ub), .val (.int rc), .val (.int rd), .val (.ref vv), .val (.int lr), .val (.int rc), .unset, .unset, .unset, .unset, .unset, .unset] [(.int md)])
        refine Go.by (fun _ gk => XT.iconstV X2.here hx rfl (1 : Int32) (hb hby at_147) (by decide) gk) ?_
        show Go _ _ _ _ T2 (mkF m 148 #[.val (.int p0), .val (.int p1), .val (.int p2), .val (.int k), .val (.int li), .val (.int md), .val (.int lu), .val (.int lr), .val (.int ua), .val (.int ub), .val (.int rc), .val (.int rd), .val (.ref vv), .val (.int lr), .val (.int rc), .unset, .unset, .unset, .unset, .unset, .unset] [(.int (1 : Int32)), (.int md)])
        refine Go.by (fun _ gk => XS.icmpYes X2.here hx rfl (pc0 := 148) (pc' := 156) rfl (hb hby at_148) rfl (XT.ii_ne_t hb3) (by decide) (by decide) gk) ?_
        show Go _ _ _ _ T2 (mkF m 156 #[.val (.int p0), .val (.int p1), .val (.int p2), .val (.int k), .val (.int li), .val (.int md), .val (.int lu), .val (.int lr), .val (.int ua), .val (.int ub), .val (.int rc), .val (.int rd), .val (.ref vv), .val (.int lr), .val (.int rc), .unset, .unset, .unset, .unset, .unset, .unset] [])
        refine Go.by (fun _ gk => XS.iload X2.here hx rfl (hb hby at_156) rfl gk) ?_
        show Go _ _ _ _ T2 (mkF m 158 #[.val (.int p0), .val (.int p1), .val (.int p2), .val (.int k), .val (.int li), .val (.int md), .val (.int lu), .val (.int lr), .val (.int ua), .val (.int ub), .val (.int rc), .val (.int rd), .val (.ref vv), .val (.int lr), .val (.int rc), .unset, .unset, .unset, .unset, .unset, .unset] [(.int rd)])
        refine Go.by (fun _ gk => XS.istore X2.here hx rfl (hb hby at_158) rfl (l' := #[.val (.int p0), .val (.int p1), .val (.int p2), .val (.int k), .val (.int li), .val (.int md), .val (.int lu), .val (.int lr), .val (.int ua), .val (.int ub), .val (.int rc), .val (.int rd), .val (.ref vv), .val (.int lr), .val (.int rc), .val (.int rd), .unset, .unset, .unset, .unset, .unset]) rfl gk) ?_
        show Go _ _ _ _ T2 (mkF m 160 #[.val (.int p0), .val (.int p1), .val (.int p2), .val (.int k), .val (.int li), .val (.int md), .val (.int lu), .val (.int lr), .val (.int ua), .val (.int ub), .val (.int rc), .val (.int rd), .val (.ref vv), .val (.int lr), .val (.int rc), .val (.int rd), .unset, .unset, .unset, .unset, .unset] [])
        refine Go.by (fun _ gk => XS.iload X2.here hx rfl (hb hby at_160) rfl gk) ?_
        show Go _ _ _ _ T2 (mkF m 162 #[.val (.int p0), .val (.int p1), .val (.int p2), .val (.int k), .val (.int li), .val (.int md), .val (.int lu), .val (.int lr), .val (.int ua), .val (.int ub), .val (.int rc), .val (.int rd), .val (.ref vv), .val (.int lr), .val (.int rc), .val (.int rd), .unset, .unset, .unset, .unset, .unset] [(.int lu)])
        refine Go.by (fun _ gk => XS.iload X2.here hx rfl (hb hby at_162) rfl gk) ?_
        show Go _ _ _ _ T2 (mkF m 164 #[.val (.int p0), .val (.int p1), .val (.int p2), .val (.int k), .val (.int li), .val (.int md), .val (.int lu), .val (.int lr), .val (.int ua), .val (.int ub), .val (.int rc), .val (.int rd), .val (.ref vv), .val (.int lr), .val (.int rc), .val (.int rd), .unset, .unset, .unset, .unset, .unset] [(.int ua), (.int lu)])
        refine Go.by (fun _ gk => XS.iload X2.here hx rfl (hb hby at_164) rfl gk) ?_
        show Go _ _ _ _ T2 (mkF m 166 #[.val (.int p0), .val (.int p1), .val (.int p2), .val (.int k), .val (.int li), .val (.int md), .val (.int lu), .val (.int lr), .val (.int ua), .val (.int ub), .val (.int rc), .val (.int rd), .val (.ref vv), .val (.int lr), .val (.int rc), .val (.int rd), .unset, .unset, .unset, .unset, .unset] [(.int ub), (.int ua), (.int lu)])
        by_cases hmd : md = 0
        · obtain ⟨_, _, ⟨T47, L47, k47, n47⟩, -, Xq47, hSq47, hgr47, ⟨Lc47, hQ47, l47, y47, z47, CH47⟩, st47⟩ := callSS X2 hx (y := (⟨"com/example/muster/muster/model/VisibilityShowsPinLaw", "str", "(ICC)Ljava/lang/String;"⟩ : MethodName)) hown (mvT hZ (hw _ (List.mem_of_getElem? (i := 3) rfl))) (mvT hZ (hw _ (List.mem_of_getElem? (i := 4) rfl))) (mvT hZ (hw _ (List.mem_of_getElem? (i := 5) rfl))) (mvT hZ (hw _ (List.mem_of_getElem? (i := 6) rfl))) (by decide) (backOfSH (W := 0) (rmStr l Z a0 hw [] lu ua ub cs h0 n0 Z0 O0 hlu q_ua.2 q_ub.2 S_cs n_cs) hZ (hw _ (List.mem_of_getElem? (i := 6) rfl)) (hw _ (List.mem_of_getElem? (i := 5) rfl)) (by decide) (by decide) hEL C0.1) (g := (mkF m 166 #[.val (.int p0), .val (.int p1), .val (.int p2), .val (.int k), .val (.int li), .val (.int md), .val (.int lu), .val (.int lr), .val (.int ua), .val (.int ub), .val (.int rc), .val (.int rd), .val (.ref vv), .val (.int lr), .val (.int rc), .val (.int rd), .unset, .unset, .unset, .unset, .unset] [(.int ub), (.int ua), (.int lu)])) rfl (by rw [hml]; rfl) (argsL := [(.int lu), (.int ua), (.int ub)]) (rest := []) (lenOf pd_212 rfl) rfl (by show 2 * 0 + _ ≤ _; exact Nat.le_of_eq rfl) (hb hby at_166) (fun _ _ => ⟨rfl, e2, (by decide : 0 + 6 ≤ _), (by decide : 0 + 12 ≤ _)⟩)
          dsimp only [Pt.U, Pt.locs, Pt.cells, Pt.slots] at Xq47 hSq47 hgr47 l47 y47 z47 st47 hQ47 CH47
          subst l47 y47 z47
          obtain ⟨us, usb, kus, rfl, N47q, K47, Q47_0, Q47_1, Q47_2, Q47_3, Q47_4⟩ := hQ47
          have N47 := Fr.app N0 N47q
          obtain ⟨X47, hS47, hZ47, hown47⟩ := rebS hS0 (by rw [e2]; exact hk0) Xq47 hSq47 hgr47 hZ hown
          have C48 : CHr Z own_EL s.vm h0 T47.vm T47.heap := C0.trans CH47
          refine Go.to st47 ?_
          show Go _ _ _ _ T47 (mkF m 169 #[.val (.int p0), .val (.int p1), .val (.int p2), .val (.int k), .val (.int li), .val (.int md), .val (.int lu), .val (.int lr), .val (.int ua), .val (.int ub), .val (.int rc), .val (.int rd), .val (.ref vv), .val (.int lr), .val (.int rc), .val (.int rd), .unset, .unset, .unset, .unset, .unset] [(.ref us)])
          have ge_us : n0 ≤ us := Nat.le_trans Z0 Q47_4
          have sz_us : h0.size ≤ us := Nat.le_trans (Keep.refl h0 []).1 Q47_4
          refine Go.by (fun _ gk => XS.astore X47.here hx rfl (hb hby at_169) rfl rfl (l' := #[.val (.int p0), .val (.int p1), .val (.int p2), .val (.int k), .val (.int li), .val (.int md), .val (.int lu), .val (.int lr), .val (.int ua), .val (.int ub), .val (.int rc), .val (.int rd), .val (.ref vv), .val (.int lr), .val (.int rc), .val (.int rd), .val (.ref us), .unset, .unset, .unset, .unset]) rfl gk) ?_
          show Go _ _ _ _ T47 (mkF m 171 #[.val (.int p0), .val (.int p1), .val (.int p2), .val (.int k), .val (.int li), .val (.int md), .val (.int lu), .val (.int lr), .val (.int ua), .val (.int ub), .val (.int rc), .val (.int rd), .val (.ref vv), .val (.int lr), .val (.int rc), .val (.int rd), .val (.ref us), .unset, .unset, .unset, .unset] [])
          refine Go.by (fun _ gk => XS.aconstNull X47.here hx rfl (hb hby at_171) gk) ?_
          show Go _ _ _ _ T47 (mkF m 172 #[.val (.int p0), .val (.int p1), .val (.int p2), .val (.int k), .val (.int li), .val (.int md), .val (.int lu), .val (.int lr), .val (.int ua), .val (.int ub), .val (.int rc), .val (.int rd), .val (.ref vv), .val (.int lr), .val (.int rc), .val (.int rd), .val (.ref us), .unset, .unset, .unset, .unset] [.null])
          refine Go.by (fun _ gk => XS.astore X47.here hx rfl (hb hby at_172) rfl rfl (l' := #[.val (.int p0), .val (.int p1), .val (.int p2), .val (.int k), .val (.int li), .val (.int md), .val (.int lu), .val (.int lr), .val (.int ua), .val (.int ub), .val (.int rc), .val (.int rd), .val (.ref vv), .val (.int lr), .val (.int rc), .val (.int rd), .val (.ref us), .val .null, .unset, .unset, .unset]) rfl gk) ?_
          show Go _ _ _ _ T47 (mkF m 174 #[.val (.int p0), .val (.int p1), .val (.int p2), .val (.int k), .val (.int li), .val (.int md), .val (.int lu), .val (.int lr), .val (.int ua), .val (.int ub), .val (.int rc), .val (.int rd), .val (.ref vv), .val (.int lr), .val (.int rc), .val (.int rd), .val (.ref us), .val .null, .unset, .unset, .unset] [])
          refine Go.by (fun _ gk => XS.iload X47.here hx rfl (hb hby at_174) rfl gk) ?_
          show Go _ _ _ _ T47 (mkF m 176 #[.val (.int p0), .val (.int p1), .val (.int p2), .val (.int k), .val (.int li), .val (.int md), .val (.int lu), .val (.int lr), .val (.int ua), .val (.int ub), .val (.int rc), .val (.int rd), .val (.ref vv), .val (.int lr), .val (.int rc), .val (.int rd), .val (.ref us), .val .null, .unset, .unset, .unset] [(.int md)])
          refine Go.by (fun _ gk => XS.ifYes X47.here hx rfl (pc0 := 176) (pc' := 190) rfl (hb hby at_176) rfl (XT.i0_eq_t hmd) (by decide) (by decide) gk) ?_
          show Go _ _ _ _ T47 (mkF m 190 #[.val (.int p0), .val (.int p1), .val (.int p2), .val (.int k), .val (.int li), .val (.int md), .val (.int lu), .val (.int lr), .val (.int ua), .val (.int ub), .val (.int rc), .val (.int rd), .val (.ref vv), .val (.int lr), .val (.int rc), .val (.int rd), .val (.ref us), .val .null, .unset, .unset, .unset] [])
          refine Go.by (fun _ gk => XS.iload X47.here hx rfl (hb hby at_190) rfl gk) ?_
          show Go _ _ _ _ T47 (mkF m 192 #[.val (.int p0), .val (.int p1), .val (.int p2), .val (.int k), .val (.int li), .val (.int md), .val (.int lu), .val (.int lr), .val (.int ua), .val (.int ub), .val (.int rc), .val (.int rd), .val (.ref vv), .val (.int lr), .val (.int rc), .val (.int rd), .val (.ref us), .val .null, .unset, .unset, .unset] [(.int lr)])
          refine Go.by (fun _ gk => XS.iload X47.here hx rfl (hb hby at_192) rfl gk) ?_
          show Go _ _ _ _ T47 (mkF m 194 #[.val (.int p0), .val (.int p1), .val (.int p2), .val (.int k), .val (.int li), .val (.int md), .val (.int lu), .val (.int lr), .val (.int ua), .val (.int ub), .val (.int rc), .val (.int rd), .val (.ref vv), .val (.int lr), .val (.int rc), .val (.int rd), .val (.ref us), .val .null, .unset, .unset, .unset] [(.int lu), (.int lr)])
          refine Go.join (α := Int32) (P := fun sm => True) (fr := fun sm => (mkF m 228 #[.val (.int p0), .val (.int p1), .val (.int p2), .val (.int k), .val (.int li), .val (.int md), .val (.int lu), .val (.int lr), .val (.int ua), .val (.int ub), .val (.int rc), .val (.int rd), .val (.ref vv), .val (.int lr), .val (.int rc), .val (.int rd), .val (.ref us), .val .null, .unset, .unset, .unset] [(.int sm)])) ?_ ?_
          · intro sm h_sm
            show Go _ _ _ _ T47 (mkF m 228 #[.val (.int p0), .val (.int p1), .val (.int p2), .val (.int k), .val (.int li), .val (.int md), .val (.int lu), .val (.int lr), .val (.int ua), .val (.int ub), .val (.int rc), .val (.int rd), .val (.ref vv), .val (.int lr), .val (.int rc), .val (.int rd), .val (.ref us), .val .null, .unset, .unset, .unset] [(.int sm)])
            refine Go.by (fun _ gk => XS.istore X47.here hx rfl (hb hby at_228) rfl (l' := #[.val (.int p0), .val (.int p1), .val (.int p2), .val (.int k), .val (.int li), .val (.int md), .val (.int lu), .val (.int lr), .val (.int ua), .val (.int ub), .val (.int rc), .val (.int rd), .val (.ref vv), .val (.int lr), .val (.int rc), .val (.int rd), .val (.ref us), .val .null, .val (.int sm), .unset, .unset]) rfl gk) ?_
            show Go _ _ _ _ T47 (mkF m 230 #[.val (.int p0), .val (.int p1), .val (.int p2), .val (.int k), .val (.int li), .val (.int md), .val (.int lu), .val (.int lr), .val (.int ua), .val (.int ub), .val (.int rc), .val (.int rd), .val (.ref vv), .val (.int lr), .val (.int rc), .val (.int rd), .val (.ref us), .val .null, .val (.int sm), .unset, .unset] [])
            refine Go.by (fun _ gk => XS.iload X47.here hx rfl (hb hby at_230) rfl gk) ?_
            show Go _ _ _ _ T47 (mkF m 232 #[.val (.int p0), .val (.int p1), .val (.int p2), .val (.int k), .val (.int li), .val (.int md), .val (.int lu), .val (.int lr), .val (.int ua), .val (.int ub), .val (.int rc), .val (.int rd), .val (.ref vv), .val (.int lr), .val (.int rc), .val (.int rd), .val (.ref us), .val .null, .val (.int sm), .unset, .unset] [(.int md)])
            refine Go.by (fun _ gk => XS.ifNo X47.here hx rfl (hb hby at_232) rfl (XT.i0_ne_f hmd) gk) ?_
            show Go _ _ _ _ T47 (mkF m 235 #[.val (.int p0), .val (.int p1), .val (.int p2), .val (.int k), .val (.int li), .val (.int md), .val (.int lu), .val (.int lr), .val (.int ua), .val (.int ub), .val (.int rc), .val (.int rd), .val (.ref vv), .val (.int lr), .val (.int rc), .val (.int rd), .val (.ref us), .val .null, .val (.int sm), .unset, .unset] [])
            refine Go.by (fun _ gk => XT.iconstV X47.here hx rfl (1 : Int32) (hb hby at_235) (by decide) gk) ?_
            show Go _ _ _ _ T47 (mkF m 236 #[.val (.int p0), .val (.int p1), .val (.int p2), .val (.int k), .val (.int li), .val (.int md), .val (.int lu), .val (.int lr), .val (.int ua), .val (.int ub), .val (.int rc), .val (.int rd), .val (.ref vv), .val (.int lr), .val (.int rc), .val (.int rd), .val (.ref us), .val .null, .val (.int sm), .unset, .unset] [(.int (1 : Int32))])
            refine Go.by (fun _ gk => XS.istore X47.here hx rfl (hb hby at_236) rfl (l' := #[.val (.int p0), .val (.int p1), .val (.int p2), .val (.int k), .val (.int li), .val (.int md), .val (.int lu), .val (.int lr), .val (.int ua), .val (.int ub), .val (.int rc), .val (.int rd), .val (.ref vv), .val (.int lr), .val (.int rc), .val (.int rd), .val (.ref us), .val .null, .val (.int sm), .val (.int (1 : Int32)), .unset]) rfl gk) ?_
            show Go _ _ _ _ T47 (mkF m 238 #[.val (.int p0), .val (.int p1), .val (.int p2), .val (.int k), .val (.int li), .val (.int md), .val (.int lu), .val (.int lr), .val (.int ua), .val (.int ub), .val (.int rc), .val (.int rd), .val (.ref vv), .val (.int lr), .val (.int rc), .val (.int rd), .val (.ref us), .val .null, .val (.int sm), .val (.int (1 : Int32)), .unset] [])
            refine Go.by (fun _ gk => XS.goto X47.here hx rfl (pc0 := 238) (pc' := 277) rfl (hb hby at_238) (by decide) (by decide) gk) ?_
            show Go _ _ _ _ T47 (mkF m 277 #[.val (.int p0), .val (.int p1), .val (.int p2), .val (.int k), .val (.int li), .val (.int md), .val (.int lu), .val (.int lr), .val (.int ua), .val (.int ub), .val (.int rc), .val (.int rd), .val (.ref vv), .val (.int lr), .val (.int rc), .val (.int rd), .val (.ref us), .val .null, .val (.int sm), .val (.int (1 : Int32)), .unset] [])
            refine Go.by (fun _ gk => XS.aload X47.here hx rfl (hb hby at_277) rfl rfl gk) ?_
            show Go _ _ _ _ T47 (mkF m 279 #[.val (.int p0), .val (.int p1), .val (.int p2), .val (.int k), .val (.int li), .val (.int md), .val (.int lu), .val (.int lr), .val (.int ua), .val (.int ub), .val (.int rc), .val (.int rd), .val (.ref vv), .val (.int lr), .val (.int rc), .val (.int rd), .val (.ref us), .val .null, .val (.int sm), .val (.int (1 : Int32)), .unset] [(.ref vv)])
            refine Go.by (fun _ gk => XS.aload X47.here hx rfl (hb hby at_279) rfl rfl gk) ?_
            show Go _ _ _ _ T47 (mkF m 281 #[.val (.int p0), .val (.int p1), .val (.int p2), .val (.int k), .val (.int li), .val (.int md), .val (.int lu), .val (.int lr), .val (.int ua), .val (.int ub), .val (.int rc), .val (.int rd), .val (.ref vv), .val (.int lr), .val (.int rc), .val (.int rd), .val (.ref us), .val .null, .val (.int sm), .val (.int (1 : Int32)), .unset] [(.ref us), (.ref vv)])
            refine Go.by (fun _ gk => XS.aload X47.here hx rfl (hb hby at_281) rfl rfl gk) ?_
            show Go _ _ _ _ T47 (mkF m 283 #[.val (.int p0), .val (.int p1), .val (.int p2), .val (.int k), .val (.int li), .val (.int md), .val (.int lu), .val (.int lr), .val (.int ua), .val (.int ub), .val (.int rc), .val (.int rd), .val (.ref vv), .val (.int lr), .val (.int rc), .val (.int rd), .val (.ref us), .val .null, .val (.int sm), .val (.int (1 : Int32)), .unset] [.null, (.ref us), (.ref vv)])
            refine Go.by (fun _ gk => XS.iload X47.here hx rfl (hb hby at_283) rfl gk) ?_
            show Go _ _ _ _ T47 (mkF m 285 #[.val (.int p0), .val (.int p1), .val (.int p2), .val (.int k), .val (.int li), .val (.int md), .val (.int lu), .val (.int lr), .val (.int ua), .val (.int ub), .val (.int rc), .val (.int rd), .val (.ref vv), .val (.int lr), .val (.int rc), .val (.int rd), .val (.ref us), .val .null, .val (.int sm), .val (.int (1 : Int32)), .unset] [(.int li), .null, (.ref us), (.ref vv)])
            have F50 : n0 ≤ T47.heap.size := Nat.le_trans Z0 K47.1
            have F52 : Old Z n0 T47.heap := O0.keep K47 all0
            have F53 : Exa Z T47.heap vv "com/example/muster/muster/model/Visibility" := E_vv.ext F52.2
            obtain ⟨cq51, kq51, q51a, q51b, q51c⟩ := isOf hZ47 rfl F53
            obtain ⟨_, _, ⟨T51, L51, k51, n51⟩, -, X51, ⟨Lc51, hQ51, l51, y51, z51⟩, st51⟩ := X47.virtualBack hx (y := (⟨"com/example/muster/muster/model/Visibility", "shows", "(Ljava/lang/String;Ljava/lang/String;Z)Z"⟩ : MethodName)) (z := (⟨"com/example/muster/muster/model/Visibility", "shows", "(Ljava/lang/String;Ljava/lang/String;Z)Z"⟩ : MethodName)) hown47 (mvT hZ47 (hw _ (List.mem_of_getElem? (i := 29) rfl))) (mvT hZ47 (hw _ (List.mem_of_getElem? (i := 30) rfl))) (notFace_of_selects (args := #[]) (mvT hZ47 (hw _ (List.mem_of_getElem? (i := 32) rfl)))) (mvT hZ47 (hw _ (List.mem_of_getElem? (i := 32) rfl))) (mvT hZ47 (hw _ (List.mem_of_getElem? (i := 31) rfl))) (by decide) (backOf (W := 0) (rmShowsN l Z a0 hw [] vv us li T47.heap n0 F50 ) hZ47 (hw _ (List.mem_of_getElem? (i := 33) rfl)) (hw _ (List.mem_of_getElem? (i := 1) rfl)) (by decide) (by decide)) q51a q51c (g := (mkF m 285 #[.val (.int p0), .val (.int p1), .val (.int p2), .val (.int k), .val (.int li), .val (.int md), .val (.int lu), .val (.int lr), .val (.int ua), .val (.int ub), .val (.int rc), .val (.int rd), .val (.ref vv), .val (.int lr), .val (.int rc), .val (.int rd), .val (.ref us), .val .null, .val (.int sm), .val (.int (1 : Int32)), .unset] [(.int li), .null, (.ref us), (.ref vv)])) rfl (by rw [hml]; rfl) (Steps.refl _) (argsL := [(.ref us), .null, (.int li)]) (rest := []) (lenOf pd_213 rfl) rfl (by show 2 * 0 + _ ≤ _; exact Nat.le_of_eq rfl) (hb hby at_285) (fun _ _ => ⟨rfl, rfl, (by decide : 6 + 0 ≤ _), (by decide : 12 + 0 ≤ _)⟩)
            dsimp only [Pt.U, Pt.locs, Pt.cells, Pt.slots] at X51 l51 y51 z51 st51 hQ51
            subst l51 y51 z51
            obtain ⟨rfl, N51q, e51⟩ := hQ51
            have N51 := Fr.app N47 N51q
            refine Go.to st51 ?_
            show Go _ _ _ _ T51 (mkF m 288 #[.val (.int p0), .val (.int p1), .val (.int p2), .val (.int k), .val (.int li), .val (.int md), .val (.int lu), .val (.int lr), .val (.int ua), .val (.int ub), .val (.int rc), .val (.int rd), .val (.ref vv), .val (.int lr), .val (.int rc), .val (.int rd), .val (.ref us), .val .null, .val (.int sm), .val (.int (1 : Int32)), .unset] [(.int (1 : Int32))])
            refine Go.by (fun _ gk => XS.istore X51.here hx rfl (hb hby at_288) rfl (l' := #[.val (.int p0), .val (.int p1), .val (.int p2), .val (.int k), .val (.int li), .val (.int md), .val (.int lu), .val (.int lr), .val (.int ua), .val (.int ub), .val (.int rc), .val (.int rd), .val (.ref vv), .val (.int lr), .val (.int rc), .val (.int rd), .val (.ref us), .val .null, .val (.int sm), .val (.int (1 : Int32)), .val (.int (1 : Int32))]) rfl gk) ?_
            show Go _ _ _ _ T51 (mkF m 290 #[.val (.int p0), .val (.int p1), .val (.int p2), .val (.int k), .val (.int li), .val (.int md), .val (.int lu), .val (.int lr), .val (.int ua), .val (.int ub), .val (.int rc), .val (.int rd), .val (.ref vv), .val (.int lr), .val (.int rc), .val (.int rd), .val (.ref us), .val .null, .val (.int sm), .val (.int (1 : Int32)), .val (.int (1 : Int32))] [])
            refine Go.by (fun _ gk => XS.iload X51.here hx rfl (hb hby at_290) rfl gk) ?_
            show Go _ _ _ _ T51 (mkF m 292 #[.val (.int p0), .val (.int p1), .val (.int p2), .val (.int k), .val (.int li), .val (.int md), .val (.int lu), .val (.int lr), .val (.int ua), .val (.int ub), .val (.int rc), .val (.int rd), .val (.ref vv), .val (.int lr), .val (.int rc), .val (.int rd), .val (.ref us), .val .null, .val (.int sm), .val (.int (1 : Int32)), .val (.int (1 : Int32))] [(.int (1 : Int32))])
            refine Go.by (fun _ gk => XS.iload X51.here hx rfl (hb hby at_292) rfl gk) ?_
            show Go _ _ _ _ T51 (mkF m 294 #[.val (.int p0), .val (.int p1), .val (.int p2), .val (.int k), .val (.int li), .val (.int md), .val (.int lu), .val (.int lr), .val (.int ua), .val (.int ub), .val (.int rc), .val (.int rd), .val (.ref vv), .val (.int lr), .val (.int rc), .val (.int rd), .val (.ref us), .val .null, .val (.int sm), .val (.int (1 : Int32)), .val (.int (1 : Int32))] [(.int (1 : Int32)), (.int (1 : Int32))])
            refine Go.by (fun _ gk => XS.icmpNo X51.here hx rfl (hb hby at_294) rfl (XT.ii_ne_f rfl) gk) ?_
            show Go _ _ _ _ T51 (mkF m 297 #[.val (.int p0), .val (.int p1), .val (.int p2), .val (.int k), .val (.int li), .val (.int md), .val (.int lu), .val (.int lr), .val (.int ua), .val (.int ub), .val (.int rc), .val (.int rd), .val (.ref vv), .val (.int lr), .val (.int rc), .val (.int rd), .val (.ref us), .val .null, .val (.int sm), .val (.int (1 : Int32)), .val (.int (1 : Int32))] [])
            refine Go.by (fun _ gk => XT.iconstV X51.here hx rfl (1 : Int32) (hb hby at_297) (by decide) gk) ?_
            show Go _ _ _ _ T51 (mkF m 298 #[.val (.int p0), .val (.int p1), .val (.int p2), .val (.int k), .val (.int li), .val (.int md), .val (.int lu), .val (.int lr), .val (.int ua), .val (.int ub), .val (.int rc), .val (.int rd), .val (.ref vv), .val (.int lr), .val (.int rc), .val (.int rd), .val (.ref us), .val .null, .val (.int sm), .val (.int (1 : Int32)), .val (.int (1 : Int32))] [(.int (1 : Int32))])
            refine Go.by (fun _ gk => XS.goto X51.here hx rfl (pc0 := 298) (pc' := 302) rfl (hb hby at_298) (by decide) (by decide) gk) ?_
            show Go _ _ _ _ T51 (mkF m 302 #[.val (.int p0), .val (.int p1), .val (.int p2), .val (.int k), .val (.int li), .val (.int md), .val (.int lu), .val (.int lr), .val (.int ua), .val (.int ub), .val (.int rc), .val (.int rd), .val (.ref vv), .val (.int lr), .val (.int rc), .val (.int rd), .val (.ref us), .val .null, .val (.int sm), .val (.int (1 : Int32)), .val (.int (1 : Int32))] [(.int (1 : Int32))])
            exact Go.retIW X51 hx Bd.notSynchronized hS47 (by rw [e51]; exact (Nat.le_refl T47.heap.size)) hZ47 hEL (by rw [hh, e51]; exact C48) Bd.returns rfl (by simp) (hb hby at_302) (by rw [e51]; exact ⟨rfl, N51⟩) (by decide) (by decide)
          · intro J49
            show Go _ _ _ _ T47 (mkF m 194 #[.val (.int p0), .val (.int p1), .val (.int p2), .val (.int k), .val (.int li), .val (.int md), .val (.int lu), .val (.int lr), .val (.int ua), .val (.int ub), .val (.int rc), .val (.int rd), .val (.ref vv), .val (.int lr), .val (.int rc), .val (.int rd), .val (.ref us), .val .null, .unset, .unset, .unset] [(.int lu), (.int lr)])
            by_cases hb54 : lr = lu
            · refine Go.by (fun _ gk => XS.icmpNo X47.here hx rfl (hb hby at_194) rfl (XT.ii_ne_f hb54) gk) ?_
              show Go _ _ _ _ T47 (mkF m 197 #[.val (.int p0), .val (.int p1), .val (.int p2), .val (.int k), .val (.int li), .val (.int md), .val (.int lu), .val (.int lr), .val (.int ua), .val (.int ub), .val (.int rc), .val (.int rd), .val (.ref vv), .val (.int lr), .val (.int rc), .val (.int rd), .val (.ref us), .val .null, .unset, .unset, .unset] [])
              refine Go.by (fun _ gk => XS.iload X47.here hx rfl (hb hby at_197) rfl gk) ?_
              show Go _ _ _ _ T47 (mkF m 199 #[.val (.int p0), .val (.int p1), .val (.int p2), .val (.int k), .val (.int li), .val (.int md), .val (.int lu), .val (.int lr), .val (.int ua), .val (.int ub), .val (.int rc), .val (.int rd), .val (.ref vv), .val (.int lr), .val (.int rc), .val (.int rd), .val (.ref us), .val .null, .unset, .unset, .unset] [(.int lu)])
              refine Go.by (fun _ gk => XT.iconstV X47.here hx rfl (1 : Int32) (hb hby at_199) (by decide) gk) ?_
              show Go _ _ _ _ T47 (mkF m 200 #[.val (.int p0), .val (.int p1), .val (.int p2), .val (.int k), .val (.int li), .val (.int md), .val (.int lu), .val (.int lr), .val (.int ua), .val (.int ub), .val (.int rc), .val (.int rd), .val (.ref vv), .val (.int lr), .val (.int rc), .val (.int rd), .val (.ref us), .val .null, .unset, .unset, .unset] [(.int (1 : Int32)), (.int lu)])
              by_cases hb55 : lu < (1 : Int32)
              · refine Go.by (fun _ gk => XS.icmpYes X47.here hx rfl (pc0 := 200) (pc' := 210) rfl (hb hby at_200) rfl (XT.ii_lt_t hb55) (by decide) (by decide) gk) ?_
                show Go _ _ _ _ T47 (mkF m 210 #[.val (.int p0), .val (.int p1), .val (.int p2), .val (.int k), .val (.int li), .val (.int md), .val (.int lu), .val (.int lr), .val (.int ua), .val (.int ub), .val (.int rc), .val (.int rd), .val (.ref vv), .val (.int lr), .val (.int rc), .val (.int rd), .val (.ref us), .val .null, .unset, .unset, .unset] [])
                refine Go.by (fun _ gk => XS.iload X47.here hx rfl (hb hby at_210) rfl gk) ?_
                show Go _ _ _ _ T47 (mkF m 212 #[.val (.int p0), .val (.int p1), .val (.int p2), .val (.int k), .val (.int li), .val (.int md), .val (.int lu), .val (.int lr), .val (.int ua), .val (.int ub), .val (.int rc), .val (.int rd), .val (.ref vv), .val (.int lr), .val (.int rc), .val (.int rd), .val (.ref us), .val .null, .unset, .unset, .unset] [(.int lu)])
                refine Go.by (fun _ gk => XT.iconstV X47.here hx rfl (2 : Int32) (hb hby at_212) (by decide) gk) ?_
                show Go _ _ _ _ T47 (mkF m 213 #[.val (.int p0), .val (.int p1), .val (.int p2), .val (.int k), .val (.int li), .val (.int md), .val (.int lu), .val (.int lr), .val (.int ua), .val (.int ub), .val (.int rc), .val (.int rd), .val (.ref vv), .val (.int lr), .val (.int rc), .val (.int rd), .val (.ref us), .val .null, .unset, .unset, .unset] [(.int (2 : Int32)), (.int lu)])
                by_cases hb56 : lu < (2 : Int32)
                · refine Go.by (fun _ gk => XS.icmpYes X47.here hx rfl (pc0 := 213) (pc' := 223) rfl (hb hby at_213) rfl (XT.ii_lt_t hb56) (by decide) (by decide) gk) ?_
                  show Go _ _ _ _ T47 (mkF m 223 #[.val (.int p0), .val (.int p1), .val (.int p2), .val (.int k), .val (.int li), .val (.int md), .val (.int lu), .val (.int lr), .val (.int ua), .val (.int ub), .val (.int rc), .val (.int rd), .val (.ref vv), .val (.int lr), .val (.int rc), .val (.int rd), .val (.ref us), .val .null, .unset, .unset, .unset] [])
                  refine Go.by (fun _ gk => XT.iconstV X47.here hx rfl (1 : Int32) (hb hby at_223) (by decide) gk) ?_
                  show Go _ _ _ _ T47 (mkF m 224 #[.val (.int p0), .val (.int p1), .val (.int p2), .val (.int k), .val (.int li), .val (.int md), .val (.int lu), .val (.int lr), .val (.int ua), .val (.int ub), .val (.int rc), .val (.int rd), .val (.ref vv), .val (.int lr), .val (.int rc), .val (.int rd), .val (.ref us), .val .null, .unset, .unset, .unset] [(.int (1 : Int32))])
                  refine Go.by (fun _ gk => XS.goto X47.here hx rfl (pc0 := 224) (pc' := 228) rfl (hb hby at_224) (by decide) (by decide) gk) ?_
                  show Go _ _ _ _ T47 (mkF m 228 #[.val (.int p0), .val (.int p1), .val (.int p2), .val (.int k), .val (.int li), .val (.int md), .val (.int lu), .val (.int lr), .val (.int ua), .val (.int ub), .val (.int rc), .val (.int rd), .val (.ref vv), .val (.int lr), .val (.int rc), .val (.int rd), .val (.ref us), .val .null, .unset, .unset, .unset] [(.int (1 : Int32))])
                  exact J49 _ trivial
                · refine Go.by (fun _ gk => XS.icmpNo X47.here hx rfl (hb hby at_213) rfl (XT.ii_lt_f hb56) gk) ?_
                  show Go _ _ _ _ T47 (mkF m 216 #[.val (.int p0), .val (.int p1), .val (.int p2), .val (.int k), .val (.int li), .val (.int md), .val (.int lu), .val (.int lr), .val (.int ua), .val (.int ub), .val (.int rc), .val (.int rd), .val (.ref vv), .val (.int lr), .val (.int rc), .val (.int rd), .val (.ref us), .val .null, .unset, .unset, .unset] [])
                  refine Go.by (fun _ gk => XS.iload X47.here hx rfl (hb hby at_216) rfl gk) ?_
                  show Go _ _ _ _ T47 (mkF m 218 #[.val (.int p0), .val (.int p1), .val (.int p2), .val (.int k), .val (.int li), .val (.int md), .val (.int lu), .val (.int lr), .val (.int ua), .val (.int ub), .val (.int rc), .val (.int rd), .val (.ref vv), .val (.int lr), .val (.int rc), .val (.int rd), .val (.ref us), .val .null, .unset, .unset, .unset] [(.int rd)])
                  refine Go.by (fun _ gk => XS.iload X47.here hx rfl (hb hby at_218) rfl gk) ?_
                  show Go _ _ _ _ T47 (mkF m 220 #[.val (.int p0), .val (.int p1), .val (.int p2), .val (.int k), .val (.int li), .val (.int md), .val (.int lu), .val (.int lr), .val (.int ua), .val (.int ub), .val (.int rc), .val (.int rd), .val (.ref vv), .val (.int lr), .val (.int rc), .val (.int rd), .val (.ref us), .val .null, .unset, .unset, .unset] [(.int ub), (.int rd)])
                  by_cases hb57 : rd = ub
                  · refine Go.by (fun _ gk => XS.icmpNo X47.here hx rfl (hb hby at_220) rfl (XT.ii_ne_f hb57) gk) ?_
                    show Go _ _ _ _ T47 (mkF m 223 #[.val (.int p0), .val (.int p1), .val (.int p2), .val (.int k), .val (.int li), .val (.int md), .val (.int lu), .val (.int lr), .val (.int ua), .val (.int ub), .val (.int rc), .val (.int rd), .val (.ref vv), .val (.int lr), .val (.int rc), .val (.int rd), .val (.ref us), .val .null, .unset, .unset, .unset] [])
                    refine Go.by (fun _ gk => XT.iconstV X47.here hx rfl (1 : Int32) (hb hby at_223) (by decide) gk) ?_
                    show Go _ _ _ _ T47 (mkF m 224 #[.val (.int p0), .val (.int p1), .val (.int p2), .val (.int k), .val (.int li), .val (.int md), .val (.int lu), .val (.int lr), .val (.int ua), .val (.int ub), .val (.int rc), .val (.int rd), .val (.ref vv), .val (.int lr), .val (.int rc), .val (.int rd), .val (.ref us), .val .null, .unset, .unset, .unset] [(.int (1 : Int32))])
                    refine Go.by (fun _ gk => XS.goto X47.here hx rfl (pc0 := 224) (pc' := 228) rfl (hb hby at_224) (by decide) (by decide) gk) ?_
                    show Go _ _ _ _ T47 (mkF m 228 #[.val (.int p0), .val (.int p1), .val (.int p2), .val (.int k), .val (.int li), .val (.int md), .val (.int lu), .val (.int lr), .val (.int ua), .val (.int ub), .val (.int rc), .val (.int rd), .val (.ref vv), .val (.int lr), .val (.int rc), .val (.int rd), .val (.ref us), .val .null, .unset, .unset, .unset] [(.int (1 : Int32))])
                    exact J49 _ trivial
                  · refine Go.by (fun _ gk => XS.icmpYes X47.here hx rfl (pc0 := 220) (pc' := 227) rfl (hb hby at_220) rfl (XT.ii_ne_t hb57) (by decide) (by decide) gk) ?_
                    show Go _ _ _ _ T47 (mkF m 227 #[.val (.int p0), .val (.int p1), .val (.int p2), .val (.int k), .val (.int li), .val (.int md), .val (.int lu), .val (.int lr), .val (.int ua), .val (.int ub), .val (.int rc), .val (.int rd), .val (.ref vv), .val (.int lr), .val (.int rc), .val (.int rd), .val (.ref us), .val .null, .unset, .unset, .unset] [])
                    refine Go.by (fun _ gk => XT.iconstV X47.here hx rfl (0 : Int32) (hb hby at_227) (by decide) gk) ?_
                    show Go _ _ _ _ T47 (mkF m 228 #[.val (.int p0), .val (.int p1), .val (.int p2), .val (.int k), .val (.int li), .val (.int md), .val (.int lu), .val (.int lr), .val (.int ua), .val (.int ub), .val (.int rc), .val (.int rd), .val (.ref vv), .val (.int lr), .val (.int rc), .val (.int rd), .val (.ref us), .val .null, .unset, .unset, .unset] [(.int (0 : Int32))])
                    exact J49 _ trivial
              · refine Go.by (fun _ gk => XS.icmpNo X47.here hx rfl (hb hby at_200) rfl (XT.ii_lt_f hb55) gk) ?_
                show Go _ _ _ _ T47 (mkF m 203 #[.val (.int p0), .val (.int p1), .val (.int p2), .val (.int k), .val (.int li), .val (.int md), .val (.int lu), .val (.int lr), .val (.int ua), .val (.int ub), .val (.int rc), .val (.int rd), .val (.ref vv), .val (.int lr), .val (.int rc), .val (.int rd), .val (.ref us), .val .null, .unset, .unset, .unset] [])
                refine Go.by (fun _ gk => XS.iload X47.here hx rfl (hb hby at_203) rfl gk) ?_
                show Go _ _ _ _ T47 (mkF m 205 #[.val (.int p0), .val (.int p1), .val (.int p2), .val (.int k), .val (.int li), .val (.int md), .val (.int lu), .val (.int lr), .val (.int ua), .val (.int ub), .val (.int rc), .val (.int rd), .val (.ref vv), .val (.int lr), .val (.int rc), .val (.int rd), .val (.ref us), .val .null, .unset, .unset, .unset] [(.int rc)])
                refine Go.by (fun _ gk => XS.iload X47.here hx rfl (hb hby at_205) rfl gk) ?_
                show Go _ _ _ _ T47 (mkF m 207 #[.val (.int p0), .val (.int p1), .val (.int p2), .val (.int k), .val (.int li), .val (.int md), .val (.int lu), .val (.int lr), .val (.int ua), .val (.int ub), .val (.int rc), .val (.int rd), .val (.ref vv), .val (.int lr), .val (.int rc), .val (.int rd), .val (.ref us), .val .null, .unset, .unset, .unset] [(.int ua), (.int rc)])
                by_cases hb58 : rc = ua
                · refine Go.by (fun _ gk => XS.icmpNo X47.here hx rfl (hb hby at_207) rfl (XT.ii_ne_f hb58) gk) ?_
                  show Go _ _ _ _ T47 (mkF m 210 #[.val (.int p0), .val (.int p1), .val (.int p2), .val (.int k), .val (.int li), .val (.int md), .val (.int lu), .val (.int lr), .val (.int ua), .val (.int ub), .val (.int rc), .val (.int rd), .val (.ref vv), .val (.int lr), .val (.int rc), .val (.int rd), .val (.ref us), .val .null, .unset, .unset, .unset] [])
                  refine Go.by (fun _ gk => XS.iload X47.here hx rfl (hb hby at_210) rfl gk) ?_
                  show Go _ _ _ _ T47 (mkF m 212 #[.val (.int p0), .val (.int p1), .val (.int p2), .val (.int k), .val (.int li), .val (.int md), .val (.int lu), .val (.int lr), .val (.int ua), .val (.int ub), .val (.int rc), .val (.int rd), .val (.ref vv), .val (.int lr), .val (.int rc), .val (.int rd), .val (.ref us), .val .null, .unset, .unset, .unset] [(.int lu)])
                  refine Go.by (fun _ gk => XT.iconstV X47.here hx rfl (2 : Int32) (hb hby at_212) (by decide) gk) ?_
                  show Go _ _ _ _ T47 (mkF m 213 #[.val (.int p0), .val (.int p1), .val (.int p2), .val (.int k), .val (.int li), .val (.int md), .val (.int lu), .val (.int lr), .val (.int ua), .val (.int ub), .val (.int rc), .val (.int rd), .val (.ref vv), .val (.int lr), .val (.int rc), .val (.int rd), .val (.ref us), .val .null, .unset, .unset, .unset] [(.int (2 : Int32)), (.int lu)])
                  by_cases hb59 : lu < (2 : Int32)
                  · refine Go.by (fun _ gk => XS.icmpYes X47.here hx rfl (pc0 := 213) (pc' := 223) rfl (hb hby at_213) rfl (XT.ii_lt_t hb59) (by decide) (by decide) gk) ?_
                    show Go _ _ _ _ T47 (mkF m 223 #[.val (.int p0), .val (.int p1), .val (.int p2), .val (.int k), .val (.int li), .val (.int md), .val (.int lu), .val (.int lr), .val (.int ua), .val (.int ub), .val (.int rc), .val (.int rd), .val (.ref vv), .val (.int lr), .val (.int rc), .val (.int rd), .val (.ref us), .val .null, .unset, .unset, .unset] [])
                    refine Go.by (fun _ gk => XT.iconstV X47.here hx rfl (1 : Int32) (hb hby at_223) (by decide) gk) ?_
                    show Go _ _ _ _ T47 (mkF m 224 #[.val (.int p0), .val (.int p1), .val (.int p2), .val (.int k), .val (.int li), .val (.int md), .val (.int lu), .val (.int lr), .val (.int ua), .val (.int ub), .val (.int rc), .val (.int rd), .val (.ref vv), .val (.int lr), .val (.int rc), .val (.int rd), .val (.ref us), .val .null, .unset, .unset, .unset] [(.int (1 : Int32))])
                    refine Go.by (fun _ gk => XS.goto X47.here hx rfl (pc0 := 224) (pc' := 228) rfl (hb hby at_224) (by decide) (by decide) gk) ?_
                    show Go _ _ _ _ T47 (mkF m 228 #[.val (.int p0), .val (.int p1), .val (.int p2), .val (.int k), .val (.int li), .val (.int md), .val (.int lu), .val (.int lr), .val (.int ua), .val (.int ub), .val (.int rc), .val (.int rd), .val (.ref vv), .val (.int lr), .val (.int rc), .val (.int rd), .val (.ref us), .val .null, .unset, .unset, .unset] [(.int (1 : Int32))])
                    exact J49 _ trivial
                  · refine Go.by (fun _ gk => XS.icmpNo X47.here hx rfl (hb hby at_213) rfl (XT.ii_lt_f hb59) gk) ?_
                    show Go _ _ _ _ T47 (mkF m 216 #[.val (.int p0), .val (.int p1), .val (.int p2), .val (.int k), .val (.int li), .val (.int md), .val (.int lu), .val (.int lr), .val (.int ua), .val (.int ub), .val (.int rc), .val (.int rd), .val (.ref vv), .val (.int lr), .val (.int rc), .val (.int rd), .val (.ref us), .val .null, .unset, .unset, .unset] [])
                    refine Go.by (fun _ gk => XS.iload X47.here hx rfl (hb hby at_216) rfl gk) ?_
                    show Go _ _ _ _ T47 (mkF m 218 #[.val (.int p0), .val (.int p1), .val (.int p2), .val (.int k), .val (.int li), .val (.int md), .val (.int lu), .val (.int lr), .val (.int ua), .val (.int ub), .val (.int rc), .val (.int rd), .val (.ref vv), .val (.int lr), .val (.int rc), .val (.int rd), .val (.ref us), .val .null, .unset, .unset, .unset] [(.int rd)])
                    refine Go.by (fun _ gk => XS.iload X47.here hx rfl (hb hby at_218) rfl gk) ?_
                    show Go _ _ _ _ T47 (mkF m 220 #[.val (.int p0), .val (.int p1), .val (.int p2), .val (.int k), .val (.int li), .val (.int md), .val (.int lu), .val (.int lr), .val (.int ua), .val (.int ub), .val (.int rc), .val (.int rd), .val (.ref vv), .val (.int lr), .val (.int rc), .val (.int rd), .val (.ref us), .val .null, .unset, .unset, .unset] [(.int ub), (.int rd)])
                    by_cases hb60 : rd = ub
                    · refine Go.by (fun _ gk => XS.icmpNo X47.here hx rfl (hb hby at_220) rfl (XT.ii_ne_f hb60) gk) ?_
                      show Go _ _ _ _ T47 (mkF m 223 #[.val (.int p0), .val (.int p1), .val (.int p2), .val (.int k), .val (.int li), .val (.int md), .val (.int lu), .val (.int lr), .val (.int ua), .val (.int ub), .val (.int rc), .val (.int rd), .val (.ref vv), .val (.int lr), .val (.int rc), .val (.int rd), .val (.ref us), .val .null, .unset, .unset, .unset] [])
                      refine Go.by (fun _ gk => XT.iconstV X47.here hx rfl (1 : Int32) (hb hby at_223) (by decide) gk) ?_
                      show Go _ _ _ _ T47 (mkF m 224 #[.val (.int p0), .val (.int p1), .val (.int p2), .val (.int k), .val (.int li), .val (.int md), .val (.int lu), .val (.int lr), .val (.int ua), .val (.int ub), .val (.int rc), .val (.int rd), .val (.ref vv), .val (.int lr), .val (.int rc), .val (.int rd), .val (.ref us), .val .null, .unset, .unset, .unset] [(.int (1 : Int32))])
                      refine Go.by (fun _ gk => XS.goto X47.here hx rfl (pc0 := 224) (pc' := 228) rfl (hb hby at_224) (by decide) (by decide) gk) ?_
                      show Go _ _ _ _ T47 (mkF m 228 #[.val (.int p0), .val (.int p1), .val (.int p2), .val (.int k), .val (.int li), .val (.int md), .val (.int lu), .val (.int lr), .val (.int ua), .val (.int ub), .val (.int rc), .val (.int rd), .val (.ref vv), .val (.int lr), .val (.int rc), .val (.int rd), .val (.ref us), .val .null, .unset, .unset, .unset] [(.int (1 : Int32))])
                      exact J49 _ trivial
                    · refine Go.by (fun _ gk => XS.icmpYes X47.here hx rfl (pc0 := 220) (pc' := 227) rfl (hb hby at_220) rfl (XT.ii_ne_t hb60) (by decide) (by decide) gk) ?_
                      show Go _ _ _ _ T47 (mkF m 227 #[.val (.int p0), .val (.int p1), .val (.int p2), .val (.int k), .val (.int li), .val (.int md), .val (.int lu), .val (.int lr), .val (.int ua), .val (.int ub), .val (.int rc), .val (.int rd), .val (.ref vv), .val (.int lr), .val (.int rc), .val (.int rd), .val (.ref us), .val .null, .unset, .unset, .unset] [])
                      refine Go.by (fun _ gk => XT.iconstV X47.here hx rfl (0 : Int32) (hb hby at_227) (by decide) gk) ?_
                      show Go _ _ _ _ T47 (mkF m 228 #[.val (.int p0), .val (.int p1), .val (.int p2), .val (.int k), .val (.int li), .val (.int md), .val (.int lu), .val (.int lr), .val (.int ua), .val (.int ub), .val (.int rc), .val (.int rd), .val (.ref vv), .val (.int lr), .val (.int rc), .val (.int rd), .val (.ref us), .val .null, .unset, .unset, .unset] [(.int (0 : Int32))])
                      exact J49 _ trivial
                · refine Go.by (fun _ gk => XS.icmpYes X47.here hx rfl (pc0 := 207) (pc' := 227) rfl (hb hby at_207) rfl (XT.ii_ne_t hb58) (by decide) (by decide) gk) ?_
                  show Go _ _ _ _ T47 (mkF m 227 #[.val (.int p0), .val (.int p1), .val (.int p2), .val (.int k), .val (.int li), .val (.int md), .val (.int lu), .val (.int lr), .val (.int ua), .val (.int ub), .val (.int rc), .val (.int rd), .val (.ref vv), .val (.int lr), .val (.int rc), .val (.int rd), .val (.ref us), .val .null, .unset, .unset, .unset] [])
                  refine Go.by (fun _ gk => XT.iconstV X47.here hx rfl (0 : Int32) (hb hby at_227) (by decide) gk) ?_
                  show Go _ _ _ _ T47 (mkF m 228 #[.val (.int p0), .val (.int p1), .val (.int p2), .val (.int k), .val (.int li), .val (.int md), .val (.int lu), .val (.int lr), .val (.int ua), .val (.int ub), .val (.int rc), .val (.int rd), .val (.ref vv), .val (.int lr), .val (.int rc), .val (.int rd), .val (.ref us), .val .null, .unset, .unset, .unset] [(.int (0 : Int32))])
                  exact J49 _ trivial
            · refine Go.by (fun _ gk => XS.icmpYes X47.here hx rfl (pc0 := 194) (pc' := 227) rfl (hb hby at_194) rfl (XT.ii_ne_t hb54) (by decide) (by decide) gk) ?_
              show Go _ _ _ _ T47 (mkF m 227 #[.val (.int p0), .val (.int p1), .val (.int p2), .val (.int k), .val (.int li), .val (.int md), .val (.int lu), .val (.int lr), .val (.int ua), .val (.int ub), .val (.int rc), .val (.int rd), .val (.ref vv), .val (.int lr), .val (.int rc), .val (.int rd), .val (.ref us), .val .null, .unset, .unset, .unset] [])
              refine Go.by (fun _ gk => XT.iconstV X47.here hx rfl (0 : Int32) (hb hby at_227) (by decide) gk) ?_
              show Go _ _ _ _ T47 (mkF m 228 #[.val (.int p0), .val (.int p1), .val (.int p2), .val (.int k), .val (.int li), .val (.int md), .val (.int lu), .val (.int lr), .val (.int ua), .val (.int ub), .val (.int rc), .val (.int rd), .val (.ref vv), .val (.int lr), .val (.int rc), .val (.int rd), .val (.ref us), .val .null, .unset, .unset, .unset] [(.int (0 : Int32))])
              exact J49 _ trivial
        · obtain ⟨_, _, ⟨T61, L61, k61, n61⟩, -, Xq61, hSq61, hgr61, ⟨Lc61, hQ61, l61, y61, z61, CH61⟩, st61⟩ := callSS X2 hx (y := (⟨"com/example/muster/muster/model/VisibilityShowsPinLaw", "str", "(ICC)Ljava/lang/String;"⟩ : MethodName)) hown (mvT hZ (hw _ (List.mem_of_getElem? (i := 3) rfl))) (mvT hZ (hw _ (List.mem_of_getElem? (i := 4) rfl))) (mvT hZ (hw _ (List.mem_of_getElem? (i := 5) rfl))) (mvT hZ (hw _ (List.mem_of_getElem? (i := 6) rfl))) (by decide) (backOfSH (W := 0) (rmStr l Z a0 hw [] lu ua ub cs h0 n0 Z0 O0 hlu q_ua.2 q_ub.2 S_cs n_cs) hZ (hw _ (List.mem_of_getElem? (i := 6) rfl)) (hw _ (List.mem_of_getElem? (i := 5) rfl)) (by decide) (by decide) hEL C0.1) (g := (mkF m 166 #[.val (.int p0), .val (.int p1), .val (.int p2), .val (.int k), .val (.int li), .val (.int md), .val (.int lu), .val (.int lr), .val (.int ua), .val (.int ub), .val (.int rc), .val (.int rd), .val (.ref vv), .val (.int lr), .val (.int rc), .val (.int rd), .unset, .unset, .unset, .unset, .unset] [(.int ub), (.int ua), (.int lu)])) rfl (by rw [hml]; rfl) (argsL := [(.int lu), (.int ua), (.int ub)]) (rest := []) (lenOf pd_212 rfl) rfl (by show 2 * 0 + _ ≤ _; exact Nat.le_of_eq rfl) (hb hby at_166) (fun _ _ => ⟨rfl, e2, (by decide : 0 + 6 ≤ _), (by decide : 0 + 12 ≤ _)⟩)
          dsimp only [Pt.U, Pt.locs, Pt.cells, Pt.slots] at Xq61 hSq61 hgr61 l61 y61 z61 st61 hQ61 CH61
          subst l61 y61 z61
          obtain ⟨us, usb, kus, rfl, N61q, K61, Q61_0, Q61_1, Q61_2, Q61_3, Q61_4⟩ := hQ61
          have N61 := Fr.app N0 N61q
          obtain ⟨X61, hS61, hZ61, hown61⟩ := rebS hS0 (by rw [e2]; exact hk0) Xq61 hSq61 hgr61 hZ hown
          have C62 : CHr Z own_EL s.vm h0 T61.vm T61.heap := C0.trans CH61
          refine Go.to st61 ?_
          show Go _ _ _ _ T61 (mkF m 169 #[.val (.int p0), .val (.int p1), .val (.int p2), .val (.int k), .val (.int li), .val (.int md), .val (.int lu), .val (.int lr), .val (.int ua), .val (.int ub), .val (.int rc), .val (.int rd), .val (.ref vv), .val (.int lr), .val (.int rc), .val (.int rd), .unset, .unset, .unset, .unset, .unset] [(.ref us)])
          have ge_us : n0 ≤ us := Nat.le_trans Z0 Q61_4
          have sz_us : h0.size ≤ us := Nat.le_trans (Keep.refl h0 []).1 Q61_4
          refine Go.by (fun _ gk => XS.astore X61.here hx rfl (hb hby at_169) rfl rfl (l' := #[.val (.int p0), .val (.int p1), .val (.int p2), .val (.int k), .val (.int li), .val (.int md), .val (.int lu), .val (.int lr), .val (.int ua), .val (.int ub), .val (.int rc), .val (.int rd), .val (.ref vv), .val (.int lr), .val (.int rc), .val (.int rd), .val (.ref us), .unset, .unset, .unset, .unset]) rfl gk) ?_
          show Go _ _ _ _ T61 (mkF m 171 #[.val (.int p0), .val (.int p1), .val (.int p2), .val (.int k), .val (.int li), .val (.int md), .val (.int lu), .val (.int lr), .val (.int ua), .val (.int ub), .val (.int rc), .val (.int rd), .val (.ref vv), .val (.int lr), .val (.int rc), .val (.int rd), .val (.ref us), .unset, .unset, .unset, .unset] [])
          refine Go.by (fun _ gk => XS.aconstNull X61.here hx rfl (hb hby at_171) gk) ?_
          show Go _ _ _ _ T61 (mkF m 172 #[.val (.int p0), .val (.int p1), .val (.int p2), .val (.int k), .val (.int li), .val (.int md), .val (.int lu), .val (.int lr), .val (.int ua), .val (.int ub), .val (.int rc), .val (.int rd), .val (.ref vv), .val (.int lr), .val (.int rc), .val (.int rd), .val (.ref us), .unset, .unset, .unset, .unset] [.null])
          refine Go.by (fun _ gk => XS.astore X61.here hx rfl (hb hby at_172) rfl rfl (l' := #[.val (.int p0), .val (.int p1), .val (.int p2), .val (.int k), .val (.int li), .val (.int md), .val (.int lu), .val (.int lr), .val (.int ua), .val (.int ub), .val (.int rc), .val (.int rd), .val (.ref vv), .val (.int lr), .val (.int rc), .val (.int rd), .val (.ref us), .val .null, .unset, .unset, .unset]) rfl gk) ?_
          show Go _ _ _ _ T61 (mkF m 174 #[.val (.int p0), .val (.int p1), .val (.int p2), .val (.int k), .val (.int li), .val (.int md), .val (.int lu), .val (.int lr), .val (.int ua), .val (.int ub), .val (.int rc), .val (.int rd), .val (.ref vv), .val (.int lr), .val (.int rc), .val (.int rd), .val (.ref us), .val .null, .unset, .unset, .unset] [])
          refine Go.by (fun _ gk => XS.iload X61.here hx rfl (hb hby at_174) rfl gk) ?_
          show Go _ _ _ _ T61 (mkF m 176 #[.val (.int p0), .val (.int p1), .val (.int p2), .val (.int k), .val (.int li), .val (.int md), .val (.int lu), .val (.int lr), .val (.int ua), .val (.int ub), .val (.int rc), .val (.int rd), .val (.ref vv), .val (.int lr), .val (.int rc), .val (.int rd), .val (.ref us), .val .null, .unset, .unset, .unset] [(.int md)])
          refine Go.by (fun _ gk => XS.ifNo X61.here hx rfl (hb hby at_176) rfl (XT.i0_eq_f hmd) gk) ?_
          show Go _ _ _ _ T61 (mkF m 179 #[.val (.int p0), .val (.int p1), .val (.int p2), .val (.int k), .val (.int li), .val (.int md), .val (.int lu), .val (.int lr), .val (.int ua), .val (.int ub), .val (.int rc), .val (.int rd), .val (.ref vv), .val (.int lr), .val (.int rc), .val (.int rd), .val (.ref us), .val .null, .unset, .unset, .unset] [])
          refine Go.by (fun _ gk => XS.iload X61.here hx rfl (hb hby at_179) rfl gk) ?_
          show Go _ _ _ _ T61 (mkF m 181 #[.val (.int p0), .val (.int p1), .val (.int p2), .val (.int k), .val (.int li), .val (.int md), .val (.int lu), .val (.int lr), .val (.int ua), .val (.int ub), .val (.int rc), .val (.int rd), .val (.ref vv), .val (.int lr), .val (.int rc), .val (.int rd), .val (.ref us), .val .null, .unset, .unset, .unset] [(.int lr)])
          refine Go.by (fun _ gk => XS.iload X61.here hx rfl (hb hby at_181) rfl gk) ?_
          show Go _ _ _ _ T61 (mkF m 183 #[.val (.int p0), .val (.int p1), .val (.int p2), .val (.int k), .val (.int li), .val (.int md), .val (.int lu), .val (.int lr), .val (.int ua), .val (.int ub), .val (.int rc), .val (.int rd), .val (.ref vv), .val (.int lr), .val (.int rc), .val (.int rd), .val (.ref us), .val .null, .unset, .unset, .unset] [(.int rc), (.int lr)])
          refine Go.by (fun _ gk => XS.iload X61.here hx rfl (hb hby at_183) rfl gk) ?_
          show Go _ _ _ _ T61 (mkF m 185 #[.val (.int p0), .val (.int p1), .val (.int p2), .val (.int k), .val (.int li), .val (.int md), .val (.int lu), .val (.int lr), .val (.int ua), .val (.int ub), .val (.int rc), .val (.int rd), .val (.ref vv), .val (.int lr), .val (.int rc), .val (.int rd), .val (.ref us), .val .null, .unset, .unset, .unset] [(.int rd), (.int rc), (.int lr)])
          have F63 : Old Z n0 T61.heap := O0.keep K61 all0
          have F64 : n0 ≤ T61.heap.size := Nat.le_trans Z0 K61.1
          have F65 : Keep h0 T61.heap [] := (Keep.refl h0 []).trans K61 all0
          obtain ⟨_, _, ⟨T66, L66, k66, n66⟩, -, Xq66, hSq66, hgr66, ⟨Lc66, hQ66, l66, y66, z66, CH66⟩, st66⟩ := callSS X61 hx (y := (⟨"com/example/muster/muster/model/VisibilityShowsPinLaw", "str", "(ICC)Ljava/lang/String;"⟩ : MethodName)) hown61 (mvT hZ61 (hw _ (List.mem_of_getElem? (i := 3) rfl))) (mvT hZ61 (hw _ (List.mem_of_getElem? (i := 4) rfl))) (mvT hZ61 (hw _ (List.mem_of_getElem? (i := 5) rfl))) (mvT hZ61 (hw _ (List.mem_of_getElem? (i := 6) rfl))) (by decide) (backOfSH (W := 0) (rmStr l Z a0 hw [] lr rc rd cs T61.heap n0 F64 F63 hlr q_rc.2 q_rd.2 S_cs n_cs) hZ61 (hw _ (List.mem_of_getElem? (i := 6) rfl)) (hw _ (List.mem_of_getElem? (i := 5) rfl)) (by decide) (by decide) hEL C62.1) (g := (mkF m 185 #[.val (.int p0), .val (.int p1), .val (.int p2), .val (.int k), .val (.int li), .val (.int md), .val (.int lu), .val (.int lr), .val (.int ua), .val (.int ub), .val (.int rc), .val (.int rd), .val (.ref vv), .val (.int lr), .val (.int rc), .val (.int rd), .val (.ref us), .val .null, .unset, .unset, .unset] [(.int rd), (.int rc), (.int lr)])) rfl (by rw [hml]; rfl) (argsL := [(.int lr), (.int rc), (.int rd)]) (rest := []) (lenOf pd_212 rfl) rfl (by show 2 * 0 + _ ≤ _; exact Nat.le_of_eq rfl) (hb hby at_185) (fun _ _ => ⟨rfl, rfl, (by decide : 6 + 6 ≤ _), (by decide : 12 + 12 ≤ _)⟩)
          dsimp only [Pt.U, Pt.locs, Pt.cells, Pt.slots] at Xq66 hSq66 hgr66 l66 y66 z66 st66 hQ66 CH66
          subst l66 y66 z66
          obtain ⟨rq, rqb, krq, rfl, N66q, K66, Q66_0, Q66_1, Q66_2, Q66_3, Q66_4⟩ := hQ66
          have N66 := Fr.app N61 N66q
          obtain ⟨X66, hS66, hZ66, hown66⟩ := rebS hS61 (by exact (Nat.le_refl T61.heap.size)) Xq66 hSq66 hgr66 hZ61 hown61
          have C67 : CHr Z own_EL s.vm h0 T66.vm T66.heap := C62.trans CH66
          refine Go.to st66 ?_
          show Go _ _ _ _ T66 (mkF m 188 #[.val (.int p0), .val (.int p1), .val (.int p2), .val (.int k), .val (.int li), .val (.int md), .val (.int lu), .val (.int lr), .val (.int ua), .val (.int ub), .val (.int rc), .val (.int rd), .val (.ref vv), .val (.int lr), .val (.int rc), .val (.int rd), .val (.ref us), .val .null, .unset, .unset, .unset] [(.ref rq)])
          have ge_rq : n0 ≤ rq := Nat.le_trans F64 Q66_4
          have sz_rq : h0.size ≤ rq := Nat.le_trans F65.1 Q66_4
          have ne_us_rq : us ≠ rq := Nat.ne_of_lt (Nat.lt_of_lt_of_le Q61_0.lt Q66_4)
          have ne_usb_rq : usb ≠ rq := Nat.ne_of_lt (Nat.lt_of_lt_of_le Q61_3.lt Q66_4)
          refine Go.by (fun _ gk => XS.astore X66.here hx rfl (hb hby at_188) rfl rfl (l' := #[.val (.int p0), .val (.int p1), .val (.int p2), .val (.int k), .val (.int li), .val (.int md), .val (.int lu), .val (.int lr), .val (.int ua), .val (.int ub), .val (.int rc), .val (.int rd), .val (.ref vv), .val (.int lr), .val (.int rc), .val (.int rd), .val (.ref us), .val (.ref rq), .unset, .unset, .unset]) rfl gk) ?_
          show Go _ _ _ _ T66 (mkF m 190 #[.val (.int p0), .val (.int p1), .val (.int p2), .val (.int k), .val (.int li), .val (.int md), .val (.int lu), .val (.int lr), .val (.int ua), .val (.int ub), .val (.int rc), .val (.int rd), .val (.ref vv), .val (.int lr), .val (.int rc), .val (.int rd), .val (.ref us), .val (.ref rq), .unset, .unset, .unset] [])
          refine Go.by (fun _ gk => XS.iload X66.here hx rfl (hb hby at_190) rfl gk) ?_
          show Go _ _ _ _ T66 (mkF m 192 #[.val (.int p0), .val (.int p1), .val (.int p2), .val (.int k), .val (.int li), .val (.int md), .val (.int lu), .val (.int lr), .val (.int ua), .val (.int ub), .val (.int rc), .val (.int rd), .val (.ref vv), .val (.int lr), .val (.int rc), .val (.int rd), .val (.ref us), .val (.ref rq), .unset, .unset, .unset] [(.int lr)])
          refine Go.by (fun _ gk => XS.iload X66.here hx rfl (hb hby at_192) rfl gk) ?_
          show Go _ _ _ _ T66 (mkF m 194 #[.val (.int p0), .val (.int p1), .val (.int p2), .val (.int k), .val (.int li), .val (.int md), .val (.int lu), .val (.int lr), .val (.int ua), .val (.int ub), .val (.int rc), .val (.int rd), .val (.ref vv), .val (.int lr), .val (.int rc), .val (.int rd), .val (.ref us), .val (.ref rq), .unset, .unset, .unset] [(.int lu), (.int lr)])
          refine Go.join (α := Int32) (P := fun sm => (sm = 1 ∧ own_same lr rc rd lu ua ub) ∨ (sm = 0 ∧ ¬ own_same lr rc rd lu ua ub)) (fr := fun sm => (mkF m 228 #[.val (.int p0), .val (.int p1), .val (.int p2), .val (.int k), .val (.int li), .val (.int md), .val (.int lu), .val (.int lr), .val (.int ua), .val (.int ub), .val (.int rc), .val (.int rd), .val (.ref vv), .val (.int lr), .val (.int rc), .val (.int rd), .val (.ref us), .val (.ref rq), .unset, .unset, .unset] [(.int sm)])) ?_ ?_
          · intro sm h_sm
            show Go _ _ _ _ T66 (mkF m 228 #[.val (.int p0), .val (.int p1), .val (.int p2), .val (.int k), .val (.int li), .val (.int md), .val (.int lu), .val (.int lr), .val (.int ua), .val (.int ub), .val (.int rc), .val (.int rd), .val (.ref vv), .val (.int lr), .val (.int rc), .val (.int rd), .val (.ref us), .val (.ref rq), .unset, .unset, .unset] [(.int sm)])
            refine Go.by (fun _ gk => XS.istore X66.here hx rfl (hb hby at_228) rfl (l' := #[.val (.int p0), .val (.int p1), .val (.int p2), .val (.int k), .val (.int li), .val (.int md), .val (.int lu), .val (.int lr), .val (.int ua), .val (.int ub), .val (.int rc), .val (.int rd), .val (.ref vv), .val (.int lr), .val (.int rc), .val (.int rd), .val (.ref us), .val (.ref rq), .val (.int sm), .unset, .unset]) rfl gk) ?_
            show Go _ _ _ _ T66 (mkF m 230 #[.val (.int p0), .val (.int p1), .val (.int p2), .val (.int k), .val (.int li), .val (.int md), .val (.int lu), .val (.int lr), .val (.int ua), .val (.int ub), .val (.int rc), .val (.int rd), .val (.ref vv), .val (.int lr), .val (.int rc), .val (.int rd), .val (.ref us), .val (.ref rq), .val (.int sm), .unset, .unset] [])
            refine Go.by (fun _ gk => XS.iload X66.here hx rfl (hb hby at_230) rfl gk) ?_
            show Go _ _ _ _ T66 (mkF m 232 #[.val (.int p0), .val (.int p1), .val (.int p2), .val (.int k), .val (.int li), .val (.int md), .val (.int lu), .val (.int lr), .val (.int ua), .val (.int ub), .val (.int rc), .val (.int rd), .val (.ref vv), .val (.int lr), .val (.int rc), .val (.int rd), .val (.ref us), .val (.ref rq), .val (.int sm), .unset, .unset] [(.int md)])
            refine Go.by (fun _ gk => XS.ifYes X66.here hx rfl (pc0 := 232) (pc' := 241) rfl (hb hby at_232) rfl (XT.i0_ne_t hmd) (by decide) (by decide) gk) ?_
            show Go _ _ _ _ T66 (mkF m 241 #[.val (.int p0), .val (.int p1), .val (.int p2), .val (.int k), .val (.int li), .val (.int md), .val (.int lu), .val (.int lr), .val (.int ua), .val (.int ub), .val (.int rc), .val (.int rd), .val (.ref vv), .val (.int lr), .val (.int rc), .val (.int rd), .val (.ref us), .val (.ref rq), .val (.int sm), .unset, .unset] [])
            refine Go.by (fun _ gk => XS.iload X66.here hx rfl (hb hby at_241) rfl gk) ?_
            show Go _ _ _ _ T66 (mkF m 243 #[.val (.int p0), .val (.int p1), .val (.int p2), .val (.int k), .val (.int li), .val (.int md), .val (.int lu), .val (.int lr), .val (.int ua), .val (.int ub), .val (.int rc), .val (.int rd), .val (.ref vv), .val (.int lr), .val (.int rc), .val (.int rd), .val (.ref us), .val (.ref rq), .val (.int sm), .unset, .unset] [(.int sm)])
            rcases h_sm with ⟨rfl, hE⟩ | ⟨rfl, hE⟩
            · show Go _ _ _ _ T66 (mkF m 243 #[.val (.int p0), .val (.int p1), .val (.int p2), .val (.int k), .val (.int li), .val (.int md), .val (.int lu), .val (.int lr), .val (.int ua), .val (.int ub), .val (.int rc), .val (.int rd), .val (.ref vv), .val (.int lr), .val (.int rc), .val (.int rd), .val (.ref us), .val (.ref rq), .val (.int (1 : Int32)), .unset, .unset] [(.int (1 : Int32))])
              refine Go.by (fun _ gk => XS.ifNo X66.here hx rfl (hb hby at_243) rfl (XT.i0_eq_f (by decide)) gk) ?_
              show Go _ _ _ _ T66 (mkF m 246 #[.val (.int p0), .val (.int p1), .val (.int p2), .val (.int k), .val (.int li), .val (.int md), .val (.int lu), .val (.int lr), .val (.int ua), .val (.int ub), .val (.int rc), .val (.int rd), .val (.ref vv), .val (.int lr), .val (.int rc), .val (.int rd), .val (.ref us), .val (.ref rq), .val (.int (1 : Int32)), .unset, .unset] [])
              refine Go.by (fun _ gk => XT.iconstV X66.here hx rfl (1 : Int32) (hb hby at_246) (by decide) gk) ?_
              show Go _ _ _ _ T66 (mkF m 247 #[.val (.int p0), .val (.int p1), .val (.int p2), .val (.int k), .val (.int li), .val (.int md), .val (.int lu), .val (.int lr), .val (.int ua), .val (.int ub), .val (.int rc), .val (.int rd), .val (.ref vv), .val (.int lr), .val (.int rc), .val (.int rd), .val (.ref us), .val (.ref rq), .val (.int (1 : Int32)), .unset, .unset] [(.int (1 : Int32))])
              refine Go.by (fun _ gk => XS.istore X66.here hx rfl (hb hby at_247) rfl (l' := #[.val (.int p0), .val (.int p1), .val (.int p2), .val (.int k), .val (.int li), .val (.int md), .val (.int lu), .val (.int lr), .val (.int ua), .val (.int ub), .val (.int rc), .val (.int rd), .val (.ref vv), .val (.int lr), .val (.int rc), .val (.int rd), .val (.ref us), .val (.ref rq), .val (.int (1 : Int32)), .val (.int (1 : Int32)), .unset]) rfl gk) ?_
              show Go _ _ _ _ T66 (mkF m 249 #[.val (.int p0), .val (.int p1), .val (.int p2), .val (.int k), .val (.int li), .val (.int md), .val (.int lu), .val (.int lr), .val (.int ua), .val (.int ub), .val (.int rc), .val (.int rd), .val (.ref vv), .val (.int lr), .val (.int rc), .val (.int rd), .val (.ref us), .val (.ref rq), .val (.int (1 : Int32)), .val (.int (1 : Int32)), .unset] [])
              refine Go.by (fun _ gk => XS.goto X66.here hx rfl (pc0 := 249) (pc' := 277) rfl (hb hby at_249) (by decide) (by decide) gk) ?_
              show Go _ _ _ _ T66 (mkF m 277 #[.val (.int p0), .val (.int p1), .val (.int p2), .val (.int k), .val (.int li), .val (.int md), .val (.int lu), .val (.int lr), .val (.int ua), .val (.int ub), .val (.int rc), .val (.int rd), .val (.ref vv), .val (.int lr), .val (.int rc), .val (.int rd), .val (.ref us), .val (.ref rq), .val (.int (1 : Int32)), .val (.int (1 : Int32)), .unset] [])
              refine Go.by (fun _ gk => XS.aload X66.here hx rfl (hb hby at_277) rfl rfl gk) ?_
              show Go _ _ _ _ T66 (mkF m 279 #[.val (.int p0), .val (.int p1), .val (.int p2), .val (.int k), .val (.int li), .val (.int md), .val (.int lu), .val (.int lr), .val (.int ua), .val (.int ub), .val (.int rc), .val (.int rd), .val (.ref vv), .val (.int lr), .val (.int rc), .val (.int rd), .val (.ref us), .val (.ref rq), .val (.int (1 : Int32)), .val (.int (1 : Int32)), .unset] [(.ref vv)])
              refine Go.by (fun _ gk => XS.aload X66.here hx rfl (hb hby at_279) rfl rfl gk) ?_
              show Go _ _ _ _ T66 (mkF m 281 #[.val (.int p0), .val (.int p1), .val (.int p2), .val (.int k), .val (.int li), .val (.int md), .val (.int lu), .val (.int lr), .val (.int ua), .val (.int ub), .val (.int rc), .val (.int rd), .val (.ref vv), .val (.int lr), .val (.int rc), .val (.int rd), .val (.ref us), .val (.ref rq), .val (.int (1 : Int32)), .val (.int (1 : Int32)), .unset] [(.ref us), (.ref vv)])
              refine Go.by (fun _ gk => XS.aload X66.here hx rfl (hb hby at_281) rfl rfl gk) ?_
              show Go _ _ _ _ T66 (mkF m 283 #[.val (.int p0), .val (.int p1), .val (.int p2), .val (.int k), .val (.int li), .val (.int md), .val (.int lu), .val (.int lr), .val (.int ua), .val (.int ub), .val (.int rc), .val (.int rd), .val (.ref vv), .val (.int lr), .val (.int rc), .val (.int rd), .val (.ref us), .val (.ref rq), .val (.int (1 : Int32)), .val (.int (1 : Int32)), .unset] [(.ref rq), (.ref us), (.ref vv)])
              refine Go.by (fun _ gk => XS.iload X66.here hx rfl (hb hby at_283) rfl gk) ?_
              show Go _ _ _ _ T66 (mkF m 285 #[.val (.int p0), .val (.int p1), .val (.int p2), .val (.int k), .val (.int li), .val (.int md), .val (.int lu), .val (.int lr), .val (.int ua), .val (.int ub), .val (.int rc), .val (.int rd), .val (.ref vv), .val (.int lr), .val (.int rc), .val (.int rd), .val (.ref us), .val (.ref rq), .val (.int (1 : Int32)), .val (.int (1 : Int32)), .unset] [(.int li), (.ref rq), (.ref us), (.ref vv)])
              have F69 : Old Z n0 T66.heap := F63.keep K66 all0
              have F70 : Exa Z T66.heap us "java/lang/String" := Q61_0.keep K66
              have F71 : Fld Z T66.heap us "java/lang/String" "coder" "B" (.int (0 : Int32)) := Q61_1.keep K66 nin0
              have F72 : Fld Z T66.heap us "java/lang/String" "value" "[B" (.ref usb) := Q61_2.keep K66 nin0
              have F73 : Arv Z T66.heap usb kus .byte lu (own_str lu ua ub) (.int (0 : Int32)) := Q61_3.keep K66 nin0
              have F74 : n0 ≤ T66.heap.size := Nat.le_trans F64 K66.1
              have F76 : Exa Z T66.heap vv "com/example/muster/muster/model/Visibility" := E_vv.ext F69.2
              obtain ⟨cq75, kq75, q75a, q75b, q75c⟩ := isOf hZ66 rfl F76
              obtain ⟨_, _, ⟨T75, L75, k75, n75⟩, -, X75, ⟨Lc75, hQ75, l75, y75, z75⟩, st75⟩ := X66.virtualBack hx (y := (⟨"com/example/muster/muster/model/Visibility", "shows", "(Ljava/lang/String;Ljava/lang/String;Z)Z"⟩ : MethodName)) (z := (⟨"com/example/muster/muster/model/Visibility", "shows", "(Ljava/lang/String;Ljava/lang/String;Z)Z"⟩ : MethodName)) hown66 (mvT hZ66 (hw _ (List.mem_of_getElem? (i := 29) rfl))) (mvT hZ66 (hw _ (List.mem_of_getElem? (i := 30) rfl))) (notFace_of_selects (args := #[]) (mvT hZ66 (hw _ (List.mem_of_getElem? (i := 32) rfl)))) (mvT hZ66 (hw _ (List.mem_of_getElem? (i := 32) rfl))) (mvT hZ66 (hw _ (List.mem_of_getElem? (i := 31) rfl))) (by decide) (backOf (W := 0) (rmShows l Z a0 hw [] vv us rq li k usb rqb kus krq lr rc rd lu ua ub c_EVERYONE c_CONTACTS c_NOBODY cs T66.heap n0 F74 F69 Q66_0 Q66_1 Q66_2 Q66_3 F70 F71 F72 F73 hlr hlu (Ne.symm ne_us_rq) h_vv h_li S_c_EVERYONE E_c_EVERYONE O_c_EVERYONE S_c_CONTACTS E_c_CONTACTS O_c_CONTACTS S_c_NOBODY E_c_NOBODY O_c_NOBODY S_cs n_cs) hZ66 (hw _ (List.mem_of_getElem? (i := 33) rfl)) (hw _ (List.mem_of_getElem? (i := 1) rfl)) (by decide) (by decide)) q75a q75c (g := (mkF m 285 #[.val (.int p0), .val (.int p1), .val (.int p2), .val (.int k), .val (.int li), .val (.int md), .val (.int lu), .val (.int lr), .val (.int ua), .val (.int ub), .val (.int rc), .val (.int rd), .val (.ref vv), .val (.int lr), .val (.int rc), .val (.int rd), .val (.ref us), .val (.ref rq), .val (.int (1 : Int32)), .val (.int (1 : Int32)), .unset] [(.int li), (.ref rq), (.ref us), (.ref vv)])) rfl (by rw [hml]; rfl) (Steps.refl _) (argsL := [(.ref us), (.ref rq), (.int li)]) (rest := []) (lenOf pd_213 rfl) rfl (by show 2 * 0 + _ ≤ _; exact Nat.le_of_eq rfl) (hb hby at_285) (fun _ _ => ⟨rfl, rfl, (by decide : 12 + 0 ≤ _), (by decide : 24 + 0 ≤ _)⟩)
              dsimp only [Pt.U, Pt.locs, Pt.cells, Pt.slots] at X75 l75 y75 z75 st75 hQ75
              subst l75 y75 z75
              obtain ⟨rr, rfl, N75q, e75, Q75_0⟩ := hQ75
              have N75 := Fr.app N66 N75q
              refine Go.to st75 ?_
              show Go _ _ _ _ T75 (mkF m 288 #[.val (.int p0), .val (.int p1), .val (.int p2), .val (.int k), .val (.int li), .val (.int md), .val (.int lu), .val (.int lr), .val (.int ua), .val (.int ub), .val (.int rc), .val (.int rd), .val (.ref vv), .val (.int lr), .val (.int rc), .val (.int rd), .val (.ref us), .val (.ref rq), .val (.int (1 : Int32)), .val (.int (1 : Int32)), .unset] [(.int rr)])
              refine Go.by (fun _ gk => XS.istore X75.here hx rfl (hb hby at_288) rfl (l' := #[.val (.int p0), .val (.int p1), .val (.int p2), .val (.int k), .val (.int li), .val (.int md), .val (.int lu), .val (.int lr), .val (.int ua), .val (.int ub), .val (.int rc), .val (.int rd), .val (.ref vv), .val (.int lr), .val (.int rc), .val (.int rd), .val (.ref us), .val (.ref rq), .val (.int (1 : Int32)), .val (.int (1 : Int32)), .val (.int rr)]) rfl gk) ?_
              show Go _ _ _ _ T75 (mkF m 290 #[.val (.int p0), .val (.int p1), .val (.int p2), .val (.int k), .val (.int li), .val (.int md), .val (.int lu), .val (.int lr), .val (.int ua), .val (.int ub), .val (.int rc), .val (.int rd), .val (.ref vv), .val (.int lr), .val (.int rc), .val (.int rd), .val (.ref us), .val (.ref rq), .val (.int (1 : Int32)), .val (.int (1 : Int32)), .val (.int rr)] [])
              refine Go.by (fun _ gk => XS.iload X75.here hx rfl (hb hby at_290) rfl gk) ?_
              show Go _ _ _ _ T75 (mkF m 292 #[.val (.int p0), .val (.int p1), .val (.int p2), .val (.int k), .val (.int li), .val (.int md), .val (.int lu), .val (.int lr), .val (.int ua), .val (.int ub), .val (.int rc), .val (.int rd), .val (.ref vv), .val (.int lr), .val (.int rc), .val (.int rd), .val (.ref us), .val (.ref rq), .val (.int (1 : Int32)), .val (.int (1 : Int32)), .val (.int rr)] [(.int rr)])
              refine Go.by (fun _ gk => XS.iload X75.here hx rfl (hb hby at_292) rfl gk) ?_
              show Go _ _ _ _ T75 (mkF m 294 #[.val (.int p0), .val (.int p1), .val (.int p2), .val (.int k), .val (.int li), .val (.int md), .val (.int lu), .val (.int lr), .val (.int ua), .val (.int ub), .val (.int rc), .val (.int rd), .val (.ref vv), .val (.int lr), .val (.int rc), .val (.int rd), .val (.ref us), .val (.ref rq), .val (.int (1 : Int32)), .val (.int (1 : Int32)), .val (.int rr)] [(.int (1 : Int32)), (.int rr)])
              obtain rfl : rr = 1 := by
                rcases Q75_0 with ⟨-, q⟩ | ⟨q, -⟩
                · exact q
                · exact absurd ((own_same_iff hlu q_rc q_rd q_ua q_ub).mpr hE) q
              show Go _ _ _ _ T75 (mkF m 294 #[.val (.int p0), .val (.int p1), .val (.int p2), .val (.int k), .val (.int li), .val (.int md), .val (.int lu), .val (.int lr), .val (.int ua), .val (.int ub), .val (.int rc), .val (.int rd), .val (.ref vv), .val (.int lr), .val (.int rc), .val (.int rd), .val (.ref us), .val (.ref rq), .val (.int (1 : Int32)), .val (.int (1 : Int32)), .val (.int (1 : Int32))] [(.int (1 : Int32)), (.int (1 : Int32))])
              refine Go.by (fun _ gk => XS.icmpNo X75.here hx rfl (hb hby at_294) rfl (XT.ii_ne_f rfl) gk) ?_
              show Go _ _ _ _ T75 (mkF m 297 #[.val (.int p0), .val (.int p1), .val (.int p2), .val (.int k), .val (.int li), .val (.int md), .val (.int lu), .val (.int lr), .val (.int ua), .val (.int ub), .val (.int rc), .val (.int rd), .val (.ref vv), .val (.int lr), .val (.int rc), .val (.int rd), .val (.ref us), .val (.ref rq), .val (.int (1 : Int32)), .val (.int (1 : Int32)), .val (.int (1 : Int32))] [])
              refine Go.by (fun _ gk => XT.iconstV X75.here hx rfl (1 : Int32) (hb hby at_297) (by decide) gk) ?_
              show Go _ _ _ _ T75 (mkF m 298 #[.val (.int p0), .val (.int p1), .val (.int p2), .val (.int k), .val (.int li), .val (.int md), .val (.int lu), .val (.int lr), .val (.int ua), .val (.int ub), .val (.int rc), .val (.int rd), .val (.ref vv), .val (.int lr), .val (.int rc), .val (.int rd), .val (.ref us), .val (.ref rq), .val (.int (1 : Int32)), .val (.int (1 : Int32)), .val (.int (1 : Int32))] [(.int (1 : Int32))])
              refine Go.by (fun _ gk => XS.goto X75.here hx rfl (pc0 := 298) (pc' := 302) rfl (hb hby at_298) (by decide) (by decide) gk) ?_
              show Go _ _ _ _ T75 (mkF m 302 #[.val (.int p0), .val (.int p1), .val (.int p2), .val (.int k), .val (.int li), .val (.int md), .val (.int lu), .val (.int lr), .val (.int ua), .val (.int ub), .val (.int rc), .val (.int rd), .val (.ref vv), .val (.int lr), .val (.int rc), .val (.int rd), .val (.ref us), .val (.ref rq), .val (.int (1 : Int32)), .val (.int (1 : Int32)), .val (.int (1 : Int32))] [(.int (1 : Int32))])
              exact Go.retIW X75 hx Bd.notSynchronized hS66 (by rw [e75]; exact (Nat.le_refl T66.heap.size)) hZ66 hEL (by rw [hh, e75]; exact C67) Bd.returns rfl (by simp) (hb hby at_302) (by rw [e75]; exact ⟨rfl, N75⟩) (by decide) (by decide)
            · show Go _ _ _ _ T66 (mkF m 243 #[.val (.int p0), .val (.int p1), .val (.int p2), .val (.int k), .val (.int li), .val (.int md), .val (.int lu), .val (.int lr), .val (.int ua), .val (.int ub), .val (.int rc), .val (.int rd), .val (.ref vv), .val (.int lr), .val (.int rc), .val (.int rd), .val (.ref us), .val (.ref rq), .val (.int (0 : Int32)), .unset, .unset] [(.int (0 : Int32))])
              refine Go.by (fun _ gk => XS.ifYes X66.here hx rfl (pc0 := 243) (pc' := 252) rfl (hb hby at_243) rfl (XT.i0_eq_t rfl) (by decide) (by decide) gk) ?_
              show Go _ _ _ _ T66 (mkF m 252 #[.val (.int p0), .val (.int p1), .val (.int p2), .val (.int k), .val (.int li), .val (.int md), .val (.int lu), .val (.int lr), .val (.int ua), .val (.int ub), .val (.int rc), .val (.int rd), .val (.ref vv), .val (.int lr), .val (.int rc), .val (.int rd), .val (.ref us), .val (.ref rq), .val (.int (0 : Int32)), .unset, .unset] [])
              refine Go.by (fun _ gk => XS.iloadN X66.here hx rfl (hb hby at_252) rfl gk) ?_
              show Go _ _ _ _ T66 (mkF m 253 #[.val (.int p0), .val (.int p1), .val (.int p2), .val (.int k), .val (.int li), .val (.int md), .val (.int lu), .val (.int lr), .val (.int ua), .val (.int ub), .val (.int rc), .val (.int rd), .val (.ref vv), .val (.int lr), .val (.int rc), .val (.int rd), .val (.ref us), .val (.ref rq), .val (.int (0 : Int32)), .unset, .unset] [(.int k)])
              rcases hk with rfl | rfl | rfl
              · show Go _ _ _ _ T66 (mkF m 253 #[.val (.int p0), .val (.int p1), .val (.int p2), .val (.int (0 : Int32)), .val (.int li), .val (.int md), .val (.int lu), .val (.int lr), .val (.int ua), .val (.int ub), .val (.int rc), .val (.int rd), .val (.ref vv), .val (.int lr), .val (.int rc), .val (.int rd), .val (.ref us), .val (.ref rq), .val (.int (0 : Int32)), .unset, .unset] [(.int (0 : Int32))])
                refine Go.by (fun _ gk => XS.ifNo X66.here hx rfl (hb hby at_253) rfl (XT.i0_ne_f rfl) gk) ?_
                show Go _ _ _ _ T66 (mkF m 256 #[.val (.int p0), .val (.int p1), .val (.int p2), .val (.int (0 : Int32)), .val (.int li), .val (.int md), .val (.int lu), .val (.int lr), .val (.int ua), .val (.int ub), .val (.int rc), .val (.int rd), .val (.ref vv), .val (.int lr), .val (.int rc), .val (.int rd), .val (.ref us), .val (.ref rq), .val (.int (0 : Int32)), .unset, .unset] [])
                refine Go.by (fun _ gk => XT.iconstV X66.here hx rfl (1 : Int32) (hb hby at_256) (by decide) gk) ?_
                show Go _ _ _ _ T66 (mkF m 257 #[.val (.int p0), .val (.int p1), .val (.int p2), .val (.int (0 : Int32)), .val (.int li), .val (.int md), .val (.int lu), .val (.int lr), .val (.int ua), .val (.int ub), .val (.int rc), .val (.int rd), .val (.ref vv), .val (.int lr), .val (.int rc), .val (.int rd), .val (.ref us), .val (.ref rq), .val (.int (0 : Int32)), .unset, .unset] [(.int (1 : Int32))])
                refine Go.by (fun _ gk => XS.istore X66.here hx rfl (hb hby at_257) rfl (l' := #[.val (.int p0), .val (.int p1), .val (.int p2), .val (.int (0 : Int32)), .val (.int li), .val (.int md), .val (.int lu), .val (.int lr), .val (.int ua), .val (.int ub), .val (.int rc), .val (.int rd), .val (.ref vv), .val (.int lr), .val (.int rc), .val (.int rd), .val (.ref us), .val (.ref rq), .val (.int (0 : Int32)), .val (.int (1 : Int32)), .unset]) rfl gk) ?_
                show Go _ _ _ _ T66 (mkF m 259 #[.val (.int p0), .val (.int p1), .val (.int p2), .val (.int (0 : Int32)), .val (.int li), .val (.int md), .val (.int lu), .val (.int lr), .val (.int ua), .val (.int ub), .val (.int rc), .val (.int rd), .val (.ref vv), .val (.int lr), .val (.int rc), .val (.int rd), .val (.ref us), .val (.ref rq), .val (.int (0 : Int32)), .val (.int (1 : Int32)), .unset] [])
                refine Go.by (fun _ gk => XS.goto X66.here hx rfl (pc0 := 259) (pc' := 277) rfl (hb hby at_259) (by decide) (by decide) gk) ?_
                show Go _ _ _ _ T66 (mkF m 277 #[.val (.int p0), .val (.int p1), .val (.int p2), .val (.int (0 : Int32)), .val (.int li), .val (.int md), .val (.int lu), .val (.int lr), .val (.int ua), .val (.int ub), .val (.int rc), .val (.int rd), .val (.ref vv), .val (.int lr), .val (.int rc), .val (.int rd), .val (.ref us), .val (.ref rq), .val (.int (0 : Int32)), .val (.int (1 : Int32)), .unset] [])
                refine Go.by (fun _ gk => XS.aload X66.here hx rfl (hb hby at_277) rfl rfl gk) ?_
                show Go _ _ _ _ T66 (mkF m 279 #[.val (.int p0), .val (.int p1), .val (.int p2), .val (.int (0 : Int32)), .val (.int li), .val (.int md), .val (.int lu), .val (.int lr), .val (.int ua), .val (.int ub), .val (.int rc), .val (.int rd), .val (.ref vv), .val (.int lr), .val (.int rc), .val (.int rd), .val (.ref us), .val (.ref rq), .val (.int (0 : Int32)), .val (.int (1 : Int32)), .unset] [(.ref vv)])
                refine Go.by (fun _ gk => XS.aload X66.here hx rfl (hb hby at_279) rfl rfl gk) ?_
                show Go _ _ _ _ T66 (mkF m 281 #[.val (.int p0), .val (.int p1), .val (.int p2), .val (.int (0 : Int32)), .val (.int li), .val (.int md), .val (.int lu), .val (.int lr), .val (.int ua), .val (.int ub), .val (.int rc), .val (.int rd), .val (.ref vv), .val (.int lr), .val (.int rc), .val (.int rd), .val (.ref us), .val (.ref rq), .val (.int (0 : Int32)), .val (.int (1 : Int32)), .unset] [(.ref us), (.ref vv)])
                refine Go.by (fun _ gk => XS.aload X66.here hx rfl (hb hby at_281) rfl rfl gk) ?_
                show Go _ _ _ _ T66 (mkF m 283 #[.val (.int p0), .val (.int p1), .val (.int p2), .val (.int (0 : Int32)), .val (.int li), .val (.int md), .val (.int lu), .val (.int lr), .val (.int ua), .val (.int ub), .val (.int rc), .val (.int rd), .val (.ref vv), .val (.int lr), .val (.int rc), .val (.int rd), .val (.ref us), .val (.ref rq), .val (.int (0 : Int32)), .val (.int (1 : Int32)), .unset] [(.ref rq), (.ref us), (.ref vv)])
                refine Go.by (fun _ gk => XS.iload X66.here hx rfl (hb hby at_283) rfl gk) ?_
                show Go _ _ _ _ T66 (mkF m 285 #[.val (.int p0), .val (.int p1), .val (.int p2), .val (.int (0 : Int32)), .val (.int li), .val (.int md), .val (.int lu), .val (.int lr), .val (.int ua), .val (.int ub), .val (.int rc), .val (.int rd), .val (.ref vv), .val (.int lr), .val (.int rc), .val (.int rd), .val (.ref us), .val (.ref rq), .val (.int (0 : Int32)), .val (.int (1 : Int32)), .unset] [(.int li), (.ref rq), (.ref us), (.ref vv)])
                have F77 : Old Z n0 T66.heap := F63.keep K66 all0
                have F78 : Exa Z T66.heap us "java/lang/String" := Q61_0.keep K66
                have F79 : Fld Z T66.heap us "java/lang/String" "coder" "B" (.int (0 : Int32)) := Q61_1.keep K66 nin0
                have F80 : Fld Z T66.heap us "java/lang/String" "value" "[B" (.ref usb) := Q61_2.keep K66 nin0
                have F81 : Arv Z T66.heap usb kus .byte lu (own_str lu ua ub) (.int (0 : Int32)) := Q61_3.keep K66 nin0
                have F82 : n0 ≤ T66.heap.size := Nat.le_trans F64 K66.1
                have F84 : Exa Z T66.heap vv "com/example/muster/muster/model/Visibility" := E_vv.ext F77.2
                obtain ⟨cq83, kq83, q83a, q83b, q83c⟩ := isOf hZ66 rfl F84
                obtain ⟨_, _, ⟨T83, L83, k83, n83⟩, -, X83, ⟨Lc83, hQ83, l83, y83, z83⟩, st83⟩ := X66.virtualBack hx (y := (⟨"com/example/muster/muster/model/Visibility", "shows", "(Ljava/lang/String;Ljava/lang/String;Z)Z"⟩ : MethodName)) (z := (⟨"com/example/muster/muster/model/Visibility", "shows", "(Ljava/lang/String;Ljava/lang/String;Z)Z"⟩ : MethodName)) hown66 (mvT hZ66 (hw _ (List.mem_of_getElem? (i := 29) rfl))) (mvT hZ66 (hw _ (List.mem_of_getElem? (i := 30) rfl))) (notFace_of_selects (args := #[]) (mvT hZ66 (hw _ (List.mem_of_getElem? (i := 32) rfl)))) (mvT hZ66 (hw _ (List.mem_of_getElem? (i := 32) rfl))) (mvT hZ66 (hw _ (List.mem_of_getElem? (i := 31) rfl))) (by decide) (backOf (W := 0) (rmShows l Z a0 hw [] vv us rq li (0 : Int32) usb rqb kus krq lr rc rd lu ua ub c_EVERYONE c_CONTACTS c_NOBODY cs T66.heap n0 F82 F77 Q66_0 Q66_1 Q66_2 Q66_3 F78 F79 F80 F81 hlr hlu (Ne.symm ne_us_rq) h_vv h_li S_c_EVERYONE E_c_EVERYONE O_c_EVERYONE S_c_CONTACTS E_c_CONTACTS O_c_CONTACTS S_c_NOBODY E_c_NOBODY O_c_NOBODY S_cs n_cs) hZ66 (hw _ (List.mem_of_getElem? (i := 33) rfl)) (hw _ (List.mem_of_getElem? (i := 1) rfl)) (by decide) (by decide)) q83a q83c (g := (mkF m 285 #[.val (.int p0), .val (.int p1), .val (.int p2), .val (.int (0 : Int32)), .val (.int li), .val (.int md), .val (.int lu), .val (.int lr), .val (.int ua), .val (.int ub), .val (.int rc), .val (.int rd), .val (.ref vv), .val (.int lr), .val (.int rc), .val (.int rd), .val (.ref us), .val (.ref rq), .val (.int (0 : Int32)), .val (.int (1 : Int32)), .unset] [(.int li), (.ref rq), (.ref us), (.ref vv)])) rfl (by rw [hml]; rfl) (Steps.refl _) (argsL := [(.ref us), (.ref rq), (.int li)]) (rest := []) (lenOf pd_213 rfl) rfl (by show 2 * 0 + _ ≤ _; exact Nat.le_of_eq rfl) (hb hby at_285) (fun _ _ => ⟨rfl, rfl, (by decide : 12 + 0 ≤ _), (by decide : 24 + 0 ≤ _)⟩)
                dsimp only [Pt.U, Pt.locs, Pt.cells, Pt.slots] at X83 l83 y83 z83 st83 hQ83
                subst l83 y83 z83
                obtain ⟨rr, rfl, N83q, e83, Q83_0⟩ := hQ83
                have N83 := Fr.app N66 N83q
                refine Go.to st83 ?_
                show Go _ _ _ _ T83 (mkF m 288 #[.val (.int p0), .val (.int p1), .val (.int p2), .val (.int (0 : Int32)), .val (.int li), .val (.int md), .val (.int lu), .val (.int lr), .val (.int ua), .val (.int ub), .val (.int rc), .val (.int rd), .val (.ref vv), .val (.int lr), .val (.int rc), .val (.int rd), .val (.ref us), .val (.ref rq), .val (.int (0 : Int32)), .val (.int (1 : Int32)), .unset] [(.int rr)])
                refine Go.by (fun _ gk => XS.istore X83.here hx rfl (hb hby at_288) rfl (l' := #[.val (.int p0), .val (.int p1), .val (.int p2), .val (.int (0 : Int32)), .val (.int li), .val (.int md), .val (.int lu), .val (.int lr), .val (.int ua), .val (.int ub), .val (.int rc), .val (.int rd), .val (.ref vv), .val (.int lr), .val (.int rc), .val (.int rd), .val (.ref us), .val (.ref rq), .val (.int (0 : Int32)), .val (.int (1 : Int32)), .val (.int rr)]) rfl gk) ?_
                show Go _ _ _ _ T83 (mkF m 290 #[.val (.int p0), .val (.int p1), .val (.int p2), .val (.int (0 : Int32)), .val (.int li), .val (.int md), .val (.int lu), .val (.int lr), .val (.int ua), .val (.int ub), .val (.int rc), .val (.int rd), .val (.ref vv), .val (.int lr), .val (.int rc), .val (.int rd), .val (.ref us), .val (.ref rq), .val (.int (0 : Int32)), .val (.int (1 : Int32)), .val (.int rr)] [])
                refine Go.by (fun _ gk => XS.iload X83.here hx rfl (hb hby at_290) rfl gk) ?_
                show Go _ _ _ _ T83 (mkF m 292 #[.val (.int p0), .val (.int p1), .val (.int p2), .val (.int (0 : Int32)), .val (.int li), .val (.int md), .val (.int lu), .val (.int lr), .val (.int ua), .val (.int ub), .val (.int rc), .val (.int rd), .val (.ref vv), .val (.int lr), .val (.int rc), .val (.int rd), .val (.ref us), .val (.ref rq), .val (.int (0 : Int32)), .val (.int (1 : Int32)), .val (.int rr)] [(.int rr)])
                refine Go.by (fun _ gk => XS.iload X83.here hx rfl (hb hby at_292) rfl gk) ?_
                show Go _ _ _ _ T83 (mkF m 294 #[.val (.int p0), .val (.int p1), .val (.int p2), .val (.int (0 : Int32)), .val (.int li), .val (.int md), .val (.int lu), .val (.int lr), .val (.int ua), .val (.int ub), .val (.int rc), .val (.int rd), .val (.ref vv), .val (.int lr), .val (.int rc), .val (.int rd), .val (.ref us), .val (.ref rq), .val (.int (0 : Int32)), .val (.int (1 : Int32)), .val (.int rr)] [(.int (1 : Int32)), (.int rr)])
                obtain rfl : rr = (1 : Int32) := by
                  rcases Q83_0 with ⟨q, -⟩ | ⟨-, q⟩
                  · exact absurd ((own_same_iff hlu q_rc q_rd q_ua q_ub).mp q) hE
                  · simpa using q
                show Go _ _ _ _ T83 (mkF m 294 #[.val (.int p0), .val (.int p1), .val (.int p2), .val (.int (0 : Int32)), .val (.int li), .val (.int md), .val (.int lu), .val (.int lr), .val (.int ua), .val (.int ub), .val (.int rc), .val (.int rd), .val (.ref vv), .val (.int lr), .val (.int rc), .val (.int rd), .val (.ref us), .val (.ref rq), .val (.int (0 : Int32)), .val (.int (1 : Int32)), .val (.int (1 : Int32))] [(.int (1 : Int32)), (.int (1 : Int32))])
                refine Go.by (fun _ gk => XS.icmpNo X83.here hx rfl (hb hby at_294) rfl (XT.ii_ne_f rfl) gk) ?_
                show Go _ _ _ _ T83 (mkF m 297 #[.val (.int p0), .val (.int p1), .val (.int p2), .val (.int (0 : Int32)), .val (.int li), .val (.int md), .val (.int lu), .val (.int lr), .val (.int ua), .val (.int ub), .val (.int rc), .val (.int rd), .val (.ref vv), .val (.int lr), .val (.int rc), .val (.int rd), .val (.ref us), .val (.ref rq), .val (.int (0 : Int32)), .val (.int (1 : Int32)), .val (.int (1 : Int32))] [])
                refine Go.by (fun _ gk => XT.iconstV X83.here hx rfl (1 : Int32) (hb hby at_297) (by decide) gk) ?_
                show Go _ _ _ _ T83 (mkF m 298 #[.val (.int p0), .val (.int p1), .val (.int p2), .val (.int (0 : Int32)), .val (.int li), .val (.int md), .val (.int lu), .val (.int lr), .val (.int ua), .val (.int ub), .val (.int rc), .val (.int rd), .val (.ref vv), .val (.int lr), .val (.int rc), .val (.int rd), .val (.ref us), .val (.ref rq), .val (.int (0 : Int32)), .val (.int (1 : Int32)), .val (.int (1 : Int32))] [(.int (1 : Int32))])
                refine Go.by (fun _ gk => XS.goto X83.here hx rfl (pc0 := 298) (pc' := 302) rfl (hb hby at_298) (by decide) (by decide) gk) ?_
                show Go _ _ _ _ T83 (mkF m 302 #[.val (.int p0), .val (.int p1), .val (.int p2), .val (.int (0 : Int32)), .val (.int li), .val (.int md), .val (.int lu), .val (.int lr), .val (.int ua), .val (.int ub), .val (.int rc), .val (.int rd), .val (.ref vv), .val (.int lr), .val (.int rc), .val (.int rd), .val (.ref us), .val (.ref rq), .val (.int (0 : Int32)), .val (.int (1 : Int32)), .val (.int (1 : Int32))] [(.int (1 : Int32))])
                exact Go.retIW X83 hx Bd.notSynchronized hS66 (by rw [e83]; exact (Nat.le_refl T66.heap.size)) hZ66 hEL (by rw [hh, e83]; exact C67) Bd.returns rfl (by simp) (hb hby at_302) (by rw [e83]; exact ⟨rfl, N83⟩) (by decide) (by decide)
              · show Go _ _ _ _ T66 (mkF m 253 #[.val (.int p0), .val (.int p1), .val (.int p2), .val (.int (1 : Int32)), .val (.int li), .val (.int md), .val (.int lu), .val (.int lr), .val (.int ua), .val (.int ub), .val (.int rc), .val (.int rd), .val (.ref vv), .val (.int lr), .val (.int rc), .val (.int rd), .val (.ref us), .val (.ref rq), .val (.int (0 : Int32)), .unset, .unset] [(.int (1 : Int32))])
                refine Go.by (fun _ gk => XS.ifYes X66.here hx rfl (pc0 := 253) (pc' := 262) rfl (hb hby at_253) rfl (XT.i0_ne_t (by decide)) (by decide) (by decide) gk) ?_
                show Go _ _ _ _ T66 (mkF m 262 #[.val (.int p0), .val (.int p1), .val (.int p2), .val (.int (1 : Int32)), .val (.int li), .val (.int md), .val (.int lu), .val (.int lr), .val (.int ua), .val (.int ub), .val (.int rc), .val (.int rd), .val (.ref vv), .val (.int lr), .val (.int rc), .val (.int rd), .val (.ref us), .val (.ref rq), .val (.int (0 : Int32)), .unset, .unset] [])
                refine Go.by (fun _ gk => XS.iloadN X66.here hx rfl (hb hby at_262) rfl gk) ?_
                show Go _ _ _ _ T66 (mkF m 263 #[.val (.int p0), .val (.int p1), .val (.int p2), .val (.int (1 : Int32)), .val (.int li), .val (.int md), .val (.int lu), .val (.int lr), .val (.int ua), .val (.int ub), .val (.int rc), .val (.int rd), .val (.ref vv), .val (.int lr), .val (.int rc), .val (.int rd), .val (.ref us), .val (.ref rq), .val (.int (0 : Int32)), .unset, .unset] [(.int (1 : Int32))])
                refine Go.by (fun _ gk => XT.iconstV X66.here hx rfl (1 : Int32) (hb hby at_263) (by decide) gk) ?_
                show Go _ _ _ _ T66 (mkF m 264 #[.val (.int p0), .val (.int p1), .val (.int p2), .val (.int (1 : Int32)), .val (.int li), .val (.int md), .val (.int lu), .val (.int lr), .val (.int ua), .val (.int ub), .val (.int rc), .val (.int rd), .val (.ref vv), .val (.int lr), .val (.int rc), .val (.int rd), .val (.ref us), .val (.ref rq), .val (.int (0 : Int32)), .unset, .unset] [(.int (1 : Int32)), (.int (1 : Int32))])
                refine Go.by (fun _ gk => XS.icmpNo X66.here hx rfl (hb hby at_264) rfl (XT.ii_ne_f rfl) gk) ?_
                show Go _ _ _ _ T66 (mkF m 267 #[.val (.int p0), .val (.int p1), .val (.int p2), .val (.int (1 : Int32)), .val (.int li), .val (.int md), .val (.int lu), .val (.int lr), .val (.int ua), .val (.int ub), .val (.int rc), .val (.int rd), .val (.ref vv), .val (.int lr), .val (.int rc), .val (.int rd), .val (.ref us), .val (.ref rq), .val (.int (0 : Int32)), .unset, .unset] [])
                refine Go.by (fun _ gk => XS.iload X66.here hx rfl (hb hby at_267) rfl gk) ?_
                show Go _ _ _ _ T66 (mkF m 269 #[.val (.int p0), .val (.int p1), .val (.int p2), .val (.int (1 : Int32)), .val (.int li), .val (.int md), .val (.int lu), .val (.int lr), .val (.int ua), .val (.int ub), .val (.int rc), .val (.int rd), .val (.ref vv), .val (.int lr), .val (.int rc), .val (.int rd), .val (.ref us), .val (.ref rq), .val (.int (0 : Int32)), .unset, .unset] [(.int li)])
                refine Go.by (fun _ gk => XS.istore X66.here hx rfl (hb hby at_269) rfl (l' := #[.val (.int p0), .val (.int p1), .val (.int p2), .val (.int (1 : Int32)), .val (.int li), .val (.int md), .val (.int lu), .val (.int lr), .val (.int ua), .val (.int ub), .val (.int rc), .val (.int rd), .val (.ref vv), .val (.int lr), .val (.int rc), .val (.int rd), .val (.ref us), .val (.ref rq), .val (.int (0 : Int32)), .val (.int li), .unset]) rfl gk) ?_
                show Go _ _ _ _ T66 (mkF m 271 #[.val (.int p0), .val (.int p1), .val (.int p2), .val (.int (1 : Int32)), .val (.int li), .val (.int md), .val (.int lu), .val (.int lr), .val (.int ua), .val (.int ub), .val (.int rc), .val (.int rd), .val (.ref vv), .val (.int lr), .val (.int rc), .val (.int rd), .val (.ref us), .val (.ref rq), .val (.int (0 : Int32)), .val (.int li), .unset] [])
                refine Go.by (fun _ gk => XS.goto X66.here hx rfl (pc0 := 271) (pc' := 277) rfl (hb hby at_271) (by decide) (by decide) gk) ?_
                show Go _ _ _ _ T66 (mkF m 277 #[.val (.int p0), .val (.int p1), .val (.int p2), .val (.int (1 : Int32)), .val (.int li), .val (.int md), .val (.int lu), .val (.int lr), .val (.int ua), .val (.int ub), .val (.int rc), .val (.int rd), .val (.ref vv), .val (.int lr), .val (.int rc), .val (.int rd), .val (.ref us), .val (.ref rq), .val (.int (0 : Int32)), .val (.int li), .unset] [])
                refine Go.by (fun _ gk => XS.aload X66.here hx rfl (hb hby at_277) rfl rfl gk) ?_
                show Go _ _ _ _ T66 (mkF m 279 #[.val (.int p0), .val (.int p1), .val (.int p2), .val (.int (1 : Int32)), .val (.int li), .val (.int md), .val (.int lu), .val (.int lr), .val (.int ua), .val (.int ub), .val (.int rc), .val (.int rd), .val (.ref vv), .val (.int lr), .val (.int rc), .val (.int rd), .val (.ref us), .val (.ref rq), .val (.int (0 : Int32)), .val (.int li), .unset] [(.ref vv)])
                refine Go.by (fun _ gk => XS.aload X66.here hx rfl (hb hby at_279) rfl rfl gk) ?_
                show Go _ _ _ _ T66 (mkF m 281 #[.val (.int p0), .val (.int p1), .val (.int p2), .val (.int (1 : Int32)), .val (.int li), .val (.int md), .val (.int lu), .val (.int lr), .val (.int ua), .val (.int ub), .val (.int rc), .val (.int rd), .val (.ref vv), .val (.int lr), .val (.int rc), .val (.int rd), .val (.ref us), .val (.ref rq), .val (.int (0 : Int32)), .val (.int li), .unset] [(.ref us), (.ref vv)])
                refine Go.by (fun _ gk => XS.aload X66.here hx rfl (hb hby at_281) rfl rfl gk) ?_
                show Go _ _ _ _ T66 (mkF m 283 #[.val (.int p0), .val (.int p1), .val (.int p2), .val (.int (1 : Int32)), .val (.int li), .val (.int md), .val (.int lu), .val (.int lr), .val (.int ua), .val (.int ub), .val (.int rc), .val (.int rd), .val (.ref vv), .val (.int lr), .val (.int rc), .val (.int rd), .val (.ref us), .val (.ref rq), .val (.int (0 : Int32)), .val (.int li), .unset] [(.ref rq), (.ref us), (.ref vv)])
                refine Go.by (fun _ gk => XS.iload X66.here hx rfl (hb hby at_283) rfl gk) ?_
                show Go _ _ _ _ T66 (mkF m 285 #[.val (.int p0), .val (.int p1), .val (.int p2), .val (.int (1 : Int32)), .val (.int li), .val (.int md), .val (.int lu), .val (.int lr), .val (.int ua), .val (.int ub), .val (.int rc), .val (.int rd), .val (.ref vv), .val (.int lr), .val (.int rc), .val (.int rd), .val (.ref us), .val (.ref rq), .val (.int (0 : Int32)), .val (.int li), .unset] [(.int li), (.ref rq), (.ref us), (.ref vv)])
                have F85 : Old Z n0 T66.heap := F63.keep K66 all0
                have F86 : Exa Z T66.heap us "java/lang/String" := Q61_0.keep K66
                have F87 : Fld Z T66.heap us "java/lang/String" "coder" "B" (.int (0 : Int32)) := Q61_1.keep K66 nin0
                have F88 : Fld Z T66.heap us "java/lang/String" "value" "[B" (.ref usb) := Q61_2.keep K66 nin0
                have F89 : Arv Z T66.heap usb kus .byte lu (own_str lu ua ub) (.int (0 : Int32)) := Q61_3.keep K66 nin0
                have F90 : n0 ≤ T66.heap.size := Nat.le_trans F64 K66.1
                have F92 : Exa Z T66.heap vv "com/example/muster/muster/model/Visibility" := E_vv.ext F85.2
                obtain ⟨cq91, kq91, q91a, q91b, q91c⟩ := isOf hZ66 rfl F92
                obtain ⟨_, _, ⟨T91, L91, k91, n91⟩, -, X91, ⟨Lc91, hQ91, l91, y91, z91⟩, st91⟩ := X66.virtualBack hx (y := (⟨"com/example/muster/muster/model/Visibility", "shows", "(Ljava/lang/String;Ljava/lang/String;Z)Z"⟩ : MethodName)) (z := (⟨"com/example/muster/muster/model/Visibility", "shows", "(Ljava/lang/String;Ljava/lang/String;Z)Z"⟩ : MethodName)) hown66 (mvT hZ66 (hw _ (List.mem_of_getElem? (i := 29) rfl))) (mvT hZ66 (hw _ (List.mem_of_getElem? (i := 30) rfl))) (notFace_of_selects (args := #[]) (mvT hZ66 (hw _ (List.mem_of_getElem? (i := 32) rfl)))) (mvT hZ66 (hw _ (List.mem_of_getElem? (i := 32) rfl))) (mvT hZ66 (hw _ (List.mem_of_getElem? (i := 31) rfl))) (by decide) (backOf (W := 0) (rmShows l Z a0 hw [] vv us rq li (1 : Int32) usb rqb kus krq lr rc rd lu ua ub c_EVERYONE c_CONTACTS c_NOBODY cs T66.heap n0 F90 F85 Q66_0 Q66_1 Q66_2 Q66_3 F86 F87 F88 F89 hlr hlu (Ne.symm ne_us_rq) h_vv h_li S_c_EVERYONE E_c_EVERYONE O_c_EVERYONE S_c_CONTACTS E_c_CONTACTS O_c_CONTACTS S_c_NOBODY E_c_NOBODY O_c_NOBODY S_cs n_cs) hZ66 (hw _ (List.mem_of_getElem? (i := 33) rfl)) (hw _ (List.mem_of_getElem? (i := 1) rfl)) (by decide) (by decide)) q91a q91c (g := (mkF m 285 #[.val (.int p0), .val (.int p1), .val (.int p2), .val (.int (1 : Int32)), .val (.int li), .val (.int md), .val (.int lu), .val (.int lr), .val (.int ua), .val (.int ub), .val (.int rc), .val (.int rd), .val (.ref vv), .val (.int lr), .val (.int rc), .val (.int rd), .val (.ref us), .val (.ref rq), .val (.int (0 : Int32)), .val (.int li), .unset] [(.int li), (.ref rq), (.ref us), (.ref vv)])) rfl (by rw [hml]; rfl) (Steps.refl _) (argsL := [(.ref us), (.ref rq), (.int li)]) (rest := []) (lenOf pd_213 rfl) rfl (by show 2 * 0 + _ ≤ _; exact Nat.le_of_eq rfl) (hb hby at_285) (fun _ _ => ⟨rfl, rfl, (by decide : 12 + 0 ≤ _), (by decide : 24 + 0 ≤ _)⟩)
                dsimp only [Pt.U, Pt.locs, Pt.cells, Pt.slots] at X91 l91 y91 z91 st91 hQ91
                subst l91 y91 z91
                obtain ⟨rr, rfl, N91q, e91, Q91_0⟩ := hQ91
                have N91 := Fr.app N66 N91q
                refine Go.to st91 ?_
                show Go _ _ _ _ T91 (mkF m 288 #[.val (.int p0), .val (.int p1), .val (.int p2), .val (.int (1 : Int32)), .val (.int li), .val (.int md), .val (.int lu), .val (.int lr), .val (.int ua), .val (.int ub), .val (.int rc), .val (.int rd), .val (.ref vv), .val (.int lr), .val (.int rc), .val (.int rd), .val (.ref us), .val (.ref rq), .val (.int (0 : Int32)), .val (.int li), .unset] [(.int rr)])
                refine Go.by (fun _ gk => XS.istore X91.here hx rfl (hb hby at_288) rfl (l' := #[.val (.int p0), .val (.int p1), .val (.int p2), .val (.int (1 : Int32)), .val (.int li), .val (.int md), .val (.int lu), .val (.int lr), .val (.int ua), .val (.int ub), .val (.int rc), .val (.int rd), .val (.ref vv), .val (.int lr), .val (.int rc), .val (.int rd), .val (.ref us), .val (.ref rq), .val (.int (0 : Int32)), .val (.int li), .val (.int rr)]) rfl gk) ?_
                show Go _ _ _ _ T91 (mkF m 290 #[.val (.int p0), .val (.int p1), .val (.int p2), .val (.int (1 : Int32)), .val (.int li), .val (.int md), .val (.int lu), .val (.int lr), .val (.int ua), .val (.int ub), .val (.int rc), .val (.int rd), .val (.ref vv), .val (.int lr), .val (.int rc), .val (.int rd), .val (.ref us), .val (.ref rq), .val (.int (0 : Int32)), .val (.int li), .val (.int rr)] [])
                refine Go.by (fun _ gk => XS.iload X91.here hx rfl (hb hby at_290) rfl gk) ?_
                show Go _ _ _ _ T91 (mkF m 292 #[.val (.int p0), .val (.int p1), .val (.int p2), .val (.int (1 : Int32)), .val (.int li), .val (.int md), .val (.int lu), .val (.int lr), .val (.int ua), .val (.int ub), .val (.int rc), .val (.int rd), .val (.ref vv), .val (.int lr), .val (.int rc), .val (.int rd), .val (.ref us), .val (.ref rq), .val (.int (0 : Int32)), .val (.int li), .val (.int rr)] [(.int rr)])
                refine Go.by (fun _ gk => XS.iload X91.here hx rfl (hb hby at_292) rfl gk) ?_
                show Go _ _ _ _ T91 (mkF m 294 #[.val (.int p0), .val (.int p1), .val (.int p2), .val (.int (1 : Int32)), .val (.int li), .val (.int md), .val (.int lu), .val (.int lr), .val (.int ua), .val (.int ub), .val (.int rc), .val (.int rd), .val (.ref vv), .val (.int lr), .val (.int rc), .val (.int rd), .val (.ref us), .val (.ref rq), .val (.int (0 : Int32)), .val (.int li), .val (.int rr)] [(.int li), (.int rr)])
                obtain rfl : li = rr := by
                  rcases Q91_0 with ⟨q, -⟩ | ⟨-, q⟩
                  · exact absurd ((own_same_iff hlu q_rc q_rd q_ua q_ub).mp q) hE
                  · exact (by simpa using q : rr = li).symm
                show Go _ _ _ _ T91 (mkF m 294 #[.val (.int p0), .val (.int p1), .val (.int p2), .val (.int (1 : Int32)), .val (.int li), .val (.int md), .val (.int lu), .val (.int lr), .val (.int ua), .val (.int ub), .val (.int rc), .val (.int rd), .val (.ref vv), .val (.int lr), .val (.int rc), .val (.int rd), .val (.ref us), .val (.ref rq), .val (.int (0 : Int32)), .val (.int li), .val (.int li)] [(.int li), (.int li)])
                refine Go.by (fun _ gk => XS.icmpNo X91.here hx rfl (hb hby at_294) rfl (XT.ii_ne_f rfl) gk) ?_
                show Go _ _ _ _ T91 (mkF m 297 #[.val (.int p0), .val (.int p1), .val (.int p2), .val (.int (1 : Int32)), .val (.int li), .val (.int md), .val (.int lu), .val (.int lr), .val (.int ua), .val (.int ub), .val (.int rc), .val (.int rd), .val (.ref vv), .val (.int lr), .val (.int rc), .val (.int rd), .val (.ref us), .val (.ref rq), .val (.int (0 : Int32)), .val (.int li), .val (.int li)] [])
                refine Go.by (fun _ gk => XT.iconstV X91.here hx rfl (1 : Int32) (hb hby at_297) (by decide) gk) ?_
                show Go _ _ _ _ T91 (mkF m 298 #[.val (.int p0), .val (.int p1), .val (.int p2), .val (.int (1 : Int32)), .val (.int li), .val (.int md), .val (.int lu), .val (.int lr), .val (.int ua), .val (.int ub), .val (.int rc), .val (.int rd), .val (.ref vv), .val (.int lr), .val (.int rc), .val (.int rd), .val (.ref us), .val (.ref rq), .val (.int (0 : Int32)), .val (.int li), .val (.int li)] [(.int (1 : Int32))])
                refine Go.by (fun _ gk => XS.goto X91.here hx rfl (pc0 := 298) (pc' := 302) rfl (hb hby at_298) (by decide) (by decide) gk) ?_
                show Go _ _ _ _ T91 (mkF m 302 #[.val (.int p0), .val (.int p1), .val (.int p2), .val (.int (1 : Int32)), .val (.int li), .val (.int md), .val (.int lu), .val (.int lr), .val (.int ua), .val (.int ub), .val (.int rc), .val (.int rd), .val (.ref vv), .val (.int lr), .val (.int rc), .val (.int rd), .val (.ref us), .val (.ref rq), .val (.int (0 : Int32)), .val (.int li), .val (.int li)] [(.int (1 : Int32))])
                exact Go.retIW X91 hx Bd.notSynchronized hS66 (by rw [e91]; exact (Nat.le_refl T66.heap.size)) hZ66 hEL (by rw [hh, e91]; exact C67) Bd.returns rfl (by simp) (hb hby at_302) (by rw [e91]; exact ⟨rfl, N91⟩) (by decide) (by decide)
              · show Go _ _ _ _ T66 (mkF m 253 #[.val (.int p0), .val (.int p1), .val (.int p2), .val (.int (2 : Int32)), .val (.int li), .val (.int md), .val (.int lu), .val (.int lr), .val (.int ua), .val (.int ub), .val (.int rc), .val (.int rd), .val (.ref vv), .val (.int lr), .val (.int rc), .val (.int rd), .val (.ref us), .val (.ref rq), .val (.int (0 : Int32)), .unset, .unset] [(.int (2 : Int32))])
                refine Go.by (fun _ gk => XS.ifYes X66.here hx rfl (pc0 := 253) (pc' := 262) rfl (hb hby at_253) rfl (XT.i0_ne_t (by decide)) (by decide) (by decide) gk) ?_
                show Go _ _ _ _ T66 (mkF m 262 #[.val (.int p0), .val (.int p1), .val (.int p2), .val (.int (2 : Int32)), .val (.int li), .val (.int md), .val (.int lu), .val (.int lr), .val (.int ua), .val (.int ub), .val (.int rc), .val (.int rd), .val (.ref vv), .val (.int lr), .val (.int rc), .val (.int rd), .val (.ref us), .val (.ref rq), .val (.int (0 : Int32)), .unset, .unset] [])
                refine Go.by (fun _ gk => XS.iloadN X66.here hx rfl (hb hby at_262) rfl gk) ?_
                show Go _ _ _ _ T66 (mkF m 263 #[.val (.int p0), .val (.int p1), .val (.int p2), .val (.int (2 : Int32)), .val (.int li), .val (.int md), .val (.int lu), .val (.int lr), .val (.int ua), .val (.int ub), .val (.int rc), .val (.int rd), .val (.ref vv), .val (.int lr), .val (.int rc), .val (.int rd), .val (.ref us), .val (.ref rq), .val (.int (0 : Int32)), .unset, .unset] [(.int (2 : Int32))])
                refine Go.by (fun _ gk => XT.iconstV X66.here hx rfl (1 : Int32) (hb hby at_263) (by decide) gk) ?_
                show Go _ _ _ _ T66 (mkF m 264 #[.val (.int p0), .val (.int p1), .val (.int p2), .val (.int (2 : Int32)), .val (.int li), .val (.int md), .val (.int lu), .val (.int lr), .val (.int ua), .val (.int ub), .val (.int rc), .val (.int rd), .val (.ref vv), .val (.int lr), .val (.int rc), .val (.int rd), .val (.ref us), .val (.ref rq), .val (.int (0 : Int32)), .unset, .unset] [(.int (1 : Int32)), (.int (2 : Int32))])
                refine Go.by (fun _ gk => XS.icmpYes X66.here hx rfl (pc0 := 264) (pc' := 274) rfl (hb hby at_264) rfl (XT.ii_ne_t (by decide)) (by decide) (by decide) gk) ?_
                show Go _ _ _ _ T66 (mkF m 274 #[.val (.int p0), .val (.int p1), .val (.int p2), .val (.int (2 : Int32)), .val (.int li), .val (.int md), .val (.int lu), .val (.int lr), .val (.int ua), .val (.int ub), .val (.int rc), .val (.int rd), .val (.ref vv), .val (.int lr), .val (.int rc), .val (.int rd), .val (.ref us), .val (.ref rq), .val (.int (0 : Int32)), .unset, .unset] [])
                refine Go.by (fun _ gk => XT.iconstV X66.here hx rfl (0 : Int32) (hb hby at_274) (by decide) gk) ?_
                show Go _ _ _ _ T66 (mkF m 275 #[.val (.int p0), .val (.int p1), .val (.int p2), .val (.int (2 : Int32)), .val (.int li), .val (.int md), .val (.int lu), .val (.int lr), .val (.int ua), .val (.int ub), .val (.int rc), .val (.int rd), .val (.ref vv), .val (.int lr), .val (.int rc), .val (.int rd), .val (.ref us), .val (.ref rq), .val (.int (0 : Int32)), .unset, .unset] [(.int (0 : Int32))])
                refine Go.by (fun _ gk => XS.istore X66.here hx rfl (hb hby at_275) rfl (l' := #[.val (.int p0), .val (.int p1), .val (.int p2), .val (.int (2 : Int32)), .val (.int li), .val (.int md), .val (.int lu), .val (.int lr), .val (.int ua), .val (.int ub), .val (.int rc), .val (.int rd), .val (.ref vv), .val (.int lr), .val (.int rc), .val (.int rd), .val (.ref us), .val (.ref rq), .val (.int (0 : Int32)), .val (.int (0 : Int32)), .unset]) rfl gk) ?_
                show Go _ _ _ _ T66 (mkF m 277 #[.val (.int p0), .val (.int p1), .val (.int p2), .val (.int (2 : Int32)), .val (.int li), .val (.int md), .val (.int lu), .val (.int lr), .val (.int ua), .val (.int ub), .val (.int rc), .val (.int rd), .val (.ref vv), .val (.int lr), .val (.int rc), .val (.int rd), .val (.ref us), .val (.ref rq), .val (.int (0 : Int32)), .val (.int (0 : Int32)), .unset] [])
                refine Go.by (fun _ gk => XS.aload X66.here hx rfl (hb hby at_277) rfl rfl gk) ?_
                show Go _ _ _ _ T66 (mkF m 279 #[.val (.int p0), .val (.int p1), .val (.int p2), .val (.int (2 : Int32)), .val (.int li), .val (.int md), .val (.int lu), .val (.int lr), .val (.int ua), .val (.int ub), .val (.int rc), .val (.int rd), .val (.ref vv), .val (.int lr), .val (.int rc), .val (.int rd), .val (.ref us), .val (.ref rq), .val (.int (0 : Int32)), .val (.int (0 : Int32)), .unset] [(.ref vv)])
                refine Go.by (fun _ gk => XS.aload X66.here hx rfl (hb hby at_279) rfl rfl gk) ?_
                show Go _ _ _ _ T66 (mkF m 281 #[.val (.int p0), .val (.int p1), .val (.int p2), .val (.int (2 : Int32)), .val (.int li), .val (.int md), .val (.int lu), .val (.int lr), .val (.int ua), .val (.int ub), .val (.int rc), .val (.int rd), .val (.ref vv), .val (.int lr), .val (.int rc), .val (.int rd), .val (.ref us), .val (.ref rq), .val (.int (0 : Int32)), .val (.int (0 : Int32)), .unset] [(.ref us), (.ref vv)])
                refine Go.by (fun _ gk => XS.aload X66.here hx rfl (hb hby at_281) rfl rfl gk) ?_
                show Go _ _ _ _ T66 (mkF m 283 #[.val (.int p0), .val (.int p1), .val (.int p2), .val (.int (2 : Int32)), .val (.int li), .val (.int md), .val (.int lu), .val (.int lr), .val (.int ua), .val (.int ub), .val (.int rc), .val (.int rd), .val (.ref vv), .val (.int lr), .val (.int rc), .val (.int rd), .val (.ref us), .val (.ref rq), .val (.int (0 : Int32)), .val (.int (0 : Int32)), .unset] [(.ref rq), (.ref us), (.ref vv)])
                refine Go.by (fun _ gk => XS.iload X66.here hx rfl (hb hby at_283) rfl gk) ?_
                show Go _ _ _ _ T66 (mkF m 285 #[.val (.int p0), .val (.int p1), .val (.int p2), .val (.int (2 : Int32)), .val (.int li), .val (.int md), .val (.int lu), .val (.int lr), .val (.int ua), .val (.int ub), .val (.int rc), .val (.int rd), .val (.ref vv), .val (.int lr), .val (.int rc), .val (.int rd), .val (.ref us), .val (.ref rq), .val (.int (0 : Int32)), .val (.int (0 : Int32)), .unset] [(.int li), (.ref rq), (.ref us), (.ref vv)])
                have F93 : Old Z n0 T66.heap := F63.keep K66 all0
                have F94 : Exa Z T66.heap us "java/lang/String" := Q61_0.keep K66
                have F95 : Fld Z T66.heap us "java/lang/String" "coder" "B" (.int (0 : Int32)) := Q61_1.keep K66 nin0
                have F96 : Fld Z T66.heap us "java/lang/String" "value" "[B" (.ref usb) := Q61_2.keep K66 nin0
                have F97 : Arv Z T66.heap usb kus .byte lu (own_str lu ua ub) (.int (0 : Int32)) := Q61_3.keep K66 nin0
                have F98 : n0 ≤ T66.heap.size := Nat.le_trans F64 K66.1
                have F100 : Exa Z T66.heap vv "com/example/muster/muster/model/Visibility" := E_vv.ext F93.2
                obtain ⟨cq99, kq99, q99a, q99b, q99c⟩ := isOf hZ66 rfl F100
                obtain ⟨_, _, ⟨T99, L99, k99, n99⟩, -, X99, ⟨Lc99, hQ99, l99, y99, z99⟩, st99⟩ := X66.virtualBack hx (y := (⟨"com/example/muster/muster/model/Visibility", "shows", "(Ljava/lang/String;Ljava/lang/String;Z)Z"⟩ : MethodName)) (z := (⟨"com/example/muster/muster/model/Visibility", "shows", "(Ljava/lang/String;Ljava/lang/String;Z)Z"⟩ : MethodName)) hown66 (mvT hZ66 (hw _ (List.mem_of_getElem? (i := 29) rfl))) (mvT hZ66 (hw _ (List.mem_of_getElem? (i := 30) rfl))) (notFace_of_selects (args := #[]) (mvT hZ66 (hw _ (List.mem_of_getElem? (i := 32) rfl)))) (mvT hZ66 (hw _ (List.mem_of_getElem? (i := 32) rfl))) (mvT hZ66 (hw _ (List.mem_of_getElem? (i := 31) rfl))) (by decide) (backOf (W := 0) (rmShows l Z a0 hw [] vv us rq li (2 : Int32) usb rqb kus krq lr rc rd lu ua ub c_EVERYONE c_CONTACTS c_NOBODY cs T66.heap n0 F98 F93 Q66_0 Q66_1 Q66_2 Q66_3 F94 F95 F96 F97 hlr hlu (Ne.symm ne_us_rq) h_vv h_li S_c_EVERYONE E_c_EVERYONE O_c_EVERYONE S_c_CONTACTS E_c_CONTACTS O_c_CONTACTS S_c_NOBODY E_c_NOBODY O_c_NOBODY S_cs n_cs) hZ66 (hw _ (List.mem_of_getElem? (i := 33) rfl)) (hw _ (List.mem_of_getElem? (i := 1) rfl)) (by decide) (by decide)) q99a q99c (g := (mkF m 285 #[.val (.int p0), .val (.int p1), .val (.int p2), .val (.int (2 : Int32)), .val (.int li), .val (.int md), .val (.int lu), .val (.int lr), .val (.int ua), .val (.int ub), .val (.int rc), .val (.int rd), .val (.ref vv), .val (.int lr), .val (.int rc), .val (.int rd), .val (.ref us), .val (.ref rq), .val (.int (0 : Int32)), .val (.int (0 : Int32)), .unset] [(.int li), (.ref rq), (.ref us), (.ref vv)])) rfl (by rw [hml]; rfl) (Steps.refl _) (argsL := [(.ref us), (.ref rq), (.int li)]) (rest := []) (lenOf pd_213 rfl) rfl (by show 2 * 0 + _ ≤ _; exact Nat.le_of_eq rfl) (hb hby at_285) (fun _ _ => ⟨rfl, rfl, (by decide : 12 + 0 ≤ _), (by decide : 24 + 0 ≤ _)⟩)
                dsimp only [Pt.U, Pt.locs, Pt.cells, Pt.slots] at X99 l99 y99 z99 st99 hQ99
                subst l99 y99 z99
                obtain ⟨rr, rfl, N99q, e99, Q99_0⟩ := hQ99
                have N99 := Fr.app N66 N99q
                refine Go.to st99 ?_
                show Go _ _ _ _ T99 (mkF m 288 #[.val (.int p0), .val (.int p1), .val (.int p2), .val (.int (2 : Int32)), .val (.int li), .val (.int md), .val (.int lu), .val (.int lr), .val (.int ua), .val (.int ub), .val (.int rc), .val (.int rd), .val (.ref vv), .val (.int lr), .val (.int rc), .val (.int rd), .val (.ref us), .val (.ref rq), .val (.int (0 : Int32)), .val (.int (0 : Int32)), .unset] [(.int rr)])
                refine Go.by (fun _ gk => XS.istore X99.here hx rfl (hb hby at_288) rfl (l' := #[.val (.int p0), .val (.int p1), .val (.int p2), .val (.int (2 : Int32)), .val (.int li), .val (.int md), .val (.int lu), .val (.int lr), .val (.int ua), .val (.int ub), .val (.int rc), .val (.int rd), .val (.ref vv), .val (.int lr), .val (.int rc), .val (.int rd), .val (.ref us), .val (.ref rq), .val (.int (0 : Int32)), .val (.int (0 : Int32)), .val (.int rr)]) rfl gk) ?_
                show Go _ _ _ _ T99 (mkF m 290 #[.val (.int p0), .val (.int p1), .val (.int p2), .val (.int (2 : Int32)), .val (.int li), .val (.int md), .val (.int lu), .val (.int lr), .val (.int ua), .val (.int ub), .val (.int rc), .val (.int rd), .val (.ref vv), .val (.int lr), .val (.int rc), .val (.int rd), .val (.ref us), .val (.ref rq), .val (.int (0 : Int32)), .val (.int (0 : Int32)), .val (.int rr)] [])
                refine Go.by (fun _ gk => XS.iload X99.here hx rfl (hb hby at_290) rfl gk) ?_
                show Go _ _ _ _ T99 (mkF m 292 #[.val (.int p0), .val (.int p1), .val (.int p2), .val (.int (2 : Int32)), .val (.int li), .val (.int md), .val (.int lu), .val (.int lr), .val (.int ua), .val (.int ub), .val (.int rc), .val (.int rd), .val (.ref vv), .val (.int lr), .val (.int rc), .val (.int rd), .val (.ref us), .val (.ref rq), .val (.int (0 : Int32)), .val (.int (0 : Int32)), .val (.int rr)] [(.int rr)])
                refine Go.by (fun _ gk => XS.iload X99.here hx rfl (hb hby at_292) rfl gk) ?_
                show Go _ _ _ _ T99 (mkF m 294 #[.val (.int p0), .val (.int p1), .val (.int p2), .val (.int (2 : Int32)), .val (.int li), .val (.int md), .val (.int lu), .val (.int lr), .val (.int ua), .val (.int ub), .val (.int rc), .val (.int rd), .val (.ref vv), .val (.int lr), .val (.int rc), .val (.int rd), .val (.ref us), .val (.ref rq), .val (.int (0 : Int32)), .val (.int (0 : Int32)), .val (.int rr)] [(.int (0 : Int32)), (.int rr)])
                obtain rfl : rr = (0 : Int32) := by
                  rcases Q99_0 with ⟨q, -⟩ | ⟨-, q⟩
                  · exact absurd ((own_same_iff hlu q_rc q_rd q_ua q_ub).mp q) hE
                  · simpa using q
                show Go _ _ _ _ T99 (mkF m 294 #[.val (.int p0), .val (.int p1), .val (.int p2), .val (.int (2 : Int32)), .val (.int li), .val (.int md), .val (.int lu), .val (.int lr), .val (.int ua), .val (.int ub), .val (.int rc), .val (.int rd), .val (.ref vv), .val (.int lr), .val (.int rc), .val (.int rd), .val (.ref us), .val (.ref rq), .val (.int (0 : Int32)), .val (.int (0 : Int32)), .val (.int (0 : Int32))] [(.int (0 : Int32)), (.int (0 : Int32))])
                refine Go.by (fun _ gk => XS.icmpNo X99.here hx rfl (hb hby at_294) rfl (XT.ii_ne_f rfl) gk) ?_
                show Go _ _ _ _ T99 (mkF m 297 #[.val (.int p0), .val (.int p1), .val (.int p2), .val (.int (2 : Int32)), .val (.int li), .val (.int md), .val (.int lu), .val (.int lr), .val (.int ua), .val (.int ub), .val (.int rc), .val (.int rd), .val (.ref vv), .val (.int lr), .val (.int rc), .val (.int rd), .val (.ref us), .val (.ref rq), .val (.int (0 : Int32)), .val (.int (0 : Int32)), .val (.int (0 : Int32))] [])
                refine Go.by (fun _ gk => XT.iconstV X99.here hx rfl (1 : Int32) (hb hby at_297) (by decide) gk) ?_
                show Go _ _ _ _ T99 (mkF m 298 #[.val (.int p0), .val (.int p1), .val (.int p2), .val (.int (2 : Int32)), .val (.int li), .val (.int md), .val (.int lu), .val (.int lr), .val (.int ua), .val (.int ub), .val (.int rc), .val (.int rd), .val (.ref vv), .val (.int lr), .val (.int rc), .val (.int rd), .val (.ref us), .val (.ref rq), .val (.int (0 : Int32)), .val (.int (0 : Int32)), .val (.int (0 : Int32))] [(.int (1 : Int32))])
                refine Go.by (fun _ gk => XS.goto X99.here hx rfl (pc0 := 298) (pc' := 302) rfl (hb hby at_298) (by decide) (by decide) gk) ?_
                show Go _ _ _ _ T99 (mkF m 302 #[.val (.int p0), .val (.int p1), .val (.int p2), .val (.int (2 : Int32)), .val (.int li), .val (.int md), .val (.int lu), .val (.int lr), .val (.int ua), .val (.int ub), .val (.int rc), .val (.int rd), .val (.ref vv), .val (.int lr), .val (.int rc), .val (.int rd), .val (.ref us), .val (.ref rq), .val (.int (0 : Int32)), .val (.int (0 : Int32)), .val (.int (0 : Int32))] [(.int (1 : Int32))])
                exact Go.retIW X99 hx Bd.notSynchronized hS66 (by rw [e99]; exact (Nat.le_refl T66.heap.size)) hZ66 hEL (by rw [hh, e99]; exact C67) Bd.returns rfl (by simp) (hb hby at_302) (by rw [e99]; exact ⟨rfl, N99⟩) (by decide) (by decide)
          · intro J68
            show Go _ _ _ _ T66 (mkF m 194 #[.val (.int p0), .val (.int p1), .val (.int p2), .val (.int k), .val (.int li), .val (.int md), .val (.int lu), .val (.int lr), .val (.int ua), .val (.int ub), .val (.int rc), .val (.int rd), .val (.ref vv), .val (.int lr), .val (.int rc), .val (.int rd), .val (.ref us), .val (.ref rq), .unset, .unset, .unset] [(.int lu), (.int lr)])
            by_cases hb101 : lr = lu
            · refine Go.by (fun _ gk => XS.icmpNo X66.here hx rfl (hb hby at_194) rfl (XT.ii_ne_f hb101) gk) ?_
              show Go _ _ _ _ T66 (mkF m 197 #[.val (.int p0), .val (.int p1), .val (.int p2), .val (.int k), .val (.int li), .val (.int md), .val (.int lu), .val (.int lr), .val (.int ua), .val (.int ub), .val (.int rc), .val (.int rd), .val (.ref vv), .val (.int lr), .val (.int rc), .val (.int rd), .val (.ref us), .val (.ref rq), .unset, .unset, .unset] [])
              refine Go.by (fun _ gk => XS.iload X66.here hx rfl (hb hby at_197) rfl gk) ?_
              show Go _ _ _ _ T66 (mkF m 199 #[.val (.int p0), .val (.int p1), .val (.int p2), .val (.int k), .val (.int li), .val (.int md), .val (.int lu), .val (.int lr), .val (.int ua), .val (.int ub), .val (.int rc), .val (.int rd), .val (.ref vv), .val (.int lr), .val (.int rc), .val (.int rd), .val (.ref us), .val (.ref rq), .unset, .unset, .unset] [(.int lu)])
              refine Go.by (fun _ gk => XT.iconstV X66.here hx rfl (1 : Int32) (hb hby at_199) (by decide) gk) ?_
              show Go _ _ _ _ T66 (mkF m 200 #[.val (.int p0), .val (.int p1), .val (.int p2), .val (.int k), .val (.int li), .val (.int md), .val (.int lu), .val (.int lr), .val (.int ua), .val (.int ub), .val (.int rc), .val (.int rd), .val (.ref vv), .val (.int lr), .val (.int rc), .val (.int rd), .val (.ref us), .val (.ref rq), .unset, .unset, .unset] [(.int (1 : Int32)), (.int lu)])
              by_cases hb102 : lu < (1 : Int32)
              · refine Go.by (fun _ gk => XS.icmpYes X66.here hx rfl (pc0 := 200) (pc' := 210) rfl (hb hby at_200) rfl (XT.ii_lt_t hb102) (by decide) (by decide) gk) ?_
                show Go _ _ _ _ T66 (mkF m 210 #[.val (.int p0), .val (.int p1), .val (.int p2), .val (.int k), .val (.int li), .val (.int md), .val (.int lu), .val (.int lr), .val (.int ua), .val (.int ub), .val (.int rc), .val (.int rd), .val (.ref vv), .val (.int lr), .val (.int rc), .val (.int rd), .val (.ref us), .val (.ref rq), .unset, .unset, .unset] [])
                refine Go.by (fun _ gk => XS.iload X66.here hx rfl (hb hby at_210) rfl gk) ?_
                show Go _ _ _ _ T66 (mkF m 212 #[.val (.int p0), .val (.int p1), .val (.int p2), .val (.int k), .val (.int li), .val (.int md), .val (.int lu), .val (.int lr), .val (.int ua), .val (.int ub), .val (.int rc), .val (.int rd), .val (.ref vv), .val (.int lr), .val (.int rc), .val (.int rd), .val (.ref us), .val (.ref rq), .unset, .unset, .unset] [(.int lu)])
                refine Go.by (fun _ gk => XT.iconstV X66.here hx rfl (2 : Int32) (hb hby at_212) (by decide) gk) ?_
                show Go _ _ _ _ T66 (mkF m 213 #[.val (.int p0), .val (.int p1), .val (.int p2), .val (.int k), .val (.int li), .val (.int md), .val (.int lu), .val (.int lr), .val (.int ua), .val (.int ub), .val (.int rc), .val (.int rd), .val (.ref vv), .val (.int lr), .val (.int rc), .val (.int rd), .val (.ref us), .val (.ref rq), .unset, .unset, .unset] [(.int (2 : Int32)), (.int lu)])
                by_cases hb103 : lu < (2 : Int32)
                · refine Go.by (fun _ gk => XS.icmpYes X66.here hx rfl (pc0 := 213) (pc' := 223) rfl (hb hby at_213) rfl (XT.ii_lt_t hb103) (by decide) (by decide) gk) ?_
                  show Go _ _ _ _ T66 (mkF m 223 #[.val (.int p0), .val (.int p1), .val (.int p2), .val (.int k), .val (.int li), .val (.int md), .val (.int lu), .val (.int lr), .val (.int ua), .val (.int ub), .val (.int rc), .val (.int rd), .val (.ref vv), .val (.int lr), .val (.int rc), .val (.int rd), .val (.ref us), .val (.ref rq), .unset, .unset, .unset] [])
                  refine Go.by (fun _ gk => XT.iconstV X66.here hx rfl (1 : Int32) (hb hby at_223) (by decide) gk) ?_
                  show Go _ _ _ _ T66 (mkF m 224 #[.val (.int p0), .val (.int p1), .val (.int p2), .val (.int k), .val (.int li), .val (.int md), .val (.int lu), .val (.int lr), .val (.int ua), .val (.int ub), .val (.int rc), .val (.int rd), .val (.ref vv), .val (.int lr), .val (.int rc), .val (.int rd), .val (.ref us), .val (.ref rq), .unset, .unset, .unset] [(.int (1 : Int32))])
                  refine Go.by (fun _ gk => XS.goto X66.here hx rfl (pc0 := 224) (pc' := 228) rfl (hb hby at_224) (by decide) (by decide) gk) ?_
                  show Go _ _ _ _ T66 (mkF m 228 #[.val (.int p0), .val (.int p1), .val (.int p2), .val (.int k), .val (.int li), .val (.int md), .val (.int lu), .val (.int lr), .val (.int ua), .val (.int ub), .val (.int rc), .val (.int rd), .val (.ref vv), .val (.int lr), .val (.int rc), .val (.int rd), .val (.ref us), .val (.ref rq), .unset, .unset, .unset] [(.int (1 : Int32))])
                  exact J68 _ (Or.inl ⟨rfl, by simp [own_same, hb101, hb102, hb103]⟩)
                · refine Go.by (fun _ gk => XS.icmpNo X66.here hx rfl (hb hby at_213) rfl (XT.ii_lt_f hb103) gk) ?_
                  show Go _ _ _ _ T66 (mkF m 216 #[.val (.int p0), .val (.int p1), .val (.int p2), .val (.int k), .val (.int li), .val (.int md), .val (.int lu), .val (.int lr), .val (.int ua), .val (.int ub), .val (.int rc), .val (.int rd), .val (.ref vv), .val (.int lr), .val (.int rc), .val (.int rd), .val (.ref us), .val (.ref rq), .unset, .unset, .unset] [])
                  refine Go.by (fun _ gk => XS.iload X66.here hx rfl (hb hby at_216) rfl gk) ?_
                  show Go _ _ _ _ T66 (mkF m 218 #[.val (.int p0), .val (.int p1), .val (.int p2), .val (.int k), .val (.int li), .val (.int md), .val (.int lu), .val (.int lr), .val (.int ua), .val (.int ub), .val (.int rc), .val (.int rd), .val (.ref vv), .val (.int lr), .val (.int rc), .val (.int rd), .val (.ref us), .val (.ref rq), .unset, .unset, .unset] [(.int rd)])
                  refine Go.by (fun _ gk => XS.iload X66.here hx rfl (hb hby at_218) rfl gk) ?_
                  show Go _ _ _ _ T66 (mkF m 220 #[.val (.int p0), .val (.int p1), .val (.int p2), .val (.int k), .val (.int li), .val (.int md), .val (.int lu), .val (.int lr), .val (.int ua), .val (.int ub), .val (.int rc), .val (.int rd), .val (.ref vv), .val (.int lr), .val (.int rc), .val (.int rd), .val (.ref us), .val (.ref rq), .unset, .unset, .unset] [(.int ub), (.int rd)])
                  by_cases hb104 : rd = ub
                  · refine Go.by (fun _ gk => XS.icmpNo X66.here hx rfl (hb hby at_220) rfl (XT.ii_ne_f hb104) gk) ?_
                    show Go _ _ _ _ T66 (mkF m 223 #[.val (.int p0), .val (.int p1), .val (.int p2), .val (.int k), .val (.int li), .val (.int md), .val (.int lu), .val (.int lr), .val (.int ua), .val (.int ub), .val (.int rc), .val (.int rd), .val (.ref vv), .val (.int lr), .val (.int rc), .val (.int rd), .val (.ref us), .val (.ref rq), .unset, .unset, .unset] [])
                    refine Go.by (fun _ gk => XT.iconstV X66.here hx rfl (1 : Int32) (hb hby at_223) (by decide) gk) ?_
                    show Go _ _ _ _ T66 (mkF m 224 #[.val (.int p0), .val (.int p1), .val (.int p2), .val (.int k), .val (.int li), .val (.int md), .val (.int lu), .val (.int lr), .val (.int ua), .val (.int ub), .val (.int rc), .val (.int rd), .val (.ref vv), .val (.int lr), .val (.int rc), .val (.int rd), .val (.ref us), .val (.ref rq), .unset, .unset, .unset] [(.int (1 : Int32))])
                    refine Go.by (fun _ gk => XS.goto X66.here hx rfl (pc0 := 224) (pc' := 228) rfl (hb hby at_224) (by decide) (by decide) gk) ?_
                    show Go _ _ _ _ T66 (mkF m 228 #[.val (.int p0), .val (.int p1), .val (.int p2), .val (.int k), .val (.int li), .val (.int md), .val (.int lu), .val (.int lr), .val (.int ua), .val (.int ub), .val (.int rc), .val (.int rd), .val (.ref vv), .val (.int lr), .val (.int rc), .val (.int rd), .val (.ref us), .val (.ref rq), .unset, .unset, .unset] [(.int (1 : Int32))])
                    exact J68 _ (Or.inl ⟨rfl, by simp [own_same, hb101, hb102, hb103, hb104]⟩)
                  · refine Go.by (fun _ gk => XS.icmpYes X66.here hx rfl (pc0 := 220) (pc' := 227) rfl (hb hby at_220) rfl (XT.ii_ne_t hb104) (by decide) (by decide) gk) ?_
                    show Go _ _ _ _ T66 (mkF m 227 #[.val (.int p0), .val (.int p1), .val (.int p2), .val (.int k), .val (.int li), .val (.int md), .val (.int lu), .val (.int lr), .val (.int ua), .val (.int ub), .val (.int rc), .val (.int rd), .val (.ref vv), .val (.int lr), .val (.int rc), .val (.int rd), .val (.ref us), .val (.ref rq), .unset, .unset, .unset] [])
                    refine Go.by (fun _ gk => XT.iconstV X66.here hx rfl (0 : Int32) (hb hby at_227) (by decide) gk) ?_
                    show Go _ _ _ _ T66 (mkF m 228 #[.val (.int p0), .val (.int p1), .val (.int p2), .val (.int k), .val (.int li), .val (.int md), .val (.int lu), .val (.int lr), .val (.int ua), .val (.int ub), .val (.int rc), .val (.int rd), .val (.ref vv), .val (.int lr), .val (.int rc), .val (.int rd), .val (.ref us), .val (.ref rq), .unset, .unset, .unset] [(.int (0 : Int32))])
                    exact J68 _ (Or.inr ⟨rfl, by simp [own_same, hb101, hb102, hb103, hb104]⟩)
              · refine Go.by (fun _ gk => XS.icmpNo X66.here hx rfl (hb hby at_200) rfl (XT.ii_lt_f hb102) gk) ?_
                show Go _ _ _ _ T66 (mkF m 203 #[.val (.int p0), .val (.int p1), .val (.int p2), .val (.int k), .val (.int li), .val (.int md), .val (.int lu), .val (.int lr), .val (.int ua), .val (.int ub), .val (.int rc), .val (.int rd), .val (.ref vv), .val (.int lr), .val (.int rc), .val (.int rd), .val (.ref us), .val (.ref rq), .unset, .unset, .unset] [])
                refine Go.by (fun _ gk => XS.iload X66.here hx rfl (hb hby at_203) rfl gk) ?_
                show Go _ _ _ _ T66 (mkF m 205 #[.val (.int p0), .val (.int p1), .val (.int p2), .val (.int k), .val (.int li), .val (.int md), .val (.int lu), .val (.int lr), .val (.int ua), .val (.int ub), .val (.int rc), .val (.int rd), .val (.ref vv), .val (.int lr), .val (.int rc), .val (.int rd), .val (.ref us), .val (.ref rq), .unset, .unset, .unset] [(.int rc)])
                refine Go.by (fun _ gk => XS.iload X66.here hx rfl (hb hby at_205) rfl gk) ?_
                show Go _ _ _ _ T66 (mkF m 207 #[.val (.int p0), .val (.int p1), .val (.int p2), .val (.int k), .val (.int li), .val (.int md), .val (.int lu), .val (.int lr), .val (.int ua), .val (.int ub), .val (.int rc), .val (.int rd), .val (.ref vv), .val (.int lr), .val (.int rc), .val (.int rd), .val (.ref us), .val (.ref rq), .unset, .unset, .unset] [(.int ua), (.int rc)])
                by_cases hb105 : rc = ua
                · refine Go.by (fun _ gk => XS.icmpNo X66.here hx rfl (hb hby at_207) rfl (XT.ii_ne_f hb105) gk) ?_
                  show Go _ _ _ _ T66 (mkF m 210 #[.val (.int p0), .val (.int p1), .val (.int p2), .val (.int k), .val (.int li), .val (.int md), .val (.int lu), .val (.int lr), .val (.int ua), .val (.int ub), .val (.int rc), .val (.int rd), .val (.ref vv), .val (.int lr), .val (.int rc), .val (.int rd), .val (.ref us), .val (.ref rq), .unset, .unset, .unset] [])
                  refine Go.by (fun _ gk => XS.iload X66.here hx rfl (hb hby at_210) rfl gk) ?_
                  show Go _ _ _ _ T66 (mkF m 212 #[.val (.int p0), .val (.int p1), .val (.int p2), .val (.int k), .val (.int li), .val (.int md), .val (.int lu), .val (.int lr), .val (.int ua), .val (.int ub), .val (.int rc), .val (.int rd), .val (.ref vv), .val (.int lr), .val (.int rc), .val (.int rd), .val (.ref us), .val (.ref rq), .unset, .unset, .unset] [(.int lu)])
                  refine Go.by (fun _ gk => XT.iconstV X66.here hx rfl (2 : Int32) (hb hby at_212) (by decide) gk) ?_
                  show Go _ _ _ _ T66 (mkF m 213 #[.val (.int p0), .val (.int p1), .val (.int p2), .val (.int k), .val (.int li), .val (.int md), .val (.int lu), .val (.int lr), .val (.int ua), .val (.int ub), .val (.int rc), .val (.int rd), .val (.ref vv), .val (.int lr), .val (.int rc), .val (.int rd), .val (.ref us), .val (.ref rq), .unset, .unset, .unset] [(.int (2 : Int32)), (.int lu)])
                  by_cases hb106 : lu < (2 : Int32)
                  · refine Go.by (fun _ gk => XS.icmpYes X66.here hx rfl (pc0 := 213) (pc' := 223) rfl (hb hby at_213) rfl (XT.ii_lt_t hb106) (by decide) (by decide) gk) ?_
                    show Go _ _ _ _ T66 (mkF m 223 #[.val (.int p0), .val (.int p1), .val (.int p2), .val (.int k), .val (.int li), .val (.int md), .val (.int lu), .val (.int lr), .val (.int ua), .val (.int ub), .val (.int rc), .val (.int rd), .val (.ref vv), .val (.int lr), .val (.int rc), .val (.int rd), .val (.ref us), .val (.ref rq), .unset, .unset, .unset] [])
                    refine Go.by (fun _ gk => XT.iconstV X66.here hx rfl (1 : Int32) (hb hby at_223) (by decide) gk) ?_
                    show Go _ _ _ _ T66 (mkF m 224 #[.val (.int p0), .val (.int p1), .val (.int p2), .val (.int k), .val (.int li), .val (.int md), .val (.int lu), .val (.int lr), .val (.int ua), .val (.int ub), .val (.int rc), .val (.int rd), .val (.ref vv), .val (.int lr), .val (.int rc), .val (.int rd), .val (.ref us), .val (.ref rq), .unset, .unset, .unset] [(.int (1 : Int32))])
                    refine Go.by (fun _ gk => XS.goto X66.here hx rfl (pc0 := 224) (pc' := 228) rfl (hb hby at_224) (by decide) (by decide) gk) ?_
                    show Go _ _ _ _ T66 (mkF m 228 #[.val (.int p0), .val (.int p1), .val (.int p2), .val (.int k), .val (.int li), .val (.int md), .val (.int lu), .val (.int lr), .val (.int ua), .val (.int ub), .val (.int rc), .val (.int rd), .val (.ref vv), .val (.int lr), .val (.int rc), .val (.int rd), .val (.ref us), .val (.ref rq), .unset, .unset, .unset] [(.int (1 : Int32))])
                    exact J68 _ (Or.inl ⟨rfl, by simp [own_same, hb101, hb102, hb105, hb106]⟩)
                  · refine Go.by (fun _ gk => XS.icmpNo X66.here hx rfl (hb hby at_213) rfl (XT.ii_lt_f hb106) gk) ?_
                    show Go _ _ _ _ T66 (mkF m 216 #[.val (.int p0), .val (.int p1), .val (.int p2), .val (.int k), .val (.int li), .val (.int md), .val (.int lu), .val (.int lr), .val (.int ua), .val (.int ub), .val (.int rc), .val (.int rd), .val (.ref vv), .val (.int lr), .val (.int rc), .val (.int rd), .val (.ref us), .val (.ref rq), .unset, .unset, .unset] [])
                    refine Go.by (fun _ gk => XS.iload X66.here hx rfl (hb hby at_216) rfl gk) ?_
                    show Go _ _ _ _ T66 (mkF m 218 #[.val (.int p0), .val (.int p1), .val (.int p2), .val (.int k), .val (.int li), .val (.int md), .val (.int lu), .val (.int lr), .val (.int ua), .val (.int ub), .val (.int rc), .val (.int rd), .val (.ref vv), .val (.int lr), .val (.int rc), .val (.int rd), .val (.ref us), .val (.ref rq), .unset, .unset, .unset] [(.int rd)])
                    refine Go.by (fun _ gk => XS.iload X66.here hx rfl (hb hby at_218) rfl gk) ?_
                    show Go _ _ _ _ T66 (mkF m 220 #[.val (.int p0), .val (.int p1), .val (.int p2), .val (.int k), .val (.int li), .val (.int md), .val (.int lu), .val (.int lr), .val (.int ua), .val (.int ub), .val (.int rc), .val (.int rd), .val (.ref vv), .val (.int lr), .val (.int rc), .val (.int rd), .val (.ref us), .val (.ref rq), .unset, .unset, .unset] [(.int ub), (.int rd)])
                    by_cases hb107 : rd = ub
                    · refine Go.by (fun _ gk => XS.icmpNo X66.here hx rfl (hb hby at_220) rfl (XT.ii_ne_f hb107) gk) ?_
                      show Go _ _ _ _ T66 (mkF m 223 #[.val (.int p0), .val (.int p1), .val (.int p2), .val (.int k), .val (.int li), .val (.int md), .val (.int lu), .val (.int lr), .val (.int ua), .val (.int ub), .val (.int rc), .val (.int rd), .val (.ref vv), .val (.int lr), .val (.int rc), .val (.int rd), .val (.ref us), .val (.ref rq), .unset, .unset, .unset] [])
                      refine Go.by (fun _ gk => XT.iconstV X66.here hx rfl (1 : Int32) (hb hby at_223) (by decide) gk) ?_
                      show Go _ _ _ _ T66 (mkF m 224 #[.val (.int p0), .val (.int p1), .val (.int p2), .val (.int k), .val (.int li), .val (.int md), .val (.int lu), .val (.int lr), .val (.int ua), .val (.int ub), .val (.int rc), .val (.int rd), .val (.ref vv), .val (.int lr), .val (.int rc), .val (.int rd), .val (.ref us), .val (.ref rq), .unset, .unset, .unset] [(.int (1 : Int32))])
                      refine Go.by (fun _ gk => XS.goto X66.here hx rfl (pc0 := 224) (pc' := 228) rfl (hb hby at_224) (by decide) (by decide) gk) ?_
                      show Go _ _ _ _ T66 (mkF m 228 #[.val (.int p0), .val (.int p1), .val (.int p2), .val (.int k), .val (.int li), .val (.int md), .val (.int lu), .val (.int lr), .val (.int ua), .val (.int ub), .val (.int rc), .val (.int rd), .val (.ref vv), .val (.int lr), .val (.int rc), .val (.int rd), .val (.ref us), .val (.ref rq), .unset, .unset, .unset] [(.int (1 : Int32))])
                      exact J68 _ (Or.inl ⟨rfl, by simp [own_same, hb101, hb102, hb105, hb106, hb107]⟩)
                    · refine Go.by (fun _ gk => XS.icmpYes X66.here hx rfl (pc0 := 220) (pc' := 227) rfl (hb hby at_220) rfl (XT.ii_ne_t hb107) (by decide) (by decide) gk) ?_
                      show Go _ _ _ _ T66 (mkF m 227 #[.val (.int p0), .val (.int p1), .val (.int p2), .val (.int k), .val (.int li), .val (.int md), .val (.int lu), .val (.int lr), .val (.int ua), .val (.int ub), .val (.int rc), .val (.int rd), .val (.ref vv), .val (.int lr), .val (.int rc), .val (.int rd), .val (.ref us), .val (.ref rq), .unset, .unset, .unset] [])
                      refine Go.by (fun _ gk => XT.iconstV X66.here hx rfl (0 : Int32) (hb hby at_227) (by decide) gk) ?_
                      show Go _ _ _ _ T66 (mkF m 228 #[.val (.int p0), .val (.int p1), .val (.int p2), .val (.int k), .val (.int li), .val (.int md), .val (.int lu), .val (.int lr), .val (.int ua), .val (.int ub), .val (.int rc), .val (.int rd), .val (.ref vv), .val (.int lr), .val (.int rc), .val (.int rd), .val (.ref us), .val (.ref rq), .unset, .unset, .unset] [(.int (0 : Int32))])
                      exact J68 _ (Or.inr ⟨rfl, by simp [own_same, hb101, hb102, hb105, hb106, hb107]⟩)
                · refine Go.by (fun _ gk => XS.icmpYes X66.here hx rfl (pc0 := 207) (pc' := 227) rfl (hb hby at_207) rfl (XT.ii_ne_t hb105) (by decide) (by decide) gk) ?_
                  show Go _ _ _ _ T66 (mkF m 227 #[.val (.int p0), .val (.int p1), .val (.int p2), .val (.int k), .val (.int li), .val (.int md), .val (.int lu), .val (.int lr), .val (.int ua), .val (.int ub), .val (.int rc), .val (.int rd), .val (.ref vv), .val (.int lr), .val (.int rc), .val (.int rd), .val (.ref us), .val (.ref rq), .unset, .unset, .unset] [])
                  refine Go.by (fun _ gk => XT.iconstV X66.here hx rfl (0 : Int32) (hb hby at_227) (by decide) gk) ?_
                  show Go _ _ _ _ T66 (mkF m 228 #[.val (.int p0), .val (.int p1), .val (.int p2), .val (.int k), .val (.int li), .val (.int md), .val (.int lu), .val (.int lr), .val (.int ua), .val (.int ub), .val (.int rc), .val (.int rd), .val (.ref vv), .val (.int lr), .val (.int rc), .val (.int rd), .val (.ref us), .val (.ref rq), .unset, .unset, .unset] [(.int (0 : Int32))])
                  exact J68 _ (Or.inr ⟨rfl, by simp [own_same, hb101, hb102, hb105]⟩)
            · refine Go.by (fun _ gk => XS.icmpYes X66.here hx rfl (pc0 := 194) (pc' := 227) rfl (hb hby at_194) rfl (XT.ii_ne_t hb101) (by decide) (by decide) gk) ?_
              show Go _ _ _ _ T66 (mkF m 227 #[.val (.int p0), .val (.int p1), .val (.int p2), .val (.int k), .val (.int li), .val (.int md), .val (.int lu), .val (.int lr), .val (.int ua), .val (.int ub), .val (.int rc), .val (.int rd), .val (.ref vv), .val (.int lr), .val (.int rc), .val (.int rd), .val (.ref us), .val (.ref rq), .unset, .unset, .unset] [])
              refine Go.by (fun _ gk => XT.iconstV X66.here hx rfl (0 : Int32) (hb hby at_227) (by decide) gk) ?_
              show Go _ _ _ _ T66 (mkF m 228 #[.val (.int p0), .val (.int p1), .val (.int p2), .val (.int k), .val (.int li), .val (.int md), .val (.int lu), .val (.int lr), .val (.int ua), .val (.int ub), .val (.int rc), .val (.int rd), .val (.ref vv), .val (.int lr), .val (.int rc), .val (.int rd), .val (.ref us), .val (.ref rq), .unset, .unset, .unset] [(.int (0 : Int32))])
              exact J68 _ (Or.inr ⟨rfl, by simp [own_same, hb101]⟩)
    · intro J2
      show Go _ _ _ _ s₁ (mkF m 86 #[.val (.int p0), .val (.int p1), .val (.int p2), .val (.int k), .val (.int li), .val (.int md), .val (.int lu), .val (.int lr), .val (.int ua), .val (.int ub), .val (.int rc), .val (.int rd), .unset, .unset, .unset, .unset, .unset, .unset, .unset, .unset, .unset] [(.int k)])
      rcases hk with rfl | rfl | rfl
      · show Go _ _ _ _ s₁ (mkF m 86 #[.val (.int p0), .val (.int p1), .val (.int p2), .val (.int (0 : Int32)), .val (.int li), .val (.int md), .val (.int lu), .val (.int lr), .val (.int ua), .val (.int ub), .val (.int rc), .val (.int rd), .unset, .unset, .unset, .unset, .unset, .unset, .unset, .unset, .unset] [(.int (0 : Int32))])
        refine Go.by (fun _ gk => XS.ifNo X0.here hx rfl (hb hby at_86) rfl (XT.i0_ne_f rfl) gk) ?_
        show Go _ _ _ _ s₁ (mkF m 89 #[.val (.int p0), .val (.int p1), .val (.int p2), .val (.int (0 : Int32)), .val (.int li), .val (.int md), .val (.int lu), .val (.int lr), .val (.int ua), .val (.int ub), .val (.int rc), .val (.int rd), .unset, .unset, .unset, .unset, .unset, .unset, .unset, .unset, .unset] [])
        have F108 : Sta Z h0 "com/example/muster/muster/model/Visibility" "EVERYONE" "Lcom/example/muster/muster/model/Visibility;" (.ref c_EVERYONE) := S_c_EVERYONE.ext O0.2
        obtain ⟨T109, X109, e109, st109⟩ := getS2 X0 hx hZ hown (host := "") (Or.inl (hw _ (List.mem_of_getElem? (i := 0) rfl))) Via.refl e0 F108 (g := (mkF m 89 #[.val (.int p0), .val (.int p1), .val (.int p2), .val (.int (0 : Int32)), .val (.int li), .val (.int md), .val (.int lu), .val (.int lr), .val (.int ua), .val (.int ub), .val (.int rc), .val (.int rd), .unset, .unset, .unset, .unset, .unset, .unset, .unset, .unset, .unset] [])) rfl (hb hby at_89)
        refine Go.by st109 ?_
        show Go _ _ _ _ T109 (mkF m 92 #[.val (.int p0), .val (.int p1), .val (.int p2), .val (.int (0 : Int32)), .val (.int li), .val (.int md), .val (.int lu), .val (.int lr), .val (.int ua), .val (.int ub), .val (.int rc), .val (.int rd), .unset, .unset, .unset, .unset, .unset, .unset, .unset, .unset, .unset] [(.ref c_EVERYONE)])
        refine Go.by (fun _ gk => XS.astore X109.here hx rfl (hb hby at_92) rfl rfl (l' := #[.val (.int p0), .val (.int p1), .val (.int p2), .val (.int (0 : Int32)), .val (.int li), .val (.int md), .val (.int lu), .val (.int lr), .val (.int ua), .val (.int ub), .val (.int rc), .val (.int rd), .val (.ref c_EVERYONE), .unset, .unset, .unset, .unset, .unset, .unset, .unset, .unset]) rfl gk) ?_
        show Go _ _ _ _ T109 (mkF m 94 #[.val (.int p0), .val (.int p1), .val (.int p2), .val (.int (0 : Int32)), .val (.int li), .val (.int md), .val (.int lu), .val (.int lr), .val (.int ua), .val (.int ub), .val (.int rc), .val (.int rd), .val (.ref c_EVERYONE), .unset, .unset, .unset, .unset, .unset, .unset, .unset, .unset] [])
        refine Go.by (fun _ gk => XS.goto X109.here hx rfl (pc0 := 94) (pc' := 115) rfl (hb hby at_94) (by decide) (by decide) gk) ?_
        show Go _ _ _ _ T109 (mkF m 115 #[.val (.int p0), .val (.int p1), .val (.int p2), .val (.int (0 : Int32)), .val (.int li), .val (.int md), .val (.int lu), .val (.int lr), .val (.int ua), .val (.int ub), .val (.int rc), .val (.int rd), .val (.ref c_EVERYONE), .unset, .unset, .unset, .unset, .unset, .unset, .unset, .unset] [])
        exact J2 _ ⟨X109, e109⟩ _ (Or.inl ⟨rfl, rfl⟩)
      · show Go _ _ _ _ s₁ (mkF m 86 #[.val (.int p0), .val (.int p1), .val (.int p2), .val (.int (1 : Int32)), .val (.int li), .val (.int md), .val (.int lu), .val (.int lr), .val (.int ua), .val (.int ub), .val (.int rc), .val (.int rd), .unset, .unset, .unset, .unset, .unset, .unset, .unset, .unset, .unset] [(.int (1 : Int32))])
        refine Go.by (fun _ gk => XS.ifYes X0.here hx rfl (pc0 := 86) (pc' := 97) rfl (hb hby at_86) rfl (XT.i0_ne_t (by decide)) (by decide) (by decide) gk) ?_
        show Go _ _ _ _ s₁ (mkF m 97 #[.val (.int p0), .val (.int p1), .val (.int p2), .val (.int (1 : Int32)), .val (.int li), .val (.int md), .val (.int lu), .val (.int lr), .val (.int ua), .val (.int ub), .val (.int rc), .val (.int rd), .unset, .unset, .unset, .unset, .unset, .unset, .unset, .unset, .unset] [])
        refine Go.by (fun _ gk => XS.iloadN X0.here hx rfl (hb hby at_97) rfl gk) ?_
        show Go _ _ _ _ s₁ (mkF m 98 #[.val (.int p0), .val (.int p1), .val (.int p2), .val (.int (1 : Int32)), .val (.int li), .val (.int md), .val (.int lu), .val (.int lr), .val (.int ua), .val (.int ub), .val (.int rc), .val (.int rd), .unset, .unset, .unset, .unset, .unset, .unset, .unset, .unset, .unset] [(.int (1 : Int32))])
        refine Go.by (fun _ gk => XT.iconstV X0.here hx rfl (1 : Int32) (hb hby at_98) (by decide) gk) ?_
        show Go _ _ _ _ s₁ (mkF m 99 #[.val (.int p0), .val (.int p1), .val (.int p2), .val (.int (1 : Int32)), .val (.int li), .val (.int md), .val (.int lu), .val (.int lr), .val (.int ua), .val (.int ub), .val (.int rc), .val (.int rd), .unset, .unset, .unset, .unset, .unset, .unset, .unset, .unset, .unset] [(.int (1 : Int32)), (.int (1 : Int32))])
        refine Go.by (fun _ gk => XS.icmpNo X0.here hx rfl (hb hby at_99) rfl (XT.ii_ne_f rfl) gk) ?_
        show Go _ _ _ _ s₁ (mkF m 102 #[.val (.int p0), .val (.int p1), .val (.int p2), .val (.int (1 : Int32)), .val (.int li), .val (.int md), .val (.int lu), .val (.int lr), .val (.int ua), .val (.int ub), .val (.int rc), .val (.int rd), .unset, .unset, .unset, .unset, .unset, .unset, .unset, .unset, .unset] [])
        have F110 : Sta Z h0 "com/example/muster/muster/model/Visibility" "CONTACTS" "Lcom/example/muster/muster/model/Visibility;" (.ref c_CONTACTS) := S_c_CONTACTS.ext O0.2
        obtain ⟨T111, X111, e111, st111⟩ := getS2 X0 hx hZ hown (host := "") (Or.inl (hw _ (List.mem_of_getElem? (i := 34) rfl))) Via.refl e0 F110 (g := (mkF m 102 #[.val (.int p0), .val (.int p1), .val (.int p2), .val (.int (1 : Int32)), .val (.int li), .val (.int md), .val (.int lu), .val (.int lr), .val (.int ua), .val (.int ub), .val (.int rc), .val (.int rd), .unset, .unset, .unset, .unset, .unset, .unset, .unset, .unset, .unset] [])) rfl (hb hby at_102)
        refine Go.by st111 ?_
        show Go _ _ _ _ T111 (mkF m 105 #[.val (.int p0), .val (.int p1), .val (.int p2), .val (.int (1 : Int32)), .val (.int li), .val (.int md), .val (.int lu), .val (.int lr), .val (.int ua), .val (.int ub), .val (.int rc), .val (.int rd), .unset, .unset, .unset, .unset, .unset, .unset, .unset, .unset, .unset] [(.ref c_CONTACTS)])
        refine Go.by (fun _ gk => XS.astore X111.here hx rfl (hb hby at_105) rfl rfl (l' := #[.val (.int p0), .val (.int p1), .val (.int p2), .val (.int (1 : Int32)), .val (.int li), .val (.int md), .val (.int lu), .val (.int lr), .val (.int ua), .val (.int ub), .val (.int rc), .val (.int rd), .val (.ref c_CONTACTS), .unset, .unset, .unset, .unset, .unset, .unset, .unset, .unset]) rfl gk) ?_
        show Go _ _ _ _ T111 (mkF m 107 #[.val (.int p0), .val (.int p1), .val (.int p2), .val (.int (1 : Int32)), .val (.int li), .val (.int md), .val (.int lu), .val (.int lr), .val (.int ua), .val (.int ub), .val (.int rc), .val (.int rd), .val (.ref c_CONTACTS), .unset, .unset, .unset, .unset, .unset, .unset, .unset, .unset] [])
        refine Go.by (fun _ gk => XS.goto X111.here hx rfl (pc0 := 107) (pc' := 115) rfl (hb hby at_107) (by decide) (by decide) gk) ?_
        show Go _ _ _ _ T111 (mkF m 115 #[.val (.int p0), .val (.int p1), .val (.int p2), .val (.int (1 : Int32)), .val (.int li), .val (.int md), .val (.int lu), .val (.int lr), .val (.int ua), .val (.int ub), .val (.int rc), .val (.int rd), .val (.ref c_CONTACTS), .unset, .unset, .unset, .unset, .unset, .unset, .unset, .unset] [])
        exact J2 _ ⟨X111, e111⟩ _ (Or.inr (Or.inl ⟨rfl, rfl⟩))
      · show Go _ _ _ _ s₁ (mkF m 86 #[.val (.int p0), .val (.int p1), .val (.int p2), .val (.int (2 : Int32)), .val (.int li), .val (.int md), .val (.int lu), .val (.int lr), .val (.int ua), .val (.int ub), .val (.int rc), .val (.int rd), .unset, .unset, .unset, .unset, .unset, .unset, .unset, .unset, .unset] [(.int (2 : Int32))])
        refine Go.by (fun _ gk => XS.ifYes X0.here hx rfl (pc0 := 86) (pc' := 97) rfl (hb hby at_86) rfl (XT.i0_ne_t (by decide)) (by decide) (by decide) gk) ?_
        show Go _ _ _ _ s₁ (mkF m 97 #[.val (.int p0), .val (.int p1), .val (.int p2), .val (.int (2 : Int32)), .val (.int li), .val (.int md), .val (.int lu), .val (.int lr), .val (.int ua), .val (.int ub), .val (.int rc), .val (.int rd), .unset, .unset, .unset, .unset, .unset, .unset, .unset, .unset, .unset] [])
        refine Go.by (fun _ gk => XS.iloadN X0.here hx rfl (hb hby at_97) rfl gk) ?_
        show Go _ _ _ _ s₁ (mkF m 98 #[.val (.int p0), .val (.int p1), .val (.int p2), .val (.int (2 : Int32)), .val (.int li), .val (.int md), .val (.int lu), .val (.int lr), .val (.int ua), .val (.int ub), .val (.int rc), .val (.int rd), .unset, .unset, .unset, .unset, .unset, .unset, .unset, .unset, .unset] [(.int (2 : Int32))])
        refine Go.by (fun _ gk => XT.iconstV X0.here hx rfl (1 : Int32) (hb hby at_98) (by decide) gk) ?_
        show Go _ _ _ _ s₁ (mkF m 99 #[.val (.int p0), .val (.int p1), .val (.int p2), .val (.int (2 : Int32)), .val (.int li), .val (.int md), .val (.int lu), .val (.int lr), .val (.int ua), .val (.int ub), .val (.int rc), .val (.int rd), .unset, .unset, .unset, .unset, .unset, .unset, .unset, .unset, .unset] [(.int (1 : Int32)), (.int (2 : Int32))])
        refine Go.by (fun _ gk => XS.icmpYes X0.here hx rfl (pc0 := 99) (pc' := 110) rfl (hb hby at_99) rfl (XT.ii_ne_t (by decide)) (by decide) (by decide) gk) ?_
        show Go _ _ _ _ s₁ (mkF m 110 #[.val (.int p0), .val (.int p1), .val (.int p2), .val (.int (2 : Int32)), .val (.int li), .val (.int md), .val (.int lu), .val (.int lr), .val (.int ua), .val (.int ub), .val (.int rc), .val (.int rd), .unset, .unset, .unset, .unset, .unset, .unset, .unset, .unset, .unset] [])
        have F112 : Sta Z h0 "com/example/muster/muster/model/Visibility" "NOBODY" "Lcom/example/muster/muster/model/Visibility;" (.ref c_NOBODY) := S_c_NOBODY.ext O0.2
        obtain ⟨T113, X113, e113, st113⟩ := getS2 X0 hx hZ hown (host := "") (Or.inl (hw _ (List.mem_of_getElem? (i := 57) rfl))) Via.refl e0 F112 (g := (mkF m 110 #[.val (.int p0), .val (.int p1), .val (.int p2), .val (.int (2 : Int32)), .val (.int li), .val (.int md), .val (.int lu), .val (.int lr), .val (.int ua), .val (.int ub), .val (.int rc), .val (.int rd), .unset, .unset, .unset, .unset, .unset, .unset, .unset, .unset, .unset] [])) rfl (hb hby at_110)
        refine Go.by st113 ?_
        show Go _ _ _ _ T113 (mkF m 113 #[.val (.int p0), .val (.int p1), .val (.int p2), .val (.int (2 : Int32)), .val (.int li), .val (.int md), .val (.int lu), .val (.int lr), .val (.int ua), .val (.int ub), .val (.int rc), .val (.int rd), .unset, .unset, .unset, .unset, .unset, .unset, .unset, .unset, .unset] [(.ref c_NOBODY)])
        refine Go.by (fun _ gk => XS.astore X113.here hx rfl (hb hby at_113) rfl rfl (l' := #[.val (.int p0), .val (.int p1), .val (.int p2), .val (.int (2 : Int32)), .val (.int li), .val (.int md), .val (.int lu), .val (.int lr), .val (.int ua), .val (.int ub), .val (.int rc), .val (.int rd), .val (.ref c_NOBODY), .unset, .unset, .unset, .unset, .unset, .unset, .unset, .unset]) rfl gk) ?_
        show Go _ _ _ _ T113 (mkF m 115 #[.val (.int p0), .val (.int p1), .val (.int p2), .val (.int (2 : Int32)), .val (.int li), .val (.int md), .val (.int lu), .val (.int lr), .val (.int ua), .val (.int ub), .val (.int rc), .val (.int rd), .val (.ref c_NOBODY), .unset, .unset, .unset, .unset, .unset, .unset, .unset, .unset] [])
        exact J2 _ ⟨X113, e113⟩ _ (Or.inr (Or.inr ⟨rfl, rfl⟩))
  · intro J1
    show Go _ _ _ _ s₁ (mkF m 11 #[.val (.int p0), .val (.int p1), .val (.int p2), .val (.int k), .unset, .unset, .unset, .unset, .unset, .unset, .unset, .unset, .unset, .unset, .unset, .unset, .unset, .unset, .unset, .unset, .unset] [(.int ((XT.ushr p0 (2 : Int32)) &&& (1 : Int32)))])
    by_cases hb114 : ((XT.ushr p0 (2 : Int32)) &&& (1 : Int32)) = 0
    · refine Go.by (fun _ gk => XS.ifYes X0.here hx rfl (pc0 := 11) (pc' := 18) rfl (hb hby at_11) rfl (XT.i0_eq_t hb114) (by decide) (by decide) gk) ?_
      show Go _ _ _ _ s₁ (mkF m 18 #[.val (.int p0), .val (.int p1), .val (.int p2), .val (.int k), .unset, .unset, .unset, .unset, .unset, .unset, .unset, .unset, .unset, .unset, .unset, .unset, .unset, .unset, .unset, .unset, .unset] [])
      refine Go.by (fun _ gk => XT.iconstV X0.here hx rfl (0 : Int32) (hb hby at_18) (by decide) gk) ?_
      show Go _ _ _ _ s₁ (mkF m 19 #[.val (.int p0), .val (.int p1), .val (.int p2), .val (.int k), .unset, .unset, .unset, .unset, .unset, .unset, .unset, .unset, .unset, .unset, .unset, .unset, .unset, .unset, .unset, .unset, .unset] [(.int (0 : Int32))])
      exact J1 _ (Or.inl rfl)
    · refine Go.by (fun _ gk => XS.ifNo X0.here hx rfl (hb hby at_11) rfl (XT.i0_eq_f hb114) gk) ?_
      show Go _ _ _ _ s₁ (mkF m 14 #[.val (.int p0), .val (.int p1), .val (.int p2), .val (.int k), .unset, .unset, .unset, .unset, .unset, .unset, .unset, .unset, .unset, .unset, .unset, .unset, .unset, .unset, .unset, .unset, .unset] [])
      refine Go.by (fun _ gk => XT.iconstV X0.here hx rfl (1 : Int32) (hb hby at_14) (by decide) gk) ?_
      show Go _ _ _ _ s₁ (mkF m 15 #[.val (.int p0), .val (.int p1), .val (.int p2), .val (.int k), .unset, .unset, .unset, .unset, .unset, .unset, .unset, .unset, .unset, .unset, .unset, .unset, .unset, .unset, .unset, .unset, .unset] [(.int (1 : Int32))])
      refine Go.by (fun _ gk => XS.goto X0.here hx rfl (pc0 := 15) (pc' := 19) rfl (hb hby at_15) (by decide) (by decide) gk) ?_
      show Go _ _ _ _ s₁ (mkF m 19 #[.val (.int p0), .val (.int p1), .val (.int p2), .val (.int k), .unset, .unset, .unset, .unset, .unset, .unset, .unset, .unset, .unset, .unset, .unset, .unset, .unset, .unset, .unset, .unset, .unset] [(.int (1 : Int32))])
      exact J1 _ (Or.inr rfl)
set_option maxRecDepth 65536 in
set_option maxHeartbeats 40000000 in
theorem comes_1 {Post : Tables → Env → Array Value → State → Outcome → State → Prop} (hpost : ∀ tb e args s v u, (limb_1_1.after args s (.returned v) u = true ∧ limb_1_2.after args s (.returned v) u = true ∧ True) → ReturnedEndW s (.returned v) u (Jvm.fieldLocs frame_1_writes args s ++ Jvm.arrayLocs frame_1_arrays args s ++ Jvm.staticLocs frame_1_statics s) 24 1152 → Post tb e args s (.returned v) u) :
    ArmFor flags0 classFile x code maxLocals ret World_1 tables_1 room_1 Calls_1 rest_1 Pre_1 Post := by
  intro l hfl _ _ p e ha hc hk s m args below hf hA hF happ hP
  obtain ⟨hcalls, hrest, hpre⟩ := hP
  obtain ⟨-, -, -, hnamed, -, -, -, hat⟩ := (Spec.applies_iff hf).mp happ
  obtain ⟨hg, hn⟩ := and_e (Cond.before_iff.mp (show (Jvm.Cond.and given_1 narrow_1).before args s = true from hpre))
  obtain ⟨hcount, hg0⟩ := and_e hg
  obtain ⟨ha0, hg1⟩ := and_e hg0
  obtain ⟨ha1, hg2⟩ := and_e hg1
  have ha2 := hg2
  obtain ⟨w0, w1, w2, rfl⟩ : ∃ w0 w1 w2 : Value, args = #[w0, w1, w2] := by
    have hs : args.size = 3 := by simpa [Cond.value, given_1] using hcount
    obtain ⟨L⟩ := args
    match L, hs with
    | [w0, w1, w2], _ => exact ⟨w0, w1, w2, rfl⟩
  have hw := fun d (hd : d ∈ tables_1) => atoms_spec (ws := Jvm.Cond.code x code maxLocals ret :: tables_1) hat d (List.mem_cons_of_mem _ hd)
  obtain ⟨hsets, hown0⟩ := atoms_of _ (rest_1_c_eq ▸ (show rest_1_c.before _ s = true from hrest))
  have hr0 := Cond.before_iff.mp hown0
  have hfit : Fit s := fun {y c} hc i hi => by
    obtain ⟨ha, rfl⟩ := Array.getElem?_eq_some_iff.mp hc
    have q := List.all_eq_true.mp ((Array.all_eq_true_iff_forall_mem.mp hF) _ (Array.getElem_mem ha)) i (List.mem_range.mpr hi)
    simpa [Array.getElem?_eq_getElem hi] using q
  obtain ⟨i0, ei0⟩ := is_v ha0
  obtain rfl : w0 = (.int i0) := Option.some.inj ei0
  obtain ⟨i1, ei1⟩ := is_v ha1
  obtain rfl : w1 = (.int i1) := Option.some.inj ei1
  obtain ⟨i2, ei2⟩ := is_v ha2
  obtain rfl : w2 = (.int i2) := Option.some.inj ei2
  have hnr0 := hn
  obtain ⟨nr0, hnr1⟩ := and_e hnr0
  obtain ⟨nr1, hnr2⟩ := and_e hnr1
  obtain ⟨nr2, hnr3⟩ := and_e hnr2
  obtain ⟨nr3, hnr4⟩ := and_e hnr3
  obtain ⟨nr4, hnr5⟩ := and_e hnr4
  have nr5 := hnr5
  obtain ⟨c_EVERYONE, ev_c_EVERYONE⟩ := exa_v nr0
  have S_c_EVERYONE : Sta s s.heap "com/example/muster/muster/model/Visibility" "EVERYONE" "Lcom/example/muster/muster/model/Visibility;" (.ref c_EVERYONE) := Sta.start ev_c_EVERYONE (Or.inr ⟨(hw _ (List.mem_of_getElem? (i := 1) rfl)), (hw _ (List.mem_of_getElem? (i := 2) rfl))⟩)
  have E_c_EVERYONE := Exa.start ev_c_EVERYONE nr0
  have O_c_EVERYONE := Fld.start (own_ord nr4 ev_c_EVERYONE)
  obtain ⟨c_CONTACTS, ev_c_CONTACTS⟩ := exa_v nr1
  have S_c_CONTACTS : Sta s s.heap "com/example/muster/muster/model/Visibility" "CONTACTS" "Lcom/example/muster/muster/model/Visibility;" (.ref c_CONTACTS) := Sta.start ev_c_CONTACTS (Or.inr ⟨(hw _ (List.mem_of_getElem? (i := 1) rfl)), (hw _ (List.mem_of_getElem? (i := 35) rfl))⟩)
  have E_c_CONTACTS := Exa.start ev_c_CONTACTS nr1
  have O_c_CONTACTS := Fld.start (own_ord nr3 ev_c_CONTACTS)
  obtain ⟨c_NOBODY, ev_c_NOBODY⟩ := exa_v nr2
  have S_c_NOBODY : Sta s s.heap "com/example/muster/muster/model/Visibility" "NOBODY" "Lcom/example/muster/muster/model/Visibility;" (.ref c_NOBODY) := Sta.start ev_c_NOBODY (Or.inr ⟨(hw _ (List.mem_of_getElem? (i := 1) rfl)), (hw _ (List.mem_of_getElem? (i := 58) rfl))⟩)
  have E_c_NOBODY := Exa.start ev_c_NOBODY nr2
  have O_c_NOBODY := Fld.start (own_ord nr5 ev_c_NOBODY)
  obtain ⟨cs, ev_cs⟩ := is_v (Cond.before_iff.mp (hsets _ (List.mem_of_getElem? (i := 1) rfl)))
  have S_cs := Sta.start ev_cs (Or.inl (hsets _ (List.mem_of_getElem? (i := 0) rfl)))
  have n_cs : ¬ (cs = (0 : Int32)) := gotF (Cond.eq_ints ev_cs (Term.int_eval (0))) (not_v (Cond.before_iff.mp (hsets _ (List.mem_of_getElem? (i := 2) rfl))))
  have hCH : CHv s own_EL s.vm s.heap := CHv.start (own_EW hw) hcalls.1 (a0 := _) (hsets _ (List.mem_of_getElem? (i := 2) rfl)) (own_SA hw _ (by simp [Bundle.stringAtoms])) (own_SA hw _ (by simp [Bundle.stringAtoms, Bundle.sN]))
  obtain ⟨n, o, h1, h2, h3, _, L, rfl, ⟨rfl, N⟩, -, hq⟩ := rm0 l s _ hw tables_1 i0 i1 i2 c_EVERYONE c_CONTACTS c_NOBODY cs s.heap s.heap.size (Nat.le_refl _) (Old.start s) S_c_EVERYONE E_c_EVERYONE O_c_EVERYONE S_c_CONTACTS E_c_CONTACTS O_c_CONTACTS S_c_NOBODY E_c_NOBODY O_c_NOBODY S_cs n_cs p e ha hc hk s m _ below hf ((Spec.applies_iff_loose hf).mp happ).1 ⟨rfl, State.Warmed39.refl s, rfl, hCH⟩ trivial
  refine ⟨n, _, h1, h2, h3, hpost _ _ _ _ _ _ ⟨Cond.after_iff.mpr rfl, Cond.after_iff.mpr (eq_i res_at (Term.int_eval (1)) rfl), trivial⟩ ⟨hq.1, hq.2.1, hq.2.2.1, (hq.2.2.2.sift fun y hy => Or.inr (N y hy)).mono (by decide) (by decide)⟩⟩
theorem main_1_1 : Claimed_1_1 := comes_1 fun _ _ _ _ _ _ h hF => ⟨h.1, hF⟩
theorem main_1_2 : Claimed_1_2 := comes_1 fun _ _ _ _ _ _ h hF => ⟨h.2.1, hF⟩
end Jvm.Pilot.@@N@@
namespace Jvm.Pilot.@@N@@
open Jvm Jvm.ClassFile Sem Op Lib Jvm.Free Jvm.Stand Jvm.Pilot.@@N@@.Jvm.D
/-! MADE BY PROGRAM (witnessworld.py) out of the Statement's table words and the real class files: 21 classes; the members and pool entries that the words name. The judged class is class 1, her method 2. -/
namespace start1
open Jvm.ClassFile
def u (s : String) : CpInfo := .utf8 (stringToUtf16 s)
/-- a pool by its gaps: so many unusable entries, then the entry; so many at the end -/
def gap : Nat → List CpInfo → List CpInfo
  | 0, r => r
  | n + 1, r => .unusable :: gap n r
def poolList (es : List (Nat × CpInfo)) (last : Nat) : List CpInfo := es.foldr (fun e r => gap e.1 (e.2 :: r)) (gap last [])
def pool (es : List (Nat × CpInfo)) (last : Nat) : Array CpInfo := ⟨poolList es last⟩
def fileOf (pool : Array CpInfo) (this : Nat) (attrs : Array Attribute := #[]) (ms : Array MethodInfo := #[]) (fl : Nat := 33) (sup : Nat := 0) (ifs : Array Nat := #[]) (fds : Array FieldInfo := #[]) : ClassFile where
  minorVersion := 0
  majorVersion := 65
  constantPool := pool
  accessFlags := fl
  thisClass := this
  superClass := sup
  interfaces := ifs
  fields := fds
  methods := ms
  attributes := attrs
def plain (name : String) (sup : Option ClassId) : Class where
  name := name
  kind := .ordinary
  loader := none
  accessFlags := 33
  super := sup
  interfaces := #[]
  cf := none
  fields := #[]
  methods := #[]
  instanceTypes := #[]
  staticTypes := #[]
  resolved := #[]
  callSites := []
  init := .initialized
  statics := none
  mirror := none

def pool0 : Array CpInfo := pool [(5, u "<init>"), (0, u "()V"), (1, .class_ 10), (1, u "java/lang/Object")] 113

def k0c0 : Code := { maxStack := 0, maxLocals := 1, code := object_method_1_code, exceptionTable := #[], attributes := #[] }
def k0m0 : Method := { name := "<init>", desc := "()V", sig := { parameters := [], returnType := none }, accessFlags := 1, code := some k0c0 }
/-- java/lang/Object -/
def k0 : Class := { plain "java/lang/Object" none with
  accessFlags := 33
  interfaces := #[]
  cf := some (fileOf pool0 8 #[] #[{ accessFlags := 1, nameIndex := 5, descriptorIndex := 6, attributes := #[] }] 33 0 #[] #[])
  fields := #[]
  methods := #[k0m0]
  instanceTypes := #[]
  staticTypes := #[]
  resolved := Array.replicate 124 none
  statics := none }

def pool1 : Array CpInfo := pool [(2, .class_ 4), (1, u "java/lang/Object"), (0, u "<init>"), (0, u "()V"), (0, .class_ 8), (0, u "java/lang/String"), (0, .methodref 7 10), (0, .nameAndType 5 11), (0, u "([C)V"), (0, .fieldref 13 14), (0, .class_ 15), (0, .nameAndType 16 17), (0, u "com/example/muster/muster/model/Visibility"), (0, u "EVERYONE"), (0, u "Lcom/example/muster/muster/model/Visibility;"), (0, .fieldref 13 19), (0, .nameAndType 20 17), (0, u "CONTACTS"), (0, .fieldref 13 22), (0, .nameAndType 23 17), (0, u "NOBODY"), (0, .methodref 25 26), (0, .class_ 27), (0, .nameAndType 28 29), (0, u "com/example/muster/muster/model/VisibilityShowsPinLaw"), (0, u "str"), (0, u "(ICC)Ljava/lang/String;"), (0, .methodref 13 31), (0, .nameAndType 32 33), (0, u "shows"), (0, u "(Ljava/lang/String;Ljava/lang/String;Z)Z"), (3, u "law"), (0, u "(III)Z")] 2

def k1m0 : Method := { name := "<init>", desc := "()V", sig := { parameters := [], returnType := none }, accessFlags := 1, code := none }
def k1c1 : Code := { maxStack := 6, maxLocals := 3, code := method_2_code, exceptionTable := #[], attributes := #[] }
def k1m1 : Method := { name := "str", desc := "(ICC)Ljava/lang/String;", sig := { parameters := [.int, .char, .char], returnType := some (.object "java/lang/String") }, accessFlags := 10, code := some k1c1 }
def k1c2 : Code := { maxStack := 4, maxLocals := 21, code := code, exceptionTable := #[], attributes := #[] }
def k1m2 : Method := { name := "law", desc := "(III)Z", sig := { parameters := [.int, .int, .int], returnType := some .boolean }, accessFlags := 9, code := some k1c2 }
/-- com/example/muster/muster/model/VisibilityShowsPinLaw -/
def k1 : Class := { plain "com/example/muster/muster/model/VisibilityShowsPinLaw" (some 0) with
  accessFlags := 49
  interfaces := #[]
  cf := some (fileOf pool1 25 #[] #[{ accessFlags := 1, nameIndex := 5, descriptorIndex := 6, attributes := #[] }, { accessFlags := 10, nameIndex := 28, descriptorIndex := 29, attributes := #[] }, { accessFlags := 9, nameIndex := 37, descriptorIndex := 38, attributes := #[] }] 49 2 #[] #[])
  fields := #[]
  methods := #[k1m0, k1m1, k1m2]
  instanceTypes := #[]
  staticTypes := #[]
  resolved := Array.replicate 41 none
  statics := none }

def pool2 : Array CpInfo := pool [(1, .class_ 2), (0, u "java/lang/constant/Constable"), (0, .class_ 4), (0, u "java/lang/Object")] 6

/-- java/lang/constant/Constable -/
def k2 : Class := { plain "java/lang/constant/Constable" (some 0) with
  accessFlags := 1537
  interfaces := #[]
  cf := some (fileOf pool2 1 #[] #[] 1537 3 #[] #[])
  fields := #[]
  methods := #[]
  instanceTypes := #[]
  staticTypes := #[]
  resolved := Array.replicate 11 none
  statics := none }

def pool3 : Array CpInfo := pool [(1, .class_ 2), (0, u "java/lang/Comparable"), (0, .class_ 4), (0, u "java/lang/Object")] 7

/-- java/lang/Comparable -/
def k3 : Class := { plain "java/lang/Comparable" (some 0) with
  accessFlags := 1537
  interfaces := #[]
  cf := some (fileOf pool3 1 #[] #[] 1537 3 #[] #[])
  fields := #[]
  methods := #[]
  instanceTypes := #[]
  staticTypes := #[]
  resolved := Array.replicate 12 none
  statics := none }

def pool4 : Array CpInfo := pool [(1, .class_ 2), (0, u "java/io/Serializable"), (0, .class_ 4), (0, u "java/lang/Object")] 2

/-- java/io/Serializable -/
def k4 : Class := { plain "java/io/Serializable" (some 0) with
  accessFlags := 1537
  interfaces := #[]
  cf := some (fileOf pool4 1 #[] #[] 1537 3 #[] #[])
  fields := #[]
  methods := #[]
  instanceTypes := #[]
  staticTypes := #[]
  resolved := Array.replicate 7 none
  statics := none }

def pool5 : Array CpInfo := pool [(2, .class_ 4), (1, u "java/lang/Enum"), (0, u "name"), (0, u "Ljava/lang/String;"), (2, u "ordinal"), (0, u "I"), (1, .class_ 14), (1, u "java/lang/Object"), (4, u "hash"), (86, .class_ 108), (1, u "java/lang/Enum$EnumDesc"), (2, .class_ 112), (0, u "java/lang/constant/Constable"), (0, .class_ 114), (0, u "java/lang/Comparable"), (0, .class_ 116), (0, u "java/io/Serializable")] 87

/-- java/lang/Enum -/
def k5 : Class := { plain "java/lang/Enum" (some 0) with
  accessFlags := 1057
  interfaces := #[2, 3, 4]
  cf := some (fileOf pool5 2 #[.nestMembers #[106]] #[] 1057 12 #[111, 113, 115] #[{ accessFlags := 18, nameIndex := 5, descriptorIndex := 6, attributes := #[] }, { accessFlags := 18, nameIndex := 9, descriptorIndex := 10, attributes := #[] }, { accessFlags := 2, nameIndex := 19, descriptorIndex := 10, attributes := #[] }])
  fields := #[{ name := "name", type := (.object "java/lang/String"), accessFlags := 18, slot := 0, constantValue := 0 }, { name := "ordinal", type := .int, accessFlags := 18, slot := 1, constantValue := 0 }, { name := "hash", type := .int, accessFlags := 2, slot := 2, constantValue := 0 }]
  methods := #[]
  instanceTypes := #[(.object "java/lang/String"), .int, .int]
  staticTypes := #[]
  resolved := Array.replicate 204 none
  statics := none }

def pool6 : Array CpInfo := pool [(1, .class_ 2), (0, u "com/example/muster/muster/model/Visibility"), (0, .fieldref 1 4), (0, .nameAndType 5 6), (0, u "EVERYONE"), (0, u "Lcom/example/muster/muster/model/Visibility;"), (0, .fieldref 1 8), (0, .nameAndType 9 6), (0, u "CONTACTS"), (2, u "NOBODY"), (2, u "$VALUES"), (0, u "[Lcom/example/muster/muster/model/Visibility;"), (6, .class_ 25), (1, u "java/lang/Enum"), (8, u "wireName"), (0, u "Ljava/lang/String;"), (4, .methodref 41 42), (0, .class_ 43), (0, .nameAndType 44 45), (0, u "java/lang/String"), (0, u "equals"), (0, u "(Ljava/lang/Object;)Z"), (17, u "DEFAULT"), (8, u "shows"), (0, u "(Ljava/lang/String;Ljava/lang/String;Z)Z")] 6

def k6c0 : Code := { maxStack := 2, maxLocals := 4, code := prog_19_method_5_code, exceptionTable := #[], attributes := #[] }
def k6m0 : Method := { name := "shows", desc := "(Ljava/lang/String;Ljava/lang/String;Z)Z", sig := { parameters := [(.object "java/lang/String"), (.object "java/lang/String"), .boolean], returnType := some .boolean }, accessFlags := 1, code := some k6c0 }
/-- com/example/muster/muster/model/Visibility -/
def k6 : Class := { plain "com/example/muster/muster/model/Visibility" (some 5) with
  accessFlags := 16433
  interfaces := #[]
  cf := some (fileOf pool6 1 #[] #[{ accessFlags := 1, nameIndex := 72, descriptorIndex := 73, attributes := #[] }] 16433 23 #[] #[{ accessFlags := 16409, nameIndex := 5, descriptorIndex := 6, attributes := #[] }, { accessFlags := 16409, nameIndex := 9, descriptorIndex := 6, attributes := #[] }, { accessFlags := 16409, nameIndex := 12, descriptorIndex := 6, attributes := #[] }, { accessFlags := 25, nameIndex := 63, descriptorIndex := 6, attributes := #[] }, { accessFlags := 18, nameIndex := 34, descriptorIndex := 35, attributes := #[] }, { accessFlags := 4122, nameIndex := 15, descriptorIndex := 16, attributes := #[] }])
  fields := #[{ name := "EVERYONE", type := (.object "com/example/muster/muster/model/Visibility"), accessFlags := 16409, slot := 0, constantValue := 0 }, { name := "CONTACTS", type := (.object "com/example/muster/muster/model/Visibility"), accessFlags := 16409, slot := 1, constantValue := 0 }, { name := "NOBODY", type := (.object "com/example/muster/muster/model/Visibility"), accessFlags := 16409, slot := 2, constantValue := 0 }, { name := "DEFAULT", type := (.object "com/example/muster/muster/model/Visibility"), accessFlags := 25, slot := 3, constantValue := 0 }, { name := "wireName", type := (.object "java/lang/String"), accessFlags := 18, slot := 3, constantValue := 0 }, { name := "$VALUES", type := (.array (.object "com/example/muster/muster/model/Visibility")), accessFlags := 4122, slot := 4, constantValue := 0 }]
  methods := #[k6m0]
  instanceTypes := #[(.object "java/lang/String"), .int, .int, (.object "java/lang/String")]
  staticTypes := #[(.object "com/example/muster/muster/model/Visibility"), (.object "com/example/muster/muster/model/Visibility"), (.object "com/example/muster/muster/model/Visibility"), (.object "com/example/muster/muster/model/Visibility"), (.array (.object "com/example/muster/muster/model/Visibility"))]
  resolved := Array.replicate 80 none
  statics := some 0 }

def pool7 : Array CpInfo := pool [(2, .class_ 4), (1, u "java/lang/CharSequence"), (42, .class_ 48), (0, u "java/lang/CharSequence$1CodePointIterator"), (10, .class_ 60), (0, u "java/lang/CharSequence$1CharIterator"), (5, .class_ 67), (0, u "java/lang/Object")] 63

/-- java/lang/CharSequence -/
def k7 : Class := { plain "java/lang/CharSequence" (some 0) with
  accessFlags := 1537
  interfaces := #[]
  cf := some (fileOf pool7 2 #[.nestMembers #[47, 59]] #[] 1537 66 #[] #[])
  fields := #[]
  methods := #[]
  instanceTypes := #[]
  staticTypes := #[]
  resolved := Array.replicate 131 none
  statics := none }

def pool8 : Array CpInfo := pool [(1, .class_ 2), (0, u "java/lang/constant/ConstantDesc"), (0, .class_ 4), (0, u "java/lang/Object")] 32

/-- java/lang/constant/ConstantDesc -/
def k8 : Class := { plain "java/lang/constant/ConstantDesc" (some 0) with
  accessFlags := 1537
  interfaces := #[]
  cf := some (fileOf pool8 1 #[] #[] 1537 3 #[] #[])
  fields := #[]
  methods := #[]
  instanceTypes := #[]
  staticTypes := #[]
  resolved := Array.replicate 37 none
  statics := none }

def pool9 : Array CpInfo := pool [(1, .methodref 2 3), (0, .class_ 4), (0, .nameAndType 5 6), (0, u "java/lang/Object"), (0, u "<init>"), (0, u "()V"), (0, .string 8), (0, u ""), (0, .fieldref 10 11), (0, .class_ 12), (0, .nameAndType 13 14), (0, u "java/lang/String"), (0, u "value"), (0, u "[B"), (0, .fieldref 10 16), (0, .nameAndType 17 18), (0, u "coder"), (0, u "B"), (2, u "hash"), (0, u "I"), (2, u "hashIsZero"), (0, u "Z"), (0, .methodref 10 28), (0, .nameAndType 5 29), (0, u "([CIILjava/lang/Void;)V"), (8, .fieldref 10 39), (0, .nameAndType 40 26), (0, u "COMPACT_STRINGS"), (1, .class_ 44), (1, u "java/lang/StringUTF16"), (0, u "compress"), (1, .methodref 42 48), (0, .nameAndType 49 50), (0, u "coderFromArrayLen"), (0, u "([BI)B"), (56, .class_ 109), (1, u "java/lang/StringLatin1"), (67, .methodref 42 178), (0, .nameAndType 45 179), (0, u "([CII)[B"), (361, .methodref 107 542), (0, .nameAndType 543 544), (0, u "equals"), (0, u "([B[B)Z"), (28, u "(Ljava/lang/Object;)Z"), (1, .class_ 576), (0, u "java/lang/CharSequence"), (22, u "CASE_INSENSITIVE_ORDER"), (0, u "Ljava/util/Comparator;"), (409, u "([C)V"), (90, u "serialPersistentFields"), (0, u "[Ljava/io/ObjectStreamField;"), (0, .class_ 1104), (0, u "java/lang/String$CaseInsensitiveComparator"), (1, .class_ 1107), (0, u "java/io/Serializable"), (0, .class_ 1109), (0, u "java/lang/Comparable"), (0, .class_ 1111), (0, u "java/lang/constant/Constable"), (0, .class_ 1113), (0, u "java/lang/constant/ConstantDesc"), (2, u "serialVersionUID"), (0, u "J"), (3, u "REPL"), (0, u "C"), (2, u "LATIN1"), (1, u "UTF16")] 323

def k9m0 : Method := { name := "<init>", desc := "()V", sig := { parameters := [], returnType := none }, accessFlags := 1, code := none }
def k9c1 : Code := { maxStack := 5, maxLocals := 2, code := jdk_42_method_3_code, exceptionTable := #[], attributes := #[] }
def k9m1 : Method := { name := "<init>", desc := "([C)V", sig := { parameters := [(.array .char)], returnType := none }, accessFlags := 1, code := some k9c1 }
def k9c2 : Code := { maxStack := 2, maxLocals := 3, code := jdk_42_method_66_code, exceptionTable := #[], attributes := #[] }
def k9m2 : Method := { name := "equals", desc := "(Ljava/lang/Object;)Z", sig := { parameters := [(.object "java/lang/Object")], returnType := some .boolean }, accessFlags := 1, code := some k9c2 }
def k9c3 : Code := { maxStack := 4, maxLocals := 6, code := jdk_42_method_149_code, exceptionTable := #[], attributes := #[] }
def k9m3 : Method := { name := "<init>", desc := "([CIILjava/lang/Void;)V", sig := { parameters := [(.array .char), .int, .int, (.object "java/lang/Void")], returnType := none }, accessFlags := 2, code := some k9c3 }
/-- java/lang/String -/
def k9 : Class := { plain "java/lang/String" (some 0) with
  accessFlags := 49
  interfaces := #[4, 3, 7, 2, 8]
  cf := some (fileOf pool9 10 #[.nestMembers #[1103]] #[{ accessFlags := 1, nameIndex := 5, descriptorIndex := 6, attributes := #[] }, { accessFlags := 1, nameIndex := 5, descriptorIndex := 1010, attributes := #[] }, { accessFlags := 1, nameIndex := 543, descriptorIndex := 573, attributes := #[] }, { accessFlags := 2, nameIndex := 5, descriptorIndex := 29, attributes := #[] }] 49 2 #[1106, 1108, 575, 1110, 1112] #[{ accessFlags := 18, nameIndex := 13, descriptorIndex := 14, attributes := #[] }, { accessFlags := 18, nameIndex := 17, descriptorIndex := 18, attributes := #[] }, { accessFlags := 2, nameIndex := 21, descriptorIndex := 22, attributes := #[] }, { accessFlags := 2, nameIndex := 25, descriptorIndex := 26, attributes := #[] }, { accessFlags := 26, nameIndex := 1116, descriptorIndex := 1117, attributes := #[] }, { accessFlags := 24, nameIndex := 40, descriptorIndex := 26, attributes := #[] }, { accessFlags := 26, nameIndex := 1101, descriptorIndex := 1102, attributes := #[] }, { accessFlags := 26, nameIndex := 1121, descriptorIndex := 1122, attributes := #[] }, { accessFlags := 25, nameIndex := 599, descriptorIndex := 600, attributes := #[] }, { accessFlags := 24, nameIndex := 1125, descriptorIndex := 18, attributes := #[] }, { accessFlags := 24, nameIndex := 1127, descriptorIndex := 18, attributes := #[] }])
  fields := #[{ name := "value", type := (.array .byte), accessFlags := 18, slot := 0, constantValue := 0 }, { name := "coder", type := .byte, accessFlags := 18, slot := 1, constantValue := 0 }, { name := "hash", type := .int, accessFlags := 2, slot := 2, constantValue := 0 }, { name := "hashIsZero", type := .boolean, accessFlags := 2, slot := 3, constantValue := 0 }, { name := "serialVersionUID", type := .long, accessFlags := 26, slot := 0, constantValue := 0 }, { name := "COMPACT_STRINGS", type := .boolean, accessFlags := 24, slot := 1, constantValue := 0 }, { name := "serialPersistentFields", type := (.array (.object "java/io/ObjectStreamField")), accessFlags := 26, slot := 2, constantValue := 0 }, { name := "REPL", type := .char, accessFlags := 26, slot := 3, constantValue := 0 }, { name := "CASE_INSENSITIVE_ORDER", type := (.object "java/util/Comparator"), accessFlags := 25, slot := 4, constantValue := 0 }, { name := "LATIN1", type := .byte, accessFlags := 24, slot := 5, constantValue := 0 }, { name := "UTF16", type := .byte, accessFlags := 24, slot := 6, constantValue := 0 }]
  methods := #[k9m0, k9m1, k9m2, k9m3]
  instanceTypes := #[(.array .byte), .byte, .int, .boolean]
  staticTypes := #[.long, .boolean, (.array (.object "java/io/ObjectStreamField")), .char, (.object "java/util/Comparator"), .byte, .byte]
  resolved := Array.replicate 1451 none
  statics := some 1 }

def pool10 : Array CpInfo := pool [(6, .class_ 8), (1, u "java/lang/Object"), (0, u "<init>"), (0, u "()V"), (1, .class_ 14), (1, u "java/lang/StringUTF16"), (31, u "$assertionsDisabled"), (0, u "Z"), (13, u "HI_BYTE_SHIFT"), (0, u "I"), (2, u "LO_BYTE_SHIFT"), (49, .methodref 12 116), (0, .nameAndType 117 118), (0, u "compress"), (0, u "([CI[BII)I"), (3, u "([CII)[B"), (138, u "coderFromArrayLen"), (0, u "([BI)B"), (106, .class_ 371), (1, u "java/lang/StringUTF16$LinesSpliterator"), (58, u "MAX_LENGTH"), (196, .class_ 628), (0, u "java/lang/StringUTF16$CodePointsSpliterator"), (0, .class_ 630), (0, u "java/lang/StringUTF16$CharsSpliterator")] 4

def k10m0 : Method := { name := "<init>", desc := "()V", sig := { parameters := [], returnType := none }, accessFlags := 0, code := none }
def k10c1 : Code := { maxStack := 2, maxLocals := 2, code := jdk_52_method_15_code, exceptionTable := #[], attributes := #[] }
def k10m1 : Method := { name := "coderFromArrayLen", desc := "([BI)B", sig := { parameters := [(.array .byte), .int], returnType := some .byte }, accessFlags := 8, code := some k10c1 }
def k10c2 : Code := { maxStack := 5, maxLocals := 6, code := jdk_52_method_16_code, exceptionTable := #[], attributes := #[] }
def k10m2 : Method := { name := "compress", desc := "([CII)[B", sig := { parameters := [(.array .char), .int, .int], returnType := some (.array .byte) }, accessFlags := 9, code := some k10c2 }
def k10c3 : Code := { maxStack := 3, maxLocals := 7, code := jdk_52_method_21_code, exceptionTable := #[], attributes := #[] }
def k10m3 : Method := { name := "compress", desc := "([CI[BII)I", sig := { parameters := [(.array .char), .int, (.array .byte), .int, .int], returnType := some .int }, accessFlags := 9, code := some k10c3 }
/-- java/lang/StringUTF16 -/
def k10 : Class := { plain "java/lang/StringUTF16" (some 0) with
  accessFlags := 48
  interfaces := #[]
  cf := some (fileOf pool10 12 #[.nestMembers #[627, 629, 369]] #[{ accessFlags := 0, nameIndex := 9, descriptorIndex := 10, attributes := #[] }, { accessFlags := 8, nameIndex := 261, descriptorIndex := 262, attributes := #[] }, { accessFlags := 9, nameIndex := 117, descriptorIndex := 122, attributes := #[] }, { accessFlags := 9, nameIndex := 117, descriptorIndex := 118, attributes := #[] }] 48 6 #[] #[{ accessFlags := 26, nameIndex := 61, descriptorIndex := 62, attributes := #[] }, { accessFlags := 26, nameIndex := 65, descriptorIndex := 62, attributes := #[] }, { accessFlags := 24, nameIndex := 430, descriptorIndex := 62, attributes := #[] }, { accessFlags := 4120, nameIndex := 46, descriptorIndex := 47, attributes := #[] }])
  fields := #[{ name := "HI_BYTE_SHIFT", type := .int, accessFlags := 26, slot := 0, constantValue := 0 }, { name := "LO_BYTE_SHIFT", type := .int, accessFlags := 26, slot := 1, constantValue := 0 }, { name := "MAX_LENGTH", type := .int, accessFlags := 24, slot := 2, constantValue := 0 }, { name := "$assertionsDisabled", type := .boolean, accessFlags := 4120, slot := 3, constantValue := 0 }]
  methods := #[k10m0, k10m1, k10m2, k10m3]
  instanceTypes := #[]
  staticTypes := #[.int, .int, .int, .boolean]
  resolved := Array.replicate 635 none
  statics := none }

def pool11 : Array CpInfo := pool [(4, .class_ 6), (1, u "java/lang/Object"), (0, u "<init>"), (0, u "()V"), (5, .class_ 16), (1, u "java/lang/StringLatin1"), (104, u "$assertionsDisabled"), (0, u "Z"), (98, .class_ 223), (1, u "java/lang/StringLatin1$LinesSpliterator"), (57, u "equals"), (0, u "([B[B)Z"), (107, .class_ 391), (0, u "java/lang/StringLatin1$CharsSpliterator")] 3

def k11m0 : Method := { name := "<init>", desc := "()V", sig := { parameters := [], returnType := none }, accessFlags := 0, code := none }
def k11c1 : Code := { maxStack := 3, maxLocals := 3, code := jdk_43_method_13_code, exceptionTable := #[], attributes := #[] }
def k11m1 : Method := { name := "equals", desc := "([B[B)Z", sig := { parameters := [(.array .byte), (.array .byte)], returnType := some .boolean }, accessFlags := 9, code := some k11c1 }
/-- java/lang/StringLatin1 -/
def k11 : Class := { plain "java/lang/StringLatin1" (some 0) with
  accessFlags := 48
  interfaces := #[]
  cf := some (fileOf pool11 14 #[.nestMembers #[390, 221]] #[{ accessFlags := 0, nameIndex := 7, descriptorIndex := 8, attributes := #[] }, { accessFlags := 9, nameIndex := 281, descriptorIndex := 282, attributes := #[] }] 48 4 #[] #[{ accessFlags := 4120, nameIndex := 121, descriptorIndex := 122, attributes := #[] }])
  fields := #[{ name := "$assertionsDisabled", type := .boolean, accessFlags := 4120, slot := 0, constantValue := 0 }]
  methods := #[k11m0, k11m1]
  instanceTypes := #[]
  staticTypes := #[.boolean]
  resolved := Array.replicate 395 none
  statics := none }

def pool12 : Array CpInfo := pool [(2, .class_ 4), (1, u "java/lang/Object"), (0, u "<init>"), (0, u "()V"), (17, .class_ 26), (1, u "jdk/internal/util/Preconditions"), (28, .class_ 56), (0, u "jdk/internal/util/Preconditions$4"), (57, .class_ 115), (0, u "jdk/internal/util/Preconditions$1"), (7, u "SIOOBE_FORMATTER"), (0, u "Ljava/util/function/BiFunction;"), (0, .class_ 126), (0, u "jdk/internal/util/Preconditions$2"), (3, u "AIOOBE_FORMATTER"), (0, .class_ 132), (0, u "jdk/internal/util/Preconditions$3"), (3, u "IOOBE_FORMATTER")] 57

def k12m0 : Method := { name := "<init>", desc := "()V", sig := { parameters := [], returnType := none }, accessFlags := 1, code := none }
/-- jdk/internal/util/Preconditions -/
def k12 : Class := { plain "jdk/internal/util/Preconditions" (some 0) with
  accessFlags := 33
  interfaces := #[]
  cf := some (fileOf pool12 24 #[.nestMembers #[55, 131, 125, 114]] #[{ accessFlags := 1, nameIndex := 5, descriptorIndex := 6, attributes := #[] }] 33 2 #[] #[{ accessFlags := 25, nameIndex := 123, descriptorIndex := 124, attributes := #[] }, { accessFlags := 25, nameIndex := 130, descriptorIndex := 124, attributes := #[] }, { accessFlags := 25, nameIndex := 136, descriptorIndex := 124, attributes := #[] }])
  fields := #[{ name := "SIOOBE_FORMATTER", type := (.object "java/util/function/BiFunction"), accessFlags := 25, slot := 0, constantValue := 0 }, { name := "AIOOBE_FORMATTER", type := (.object "java/util/function/BiFunction"), accessFlags := 25, slot := 1, constantValue := 0 }, { name := "IOOBE_FORMATTER", type := (.object "java/util/function/BiFunction"), accessFlags := 25, slot := 2, constantValue := 0 }]
  methods := #[k12m0]
  instanceTypes := #[]
  staticTypes := #[(.object "java/util/function/BiFunction"), (.object "java/util/function/BiFunction"), (.object "java/util/function/BiFunction")]
  resolved := Array.replicate 194 none
  statics := some 2 }

def pool13 : Array CpInfo := pool [(9, u "<init>"), (6, .class_ 18), (1, u "java/lang/Object"), (0, u "()V"), (1, .class_ 23), (1, u "jdk/internal/util/ArraysSupport"), (0, u "LOG2_ARRAY_LONG_INDEX_SCALE"), (0, u "I"), (2, u "U"), (0, u "Ljdk/internal/misc/Unsafe;"), (8, u "BIG_ENDIAN"), (0, u "Z"), (8, u "LOG2_BYTE_BIT_SIZE"), (4, u "LOG2_ARRAY_INT_INDEX_SCALE"), (54, u "JLA"), (0, u "Ljdk/internal/access/JavaLangAccess;"), (11, u "LOG2_ARRAY_BOOLEAN_INDEX_SCALE"), (9, u "LOG2_ARRAY_BYTE_INDEX_SCALE"), (5, u "LOG2_ARRAY_CHAR_INDEX_SCALE"), (5, u "LOG2_ARRAY_SHORT_INDEX_SCALE"), (18, u "LOG2_ARRAY_FLOAT_INDEX_SCALE"), (24, u "LOG2_ARRAY_DOUBLE_INDEX_SCALE"), (89, u "T_BOOLEAN"), (2, u "T_CHAR"), (1, u "T_FLOAT"), (1, u "T_DOUBLE"), (1, u "T_BYTE"), (1, u "T_SHORT"), (1, u "T_INT"), (1, u "T_LONG"), (1, u "SOFT_MAX_ARRAY_LENGTH")] 83

def k13m0 : Method := { name := "<init>", desc := "()V", sig := { parameters := [], returnType := none }, accessFlags := 2, code := none }
/-- jdk/internal/util/ArraysSupport -/
def k13 : Class := { plain "jdk/internal/util/ArraysSupport" (some 0) with
  accessFlags := 33
  interfaces := #[]
  cf := some (fileOf pool13 21 #[] #[{ accessFlags := 2, nameIndex := 9, descriptorIndex := 19, attributes := #[] }] 33 16 #[] #[{ accessFlags := 24, nameIndex := 28, descriptorIndex := 29, attributes := #[] }, { accessFlags := 26, nameIndex := 38, descriptorIndex := 39, attributes := #[] }, { accessFlags := 25, nameIndex := 121, descriptorIndex := 25, attributes := #[] }, { accessFlags := 25, nameIndex := 131, descriptorIndex := 25, attributes := #[] }, { accessFlags := 25, nameIndex := 137, descriptorIndex := 25, attributes := #[] }, { accessFlags := 25, nameIndex := 143, descriptorIndex := 25, attributes := #[] }, { accessFlags := 25, nameIndex := 53, descriptorIndex := 25, attributes := #[] }, { accessFlags := 25, nameIndex := 24, descriptorIndex := 25, attributes := #[] }, { accessFlags := 25, nameIndex := 162, descriptorIndex := 25, attributes := #[] }, { accessFlags := 25, nameIndex := 187, descriptorIndex := 25, attributes := #[] }, { accessFlags := 26, nameIndex := 48, descriptorIndex := 25, attributes := #[] }, { accessFlags := 25, nameIndex := 277, descriptorIndex := 25, attributes := #[] }, { accessFlags := 25, nameIndex := 280, descriptorIndex := 25, attributes := #[] }, { accessFlags := 25, nameIndex := 282, descriptorIndex := 25, attributes := #[] }, { accessFlags := 25, nameIndex := 284, descriptorIndex := 25, attributes := #[] }, { accessFlags := 25, nameIndex := 286, descriptorIndex := 25, attributes := #[] }, { accessFlags := 25, nameIndex := 288, descriptorIndex := 25, attributes := #[] }, { accessFlags := 25, nameIndex := 290, descriptorIndex := 25, attributes := #[] }, { accessFlags := 25, nameIndex := 292, descriptorIndex := 25, attributes := #[] }, { accessFlags := 26, nameIndex := 108, descriptorIndex := 109, attributes := #[] }, { accessFlags := 25, nameIndex := 294, descriptorIndex := 25, attributes := #[] }])
  fields := #[{ name := "U", type := (.object "jdk/internal/misc/Unsafe"), accessFlags := 24, slot := 0, constantValue := 0 }, { name := "BIG_ENDIAN", type := .boolean, accessFlags := 26, slot := 1, constantValue := 0 }, { name := "LOG2_ARRAY_BOOLEAN_INDEX_SCALE", type := .int, accessFlags := 25, slot := 2, constantValue := 0 }, { name := "LOG2_ARRAY_BYTE_INDEX_SCALE", type := .int, accessFlags := 25, slot := 3, constantValue := 0 }, { name := "LOG2_ARRAY_CHAR_INDEX_SCALE", type := .int, accessFlags := 25, slot := 4, constantValue := 0 }, { name := "LOG2_ARRAY_SHORT_INDEX_SCALE", type := .int, accessFlags := 25, slot := 5, constantValue := 0 }, { name := "LOG2_ARRAY_INT_INDEX_SCALE", type := .int, accessFlags := 25, slot := 6, constantValue := 0 }, { name := "LOG2_ARRAY_LONG_INDEX_SCALE", type := .int, accessFlags := 25, slot := 7, constantValue := 0 }, { name := "LOG2_ARRAY_FLOAT_INDEX_SCALE", type := .int, accessFlags := 25, slot := 8, constantValue := 0 }, { name := "LOG2_ARRAY_DOUBLE_INDEX_SCALE", type := .int, accessFlags := 25, slot := 9, constantValue := 0 }, { name := "LOG2_BYTE_BIT_SIZE", type := .int, accessFlags := 26, slot := 10, constantValue := 0 }, { name := "T_BOOLEAN", type := .int, accessFlags := 25, slot := 11, constantValue := 0 }, { name := "T_CHAR", type := .int, accessFlags := 25, slot := 12, constantValue := 0 }, { name := "T_FLOAT", type := .int, accessFlags := 25, slot := 13, constantValue := 0 }, { name := "T_DOUBLE", type := .int, accessFlags := 25, slot := 14, constantValue := 0 }, { name := "T_BYTE", type := .int, accessFlags := 25, slot := 15, constantValue := 0 }, { name := "T_SHORT", type := .int, accessFlags := 25, slot := 16, constantValue := 0 }, { name := "T_INT", type := .int, accessFlags := 25, slot := 17, constantValue := 0 }, { name := "T_LONG", type := .int, accessFlags := 25, slot := 18, constantValue := 0 }, { name := "JLA", type := (.object "jdk/internal/access/JavaLangAccess"), accessFlags := 26, slot := 19, constantValue := 0 }, { name := "SOFT_MAX_ARRAY_LENGTH", type := .int, accessFlags := 25, slot := 20, constantValue := 0 }]
  methods := #[k13m0]
  instanceTypes := #[]
  staticTypes := #[(.object "jdk/internal/misc/Unsafe"), .boolean, .int, .int, .int, .int, .int, .int, .int, .int, .int, .int, .int, .int, .int, .int, .int, .int, .int, (.object "jdk/internal/access/JavaLangAccess"), .int]
  resolved := Array.replicate 378 none
  statics := none }

def pool14 : Array CpInfo := pool [(1, u "java/lang/Cloneable"), (0, .class_ 1), (0, u "java/lang/Object"), (0, .class_ 3)] 3

/-- java/lang/Cloneable -/
def k14 : Class := { plain "java/lang/Cloneable" (some 0) with
  accessFlags := 1537
  interfaces := #[]
  cf := some (fileOf pool14 2 #[] #[] 1537 4 #[] #[])
  fields := #[]
  methods := #[]
  instanceTypes := #[]
  staticTypes := #[]
  resolved := Array.replicate 8 none
  statics := none }

/-- the primitive byte -/
def k15 : Class := { plain "byte" none with kind := .primitive 'B', accessFlags := 0x411 }
/-- [B -/
def k16 : Class := { plain "[B" (some 0) with kind := .array 15 .byte, interfaces := #[14, 4], accessFlags := 1041 }

/-- the primitive char -/
def k17 : Class := { plain "char" none with kind := .primitive 'C', accessFlags := 0x411 }
/-- [C -/
def k18 : Class := { plain "[C" (some 0) with kind := .array 17 .char, interfaces := #[14, 4], accessFlags := 1041 }

/-- the primitive int -/
def k19 : Class := { plain "int" none with kind := .primitive 'I', accessFlags := 0x411 }
/-- [I -/
def k20 : Class := { plain "[I" (some 0) with kind := .array 19 .int, interfaces := #[14, 4], accessFlags := 1041 }

def heap : Heap := #[{ cls := 6, slots := #[.ref 3, .ref 4, .ref 5, .null, .null], vm := .statics 6 },
  { cls := 9, slots := #[.long 0, .int 1, .null, .int 0, .null, .int 0, .int 0], vm := .statics 9 },
  { cls := 12, slots := #[.null, .null, .null], vm := .statics 12 },
  { cls := 6, slots := #[.null, .int 0, .int 0, .null], vm := .none },
  { cls := 6, slots := #[.null, .int 1, .int 0, .null], vm := .none },
  { cls := 6, slots := #[.null, .int 2, .int 0, .null], vm := .none }]
def classes : Array Class := #[k0, k1, k2, k3, k4, k5, k6, k7, k8, k9, k10, k11, k12, k13, k14, k15, k16, k17, k18, k19, k20]
def interned : List (Array UInt16 × Addr) := []
def slotsUsed : Nat := 27
def theMethod : MethodId := ⟨1, 2⟩
def args0 : Array Value := #[.int 37, .int 7, .int 1]
def aboutOver (below : List Frame) : State where
  vm := { classes := classes, interned := interned.toArray }
  heap := heap
  slotsUsed := slotsUsed
  threads := #[{ frames := .invoking theMethod args0 :: below }]
def below0 : List Frame := [.native { method := ⟨0, 0⟩, args := #[] }]
def about1 : State := aboutOver below0
def p0 : Program := .bare "" "" ""
def e0 : Env := launch0.env 0 0 0
theorem w_frames : about1.frames = Frame.invoking theMethod args0 :: below0 := rfl
set_option maxRecDepth 65536 in
theorem w_args : argsFit about1.vm theMethod args0 = true := by decide +kernel
set_option maxRecDepth 65536 in
theorem w_heap : heapFits about1 = true := by decide +kernel
set_option maxRecDepth 65536 in
theorem w_runnable : about1.curStatus? = some .runnable := by decide +kernel
set_option maxRecDepth 65536 in
theorem w_alone : about1.alone = true := by decide +kernel
set_option maxRecDepth 65536 in
theorem w_named : about1.methodNamed? x = some theMethod := by decide +kernel
set_option maxRecDepth 65536 in
theorem w_hears : about1.hears theMethod below0 = true := by decide +kernel
set_option maxRecDepth 65536 in
theorem w_ripe : about1.ripe theMethod args0 below0 = true := by decide +kernel
theorem w_running : about1.status = .running := rfl
set_option maxRecDepth 65536 in
theorem w_room : about1.hasRoom e0.platform room_1 = true :=
  launch0.hasRoom_least _ room_1 (by decide +kernel) (by decide +kernel) (by decide +kernel) (by decide +kernel) (by decide +kernel) (by decide +kernel)
theorem allAtoms_all (ts : List Jvm.Cond) (a : Array Jvm.Value) (st : Jvm.State) : (allAtoms ts).before a st = ts.all (fun c => c.before a st) := by
  induction ts with
  | nil => rfl
  | cons c t ih =>
    show (Jvm.Cond.and c (allAtoms t)).before a st = _
    rw [Jvm.Cond.before_and, ih, List.all_cons]
def words1 : List Jvm.Cond := Jvm.Cond.code x code maxLocals ret :: tables_1
/-- a 'code' word, met by the world's own term for the bytes: nothing is compared byte by byte -/
theorem code_word {y : MethodName} {bytes : ByteArray} {mx : Nat} {rt : Option FieldType} {a : Array Value} {s : State} {m : MethodId} {meth : Method} {c : Code} (h1 : s.methodNamed? y = some m) (h2 : s.vm.method? m = some meth) (h3 : meth.code = some c) (h4 : c.code = bytes)
    (h5 : (c.maxLocals == mx && c.exceptionTable.isEmpty && decide (c.maxStack ≤ mostOperands) && decide (meth.sig.returnType = rt) && !meth.locks && decide (parseMethodDescriptor y.desc = some meth.sig)) = true) : (Jvm.Cond.code y bytes mx rt).before a s = true := by
  simp only [Bool.and_eq_true, beq_iff_eq, Bool.not_eq_true', decide_eq_true_eq] at h5
  obtain ⟨⟨⟨⟨⟨g1, g2⟩, g3⟩, g4⟩, g5⟩, g6⟩ := h5
  simp [Cond.before, Cond.holds, Cond.value, h1, h2, h3, h4, g1, g2, g3, g4, g5, g6]
def isCode : Jvm.Cond → Bool
  | .code _ _ _ _ => true
  | _ => false
theorem all_split {L : List Jvm.Cond} {P : Jvm.Cond → Bool} (h1 : L.all (fun c => isCode c || P c) = true) (h2 : ∀ c ∈ L.filter isCode, P c = true) : L.all P = true := by
  refine List.all_eq_true.mpr fun c hc => ?_
  have h := List.all_eq_true.mp h1 c hc
  rcases Bool.eq_false_or_eq_true (isCode c) with hi | hi
  · exact h2 c (List.mem_filter.mpr ⟨hc, hi⟩)
  · simpa [hi] using h
set_option maxRecDepth 65536 in
theorem w_c0 : (Jvm.Cond.code x code maxLocals ret).before args0 about1 = true := code_word (m := ⟨1, 2⟩) (meth := k1m2) (c := k1c2) (by decide +kernel) rfl rfl rfl (by decide +kernel)
set_option maxRecDepth 65536 in
theorem w_c1 : (Jvm.Cond.code ({ cls := "com/example/muster/muster/model/VisibilityShowsPinLaw", name := "str", desc := "(ICC)Ljava/lang/String;" } : Jvm.MethodName) method_2_code (3 : Nat) (Option.some (Jvm.ClassFile.FieldType.object "java/lang/String"))).before args0 about1 = true := code_word (m := ⟨1, 1⟩) (meth := k1m1) (c := k1c1) (by decide +kernel) rfl rfl rfl (by decide +kernel)
set_option maxRecDepth 65536 in
theorem w_c2 : (Jvm.Cond.code ({ cls := "java/lang/String", name := "<init>", desc := "([C)V" } : Jvm.MethodName) jdk_42_method_3_code (2 : Nat) (Option.none : Option Jvm.ClassFile.FieldType)).before args0 about1 = true := code_word (m := ⟨9, 1⟩) (meth := k9m1) (c := k9c1) (by decide +kernel) rfl rfl rfl (by decide +kernel)
set_option maxRecDepth 65536 in
theorem w_c3 : (Jvm.Cond.code ({ cls := "java/lang/String", name := "<init>", desc := "([CIILjava/lang/Void;)V" } : Jvm.MethodName) jdk_42_method_149_code (6 : Nat) (Option.none : Option Jvm.ClassFile.FieldType)).before args0 about1 = true := code_word (m := ⟨9, 3⟩) (meth := k9m3) (c := k9c3) (by decide +kernel) rfl rfl rfl (by decide +kernel)
set_option maxRecDepth 65536 in
theorem w_c4 : (Jvm.Cond.code ({ cls := "java/lang/Object", name := "<init>", desc := "()V" } : Jvm.MethodName) object_method_1_code (1 : Nat) (Option.none : Option Jvm.ClassFile.FieldType)).before args0 about1 = true := code_word (m := ⟨0, 0⟩) (meth := k0m0) (c := k0c0) (by decide +kernel) rfl rfl rfl (by decide +kernel)
set_option maxRecDepth 65536 in
theorem w_c5 : (Jvm.Cond.code ({ cls := "com/example/muster/muster/model/Visibility", name := "shows", desc := "(Ljava/lang/String;Ljava/lang/String;Z)Z" } : Jvm.MethodName) prog_19_method_5_code (4 : Nat) (Option.some Jvm.ClassFile.FieldType.boolean)).before args0 about1 = true := code_word (m := ⟨6, 0⟩) (meth := k6m0) (c := k6c0) (by decide +kernel) rfl rfl rfl (by decide +kernel)
set_option maxRecDepth 65536 in
theorem w_c6 : (Jvm.Cond.code ({ cls := "java/lang/StringUTF16", name := "compress", desc := "([CII)[B" } : Jvm.MethodName) jdk_52_method_16_code (6 : Nat) (Option.some (Jvm.ClassFile.FieldType.array Jvm.ClassFile.FieldType.byte))).before args0 about1 = true := code_word (m := ⟨10, 2⟩) (meth := k10m2) (c := k10c2) (by decide +kernel) rfl rfl rfl (by decide +kernel)
set_option maxRecDepth 65536 in
theorem w_c7 : (Jvm.Cond.code ({ cls := "java/lang/StringUTF16", name := "compress", desc := "([CI[BII)I" } : Jvm.MethodName) jdk_52_method_21_code (7 : Nat) (Option.some Jvm.ClassFile.FieldType.int)).before args0 about1 = true := code_word (m := ⟨10, 3⟩) (meth := k10m3) (c := k10c3) (by decide +kernel) rfl rfl rfl (by decide +kernel)
set_option maxRecDepth 65536 in
theorem w_c8 : (Jvm.Cond.code ({ cls := "java/lang/StringUTF16", name := "coderFromArrayLen", desc := "([BI)B" } : Jvm.MethodName) jdk_52_method_15_code (2 : Nat) (Option.some Jvm.ClassFile.FieldType.byte)).before args0 about1 = true := code_word (m := ⟨10, 1⟩) (meth := k10m1) (c := k10c1) (by decide +kernel) rfl rfl rfl (by decide +kernel)
set_option maxRecDepth 65536 in
theorem w_c9 : (Jvm.Cond.code ({ cls := "java/lang/String", name := "equals", desc := "(Ljava/lang/Object;)Z" } : Jvm.MethodName) jdk_42_method_66_code (3 : Nat) (Option.some Jvm.ClassFile.FieldType.boolean)).before args0 about1 = true := code_word (m := ⟨9, 2⟩) (meth := k9m2) (c := k9c2) (by decide +kernel) rfl rfl rfl (by decide +kernel)
set_option maxRecDepth 65536 in
theorem w_c10 : (Jvm.Cond.code ({ cls := "java/lang/StringLatin1", name := "equals", desc := "([B[B)Z" } : Jvm.MethodName) jdk_43_method_13_code (3 : Nat) (Option.some Jvm.ClassFile.FieldType.boolean)).before args0 about1 = true := code_word (m := ⟨11, 1⟩) (meth := k11m1) (c := k11c1) (by decide +kernel) rfl rfl rfl (by decide +kernel)
def codes1 : List Jvm.Cond := [Jvm.Cond.code x code maxLocals ret, Jvm.Cond.code ({ cls := "com/example/muster/muster/model/VisibilityShowsPinLaw", name := "str", desc := "(ICC)Ljava/lang/String;" } : Jvm.MethodName) method_2_code (3 : Nat) (Option.some (Jvm.ClassFile.FieldType.object "java/lang/String")), Jvm.Cond.code ({ cls := "java/lang/String", name := "<init>", desc := "([C)V" } : Jvm.MethodName) jdk_42_method_3_code (2 : Nat) (Option.none : Option Jvm.ClassFile.FieldType), Jvm.Cond.code ({ cls := "java/lang/String", name := "<init>", desc := "([CIILjava/lang/Void;)V" } : Jvm.MethodName) jdk_42_method_149_code (6 : Nat) (Option.none : Option Jvm.ClassFile.FieldType), Jvm.Cond.code ({ cls := "java/lang/Object", name := "<init>", desc := "()V" } : Jvm.MethodName) object_method_1_code (1 : Nat) (Option.none : Option Jvm.ClassFile.FieldType), Jvm.Cond.code ({ cls := "com/example/muster/muster/model/Visibility", name := "shows", desc := "(Ljava/lang/String;Ljava/lang/String;Z)Z" } : Jvm.MethodName) prog_19_method_5_code (4 : Nat) (Option.some Jvm.ClassFile.FieldType.boolean), Jvm.Cond.code ({ cls := "java/lang/StringUTF16", name := "compress", desc := "([CII)[B" } : Jvm.MethodName) jdk_52_method_16_code (6 : Nat) (Option.some (Jvm.ClassFile.FieldType.array Jvm.ClassFile.FieldType.byte)), Jvm.Cond.code ({ cls := "java/lang/StringUTF16", name := "compress", desc := "([CI[BII)I" } : Jvm.MethodName) jdk_52_method_21_code (7 : Nat) (Option.some Jvm.ClassFile.FieldType.int), Jvm.Cond.code ({ cls := "java/lang/StringUTF16", name := "coderFromArrayLen", desc := "([BI)B" } : Jvm.MethodName) jdk_52_method_15_code (2 : Nat) (Option.some Jvm.ClassFile.FieldType.byte), Jvm.Cond.code ({ cls := "java/lang/String", name := "equals", desc := "(Ljava/lang/Object;)Z" } : Jvm.MethodName) jdk_42_method_66_code (3 : Nat) (Option.some Jvm.ClassFile.FieldType.boolean), Jvm.Cond.code ({ cls := "java/lang/StringLatin1", name := "equals", desc := "([B[B)Z" } : Jvm.MethodName) jdk_43_method_13_code (3 : Nat) (Option.some Jvm.ClassFile.FieldType.boolean)]
set_option maxRecDepth 65536 in
theorem codes_eq : words1.filter isCode = codes1 := rfl
theorem w_codes : ∀ c ∈ words1.filter isCode, c.before args0 about1 = true := by
  rw [codes_eq]
  intro c hc
  simp only [codes1, List.mem_cons, List.not_mem_nil, or_false] at hc
  rcases hc with rfl | rfl | rfl | rfl | rfl | rfl | rfl | rfl | rfl | rfl | rfl
  · exact w_c0
  · exact w_c1
  · exact w_c2
  · exact w_c3
  · exact w_c4
  · exact w_c5
  · exact w_c6
  · exact w_c7
  · exact w_c8
  · exact w_c9
  · exact w_c10
set_option maxRecDepth 65536 in
theorem w_t1 : (words1.take 24).all (fun c => isCode c || c.before args0 about1) = true := by decide +kernel
set_option maxRecDepth 65536 in
theorem w_t2 : ((words1.drop 24).take 24).all (fun c => isCode c || c.before args0 about1) = true := by decide +kernel
set_option maxRecDepth 65536 in
theorem w_t3 : ((words1.drop 24).drop 24).all (fun c => isCode c || c.before args0 about1) = true := by decide +kernel
theorem w_tables : (allAtoms (Jvm.Cond.code x code maxLocals ret :: tables_1)).before args0 about1 = true := by
  rw [allAtoms_all]
  show words1.all (fun c => c.before args0 about1) = true
  refine all_split ?_ w_codes
  rw [← List.take_append_drop 24 words1, List.all_append, w_t1, ← List.take_append_drop 24 (words1.drop 24), List.all_append, w_t2, w_t3]
  rfl
set_option maxRecDepth 65536 in
theorem w_rest : rest_1_c.before args0 about1 = true := by decide +kernel
set_option maxRecDepth 65536 in
theorem w_case : (Jvm.Cond.and given_1 narrow_1).before args0 about1 = true := by decide +kernel
set_option maxRecDepth 65536 in
theorem w_consts : constsHeld consts_1 about1 := Jvm.Lit.constsHeldB_iff.mp (by decide +kernel)
theorem w_applies : (headSpec (Jvm.Cond.code x code maxLocals ret :: tables_1) room_1).applies x e0.platform about1 = true :=
  (Spec.applies_iff w_frames).mpr ⟨w_running, w_runnable, w_alone, w_named, w_hears, w_ripe, w_room, w_tables⟩
theorem atStart : AtStart classFile x code maxLocals ret World_1 tables_1 room_1 Calls_1 rest_1 Pre_1 launch0 p0 e0 about1 theMethod args0 below0 :=
  ⟨lists_1, trivial, launch0.admits_env _ _ _, launch0.least_env, fairChoices_fair.cas, fairChoices_fair.clock, w_frames, w_args, w_heap, w_applies, ⟨w_consts, trivial⟩, w_rest, w_case⟩
end start1
theorem witness_1 : WitnessClaimed_1 := ⟨start1.p0, start1.e0, start1.about1, start1.theMethod, start1.args0, start1.below0, start1.atStart⟩
end Jvm.Pilot.@@N@@
