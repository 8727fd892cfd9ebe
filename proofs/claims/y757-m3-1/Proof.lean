import JvmDerived
import JvmDerived.Pilot.@@N@@Statement
import JvmDerived.Pilot.@@N@@Code
set_option linter.unusedVariables false
set_option linter.unusedSimpArgs false
namespace Jvm.Pilot.@@N@@
open Jvm Jvm.ClassFile Sem Op Lib Jvm.Free Jvm.Stand Jvm.LawKit Jvm.RoadKit Bundle Jvm.Pilot.@@N@@.Jvm.D
section OwnGo
variable {p : Program} {l : Launch} {e : Env} {R : Room} {s : State} {m : MethodId} {args : Array Value} {below : List Frame} {meth : Method} {c : Code} {T T' : State} {locs : List Loc} {cells slots : Nat} {Q : Option Value → Heap → List Loc → Prop} {C S : Nat} {g g' : JFrame} {F : Outcome → State → Prop}
/-- from this state and frame the body comes to an end of which F holds -/
def Go (p : Program) (e : Env) (below : List Frame) (F : Outcome → State → Prop) (T : State) (g : JFrame) : Prop :=
  ∃ s₂ o, Steps p.tables e below (T.setTop g) s₂ ∧ s₂.status = .running ∧ Ended s₂ below o ∧ F o s₂
/-- it returned, Q holds, and nothing else has moved than L and so many new cells and slots -/
abbrev EndN (s : State) (Q : Option Value → Heap → List Loc → Prop) (C S : Nat) (o : Outcome) (t : State) : Prop := ∃ v L, o = .returned v ∧ Q v t.heap L ∧ FrameEnd s o t L C S
theorem Go.enter (q : g = g') (k : Go p e below F T g') : ∃ s₂ o, Steps p.tables e below (T.setTop g) s₂ ∧ s₂.status = .running ∧ Ended s₂ below o ∧ F o s₂ := by
  subst q
  exact k
theorem Go.by (h : ∀ t, Steps p.tables e below (T'.setTop g') t → Steps p.tables e below (T.setTop g) t) (k : Go p e below F T' g') : Go p e below F T g := by
  obtain ⟨s₂, o, h1, h2⟩ := k
  exact ⟨s₂, o, h _ h1, h2⟩
theorem Go.to (h : Steps p.tables e below (T.setTop g) (T'.setTop g')) (k : Go p e below F T' g') : Go p e below F T g := by
  obtain ⟨s₂, o, h1, h2⟩ := k
  exact ⟨s₂, o, h.trans h1, h2⟩
abbrev own_retKind (i : Instr) (t : FieldType) (w : Value) : Prop := (i = .ireturn ∧ (t = .int ∨ t = .boolean ∨ t = .byte ∨ t = .char ∨ t = .short) ∧ ∃ z, w = .int z) ∨ (i = .lreturn ∧ t = .long ∧ ∃ z, w = .long z) ∨ (i = .dreturn ∧ t = .double ∧ ∃ z, w = .double z) ∨ (i = .freturn ∧ t = .float ∧ ∃ z, w = .float z) ∨ (i = .areturn ∧ t.isReference = true ∧ w.isRef = true)
theorem Go.ret (X : Stand p l e R s m args below meth c T locs cells slots) (hx : p.tables.exec = Jvm.exec) (hlocks : meth.locks = false) {pc : Nat} {Ls : Array Slot} {w : Value} {t : FieldType} {i : Instr} {rest : List Value} (hret : meth.sig.returnType = some t) (hn : narrow t w = w)
    (hi : own_retKind i t w) (hd : decode c.code pc = .ok (i, 1)) (hq : Q (some w) T.heap locs) (hc : cells ≤ C) (hs : slots ≤ S) : Go p e below (EndN s Q C S) T (mkF m pc Ls (w :: rest)) := by
  obtain ⟨fs, hr, hrun, hended, hW, hsame⟩ := X.leave (v := some w) (fun h => by rw [hret] at h; cases h) hlocks
  exact ⟨_, _, retOut X hx hret hn hi hd hr, hrun, hended, _, _, rfl, hq, ⟨_, rfl⟩, hW, hsame.mono hc hs⟩
theorem Go.retI (X : Stand p l e R s m args below meth c T locs cells slots) (hx : p.tables.exec = Jvm.exec) (hlocks : meth.locks = false) {pc : Nat} {Ls : Array Slot} {w : Int32} {t : FieldType} {rest : List Value} (hret : meth.sig.returnType = some t) (hn : narrow t (.int w) = .int w)
    (ht : t = .int ∨ t = .boolean ∨ t = .byte ∨ t = .char ∨ t = .short) (hd : decode c.code pc = .ok (.ireturn, 1)) (hq : Q (some (.int w)) T.heap locs) (hc : cells ≤ C) (hs : slots ≤ S) : Go p e below (EndN s Q C S) T (mkF m pc Ls (.int w :: rest)) :=
  Go.ret X hx hlocks hret hn (Or.inl ⟨rfl, ht, _, rfl⟩) hd hq hc hs
theorem Go.retJ (X : Stand p l e R s m args below meth c T locs cells slots) (hx : p.tables.exec = Jvm.exec) (hlocks : meth.locks = false) {pc : Nat} {Ls : Array Slot} {w : Int64} {rest : List Value} (hret : meth.sig.returnType = some .long)
    (hd : decode c.code pc = .ok (.lreturn, 1)) (hq : Q (some (.long w)) T.heap locs) (hc : cells ≤ C) (hs : slots ≤ S) : Go p e below (EndN s Q C S) T (mkF m pc Ls (.long w :: rest)) :=
  Go.ret X hx hlocks hret rfl (Or.inr (Or.inl ⟨rfl, rfl, _, rfl⟩)) hd hq hc hs
theorem own_narR (t : FieldType) {w : Value} (ht : t.isReference = true) (hw : w.isRef = true) : narrow t w = w := by
  cases t <;> first | (simp [FieldType.isReference] at ht; done) | (rcases ref_cases hw with rfl | ⟨_, rfl⟩ <;> rfl)
theorem own_fitR (t : FieldType) {w : Value} (ht : t.isReference = true) (hw : w.isRef = true) : fits t w = true := by
  cases t <;> first | (simp [FieldType.isReference] at ht; done) | (rcases ref_cases hw with rfl | ⟨_, rfl⟩ <;> rfl)
theorem Go.retA (X : Stand p l e R s m args below meth c T locs cells slots) (hx : p.tables.exec = Jvm.exec) (hlocks : meth.locks = false) {pc : Nat} {Ls : Array Slot} {w : Value} {t : FieldType} {rest : List Value} (hret : meth.sig.returnType = some t) (ht : t.isReference = true) (hw : w.isRef = true)
    (hd : decode c.code pc = .ok (.areturn, 1)) (hq : Q (some w) T.heap locs) (hc : cells ≤ C) (hs : slots ≤ S) : Go p e below (EndN s Q C S) T (mkF m pc Ls (w :: rest)) :=
  Go.ret X hx hlocks hret (own_narR t ht hw) (Or.inr (Or.inr (Or.inr (Or.inr ⟨rfl, ht, hw⟩)))) hd hq hc hs
theorem Go.retV (X : Stand p l e R s m args below meth c T locs cells slots) (hx : p.tables.exec = Jvm.exec) (hlocks : meth.locks = false) {pc : Nat} {Ls : Array Slot} (hret : meth.sig.returnType = none)
    (hd : decode c.code pc = .ok (.return_, 1)) (hq : Q none T.heap locs) (hc : cells ≤ C) (hs : slots ≤ S) : Go p e below (EndN s Q C S) T (mkF m pc Ls []) := by
  obtain ⟨fs, hr, hrun, hended, hW, hsame⟩ := X.leave (v := none) (fun _ => rfl) hlocks
  exact ⟨_, _, X.returnOut hx hret hd hr, hrun, hended, _, _, rfl, hq, ⟨_, rfl⟩, hW, hsame.mono hc hs⟩
end OwnGo
section OwnWide
variable {p : Program} {l : Launch} {e : Env} {R : Room} {s : State} {m : MethodId} {args : Array Value} {below : List Frame} {meth : Method} {c : Code} {T T' : State} {locs : List Loc} {cells slots : Nat} {Q : Option Value → Heap → List Loc → Prop} {C S n : Nat} {Z : State} {a0 : Array Value} {EL : List (String × Nat)} {vm : Vm} {h : Heap}
/-- it returned, Q holds, the held literals go on, and nothing else has moved than L, so many new cells and slots, and literals interned -/
abbrev EndW (Z : State) (EL : List (String × Nat)) (s : State) (Q : Option Value → Heap → List Loc → Prop) (C S : Nat) (o : Outcome) (t : State) : Prop := ∃ v L, o = .returned v ∧ Q v t.heap L ∧ CHr Z EL s.vm s.heap t.vm t.heap ∧ ReturnedEndW s o t L C S
theorem Go.retW (X : Stand p l e R (s.setVm vm) m args below meth c T locs cells slots) (hx : p.tables.exec = Jvm.exec) (hlocks : meth.locks = false) (hS : s.Since vm n) (hk : n ≤ T.heap.size) (hZ : Z.Warmed39 vm) (hEL : EW Z a0 EL) (hCH : CHr Z EL s.vm s.heap vm T.heap) {pc : Nat} {Ls : Array Slot} {w : Value} {t : FieldType} {i : Instr} {rest : List Value}
    (hret : meth.sig.returnType = some t) (hn : narrow t w = w) (hi : own_retKind i t w) (hd : decode c.code pc = .ok (i, 1)) (hq : Q (some w) T.heap locs) (hc : cells ≤ C) (hs : slots ≤ S) : Go p e below (EndW Z EL s Q C S) T (mkF m pc Ls (w :: rest)) := by
  obtain ⟨fs, hr, hrun, hended, h1, h2, h3, h4⟩ := X.leaveW hS hk (v := some w) (fun h => by rw [hret] at h; cases h) hlocks
  have hA : CHr Z EL s.vm s.heap T.vm T.heap := hCH.trans (CHv.at X hZ hEL hCH.1)
  exact ⟨_, _, retOut X hx hret hn hi hd hr, hrun, hended, _, _, rfl, hq, hA, h1, h2, h3, h4.mono hc hs⟩
theorem Go.retIW (X : Stand p l e R (s.setVm vm) m args below meth c T locs cells slots) (hx : p.tables.exec = Jvm.exec) (hlocks : meth.locks = false) (hS : s.Since vm n) (hk : n ≤ T.heap.size) (hZ : Z.Warmed39 vm) (hEL : EW Z a0 EL) (hCH : CHr Z EL s.vm s.heap vm T.heap) {pc : Nat} {Ls : Array Slot} {w : Int32} {t : FieldType} {rest : List Value}
    (hret : meth.sig.returnType = some t) (hn : narrow t (.int w) = .int w) (ht : t = .int ∨ t = .boolean ∨ t = .byte ∨ t = .char ∨ t = .short) (hd : decode c.code pc = .ok (.ireturn, 1)) (hq : Q (some (.int w)) T.heap locs) (hc : cells ≤ C) (hs : slots ≤ S) : Go p e below (EndW Z EL s Q C S) T (mkF m pc Ls (.int w :: rest)) :=
  Go.retW X hx hlocks hS hk hZ hEL hCH hret hn (Or.inl ⟨rfl, ht, _, rfl⟩) hd hq hc hs
theorem Go.retAW (X : Stand p l e R (s.setVm vm) m args below meth c T locs cells slots) (hx : p.tables.exec = Jvm.exec) (hlocks : meth.locks = false) (hS : s.Since vm n) (hk : n ≤ T.heap.size) (hZ : Z.Warmed39 vm) (hEL : EW Z a0 EL) (hCH : CHr Z EL s.vm s.heap vm T.heap) {pc : Nat} {Ls : Array Slot} {w : Value} {t : FieldType} {rest : List Value}
    (hret : meth.sig.returnType = some t) (ht : t.isReference = true) (hw : w.isRef = true) (hd : decode c.code pc = .ok (.areturn, 1)) (hq : Q (some w) T.heap locs) (hc : cells ≤ C) (hs : slots ≤ S) : Go p e below (EndW Z EL s Q C S) T (mkF m pc Ls (w :: rest)) :=
  Go.retW X hx hlocks hS hk hZ hEL hCH hret (own_narR t ht hw) (Or.inr (Or.inr (Or.inr (Or.inr ⟨rfl, ht, hw⟩)))) hd hq hc hs
theorem Go.retVW (X : Stand p l e R (s.setVm vm) m args below meth c T locs cells slots) (hx : p.tables.exec = Jvm.exec) (hlocks : meth.locks = false) (hS : s.Since vm n) (hk : n ≤ T.heap.size) (hZ : Z.Warmed39 vm) (hEL : EW Z a0 EL) (hCH : CHr Z EL s.vm s.heap vm T.heap) {pc : Nat} {Ls : Array Slot}
    (hret : meth.sig.returnType = none) (hd : decode c.code pc = .ok (.return_, 1)) (hq : Q none T.heap locs) (hc : cells ≤ C) (hs : slots ≤ S) : Go p e below (EndW Z EL s Q C S) T (mkF m pc Ls []) := by
  obtain ⟨fs, hr, hrun, hended, h1, h2, h3, h4⟩ := X.leaveW hS hk (v := none) (fun _ => rfl) hlocks
  have hA : CHr Z EL s.vm s.heap T.vm T.heap := hCH.trans (CHv.at X hZ hEL hCH.1)
  exact ⟨_, _, X.returnOut hx hret hd hr, hrun, hended, _, _, rfl, hq, hA, h1, h2, h3, h4.mono hc hs⟩
end OwnWide

abbrev own_EL : List (String × Nat) := []
theorem own_EW {Z : State} {a0 : Array Value} (hw : ∀ d ∈ tables_1, d.before a0 Z = true) : EW Z a0 own_EL := EW.nil
theorem own_SA {Z : State} {a0 : Array Value} (hw : ∀ d ∈ tables_1, d.before a0 Z = true) : ∀ a ∈ Bundle.stringAtoms, a.before a0 Z = true := fun d hd => hw d ((by decide +kernel : ∀ d ∈ Bundle.stringAtoms, d ∈ tables_1) d hd)
theorem own_masked (x : Int32) : ¬ (x &&& 2147483647) < 0 := by
  have h := (c_and x (2147483647 : Int32) (by decide)).1
  rw [XT.negI32]
  omega
theorem own_irem (x y : Int32) : x - x / y * y = x % y := irem_eq_mod x y
theorem own_rem {x d k : Int32} (n : Nat) (hx : ¬ x < 0) (hd : d.toInt = n) (hn : 0 < n) (hk : k = x - x / d * d) : ∃ j : Nat, j < n ∧ k = Int32.ofNat j := by
  rw [own_irem] at hk
  rw [XT.negI32] at hx
  have h1 := (c_irem x d n hd).1 (by omega)
  have h2 := Int.emod_nonneg x.toInt (b := (n : Int)) (by omega)
  have h3 := Int.emod_lt_of_pos x.toInt (b := (n : Int)) (by omega)
  refine ⟨k.toInt.toNat, by rw [hk, h1]; omega, ?_⟩
  apply Int32.toInt_inj.mp
  have h4 := rng32 k
  rw [← hk] at h1
  rw [Int32.toInt_ofNat_of_lt (by omega)]
  omega

theorem own_mod7 {x k : Int32} (h : k = (x &&& 2147483647) - (x &&& 2147483647) / 7 * 7) : k = 0 ∨ k = 1 ∨ k = 2 ∨ k = 3 ∨ k = 4 ∨ k = 5 ∨ k = 6 := by
  obtain ⟨j, hj, rfl⟩ := own_rem 7 (own_masked x) (d := 7) rfl (by decide) h
  rcases (by omega : j = 0 ∨ j = 1 ∨ j = 2 ∨ j = 3 ∨ j = 4 ∨ j = 5 ∨ j = 6) with rfl | rfl | rfl | rfl | rfl | rfl | rfl <;> simp
theorem own_ord {args : Array Value} {s : State} {t : Term} {a : Addr} {C n d : String} {k : Int32} (h : (Jvm.Cond.eq (Term.field t C n d) (Term.int k)).value args s none s [] = some true) (ev : t.eval args s none [] s = some (.ref a)) : s.fieldOf? a C n d = some (.int k) :=
  (fld_at ev).symm.trans (eqv_i (Term.int_eval k) h)
theorem own_eqR {args : Array Value} {s : State} {X Y : Term} {d : Addr} (h : (Jvm.Cond.eq X Y).value args s none s [] = some true) (hY : Y.eval args s none [] s = some (.ref d)) : X.eval args s none [] s = some (.ref d) := by
  obtain ⟨x, y, hx, hy, -, hk⟩ := cmp_v (Or.inl h)
  obtain rfl : (.ref d) = y := Option.some.inj (hY.symm.trans hy)
  have hr : x.isRef = true := hk.2
  rw [hx, gotT (eq_R hx hY hr rfl) h]

/-- a char's low byte, signed -/
def own_b (c : Int32) : Int32 := c.toInt8.toInt32
theorem own_bn (c : Int32) : nar .byte c.toInt8.toInt32 = own_b c := by
  show c.toInt8.toInt32.toInt8.toInt32 = c.toInt8.toInt32
  simp
theorem own_b_inj {c d : Int32} (h1 : ¬ c < 0) (h2 : ¬ (255 : Int32) < c) (h3 : ¬ d < 0) (h4 : ¬ (255 : Int32) < d) (h : own_b c = own_b d) : c = d := by
  have e1 := c_i2b c
  have e2 := c_i2b d
  have e3 : c.toInt8.toInt32.toInt = d.toInt8.toInt32.toInt := congrArg Int32.toInt h
  rw [Int32.lt_iff_toInt_lt] at h1 h2 h3 h4
  simp at h1 h2 h3 h4
  apply Int32.toInt_inj.mp
  omega
theorem own_nc (x : Int32) : nar .char (x &&& 255) = x &&& 255 := i2c_mask x
theorem own_255 (x : Int32) : ¬ (255 : Int32) < x &&& 255 := by
  have h := c_and x (255 : Int32) (by decide)
  rw [Int32.lt_iff_toInt_lt]
  have : (255 : Int32).toInt = 255 := by decide
  omega
theorem own_0 (x : Int32) : ¬ (x &&& 255) < 0 := by
  have h := c_and x (255 : Int32) (by decide)
  rw [XT.negI32]
  omega

theorem pn_2 : plainName "java/lang/StringUTF16" = true := by first | (simp [plainName, overriddenIn]; done) | decide +kernel
theorem ef_3 (m : MethodId) (x0 : Addr) (x1 : Int32) (x2 : Addr) (x3 : Int32) (x4 : Int32) : entryFrame m #[(.ref x0), (.int x1), (.ref x2), (.int x3), (.int x4)] 7 = mkF m 0 #[.val (.ref x0), .val (.int x1), .val (.ref x2), .val (.int x3), .val (.int x4), .unset, .unset] [] := by (first | (simp [entryFrame, mkF, argsToLocals, Value.category]; done) | rfl)
theorem d5_0 : decode jdk_52_method_21_code 0 = .ok (.iconst 0, 1) := by decide +kernel
theorem d5_1 : decode jdk_52_method_21_code 1 = .ok (.istore 5, 2) := by decide +kernel
theorem d5_3 : decode jdk_52_method_21_code 3 = .ok (.iload 5, 2) := by decide +kernel
theorem d5_5 : decode jdk_52_method_21_code 5 = .ok (.iload 4, 2) := by decide +kernel
theorem d5_7 : decode jdk_52_method_21_code 7 = .ok (.if_icmp .ge 37, 3) := by decide +kernel
theorem d5_10 : decode jdk_52_method_21_code 10 = .ok (.aload_n 0, 1) := by decide +kernel
theorem d5_11 : decode jdk_52_method_21_code 11 = .ok (.iload_n 1, 1) := by decide +kernel
theorem d5_12 : decode jdk_52_method_21_code 12 = .ok (.caload, 1) := by decide +kernel
theorem d5_13 : decode jdk_52_method_21_code 13 = .ok (.istore 6, 2) := by decide +kernel
theorem d5_15 : decode jdk_52_method_21_code 15 = .ok (.iload 6, 2) := by decide +kernel
theorem d5_17 : decode jdk_52_method_21_code 17 = .ok (.sipush 255, 3) := by decide +kernel
theorem d5_20 : decode jdk_52_method_21_code 20 = .ok (.if_icmp .le 6, 3) := by decide +kernel
theorem d5_26 : decode jdk_52_method_21_code 26 = .ok (.aload_n 2, 1) := by decide +kernel
theorem d5_27 : decode jdk_52_method_21_code 27 = .ok (.iload_n 3, 1) := by decide +kernel
theorem d5_28 : decode jdk_52_method_21_code 28 = .ok (.iload 6, 2) := by decide +kernel
theorem d5_30 : decode jdk_52_method_21_code 30 = .ok (.i2b, 1) := by decide +kernel
theorem d5_31 : decode jdk_52_method_21_code 31 = .ok (.bastore, 1) := by decide +kernel
theorem d5_32 : decode jdk_52_method_21_code 32 = .ok (.iinc 1 1, 3) := by decide +kernel
theorem d5_35 : decode jdk_52_method_21_code 35 = .ok (.iinc 3 1, 3) := by decide +kernel
theorem d5_38 : decode jdk_52_method_21_code 38 = .ok (.iinc 5 1, 3) := by decide +kernel
theorem d5_41 : decode jdk_52_method_21_code 41 = .ok (.goto (-38), 3) := by decide +kernel
theorem d5_44 : decode jdk_52_method_21_code 44 = .ok (.iload 4, 2) := by decide +kernel
theorem d5_46 : decode jdk_52_method_21_code 46 = .ok (.ireturn, 1) := by decide +kernel
def Q_rmC5_2 (Z : State) (va : Addr) (da : Addr) (kv : ClassId) (kd : ClassId) (c0 : Int32) (c1 : Int32) (h0 : Heap) (n0 : Nat) (v : Option Value) (h : Heap) (L : List Loc) : Prop := v = some (.int (2 : Int32)) ∧ Fr n0 L ∧ Keep h0 h [da] ∧ Arv Z h da kd .byte (2 : Int32) ([(.int (own_b c0)), (.int (own_b c1))]) (.int (0 : Int32))
set_option maxRecDepth 65536 in
set_option maxHeartbeats 40000000 in
theorem rmC5_2 (l : Launch) (Z : State) (a0 : Array Value) (hw : ∀ d ∈ tables_1, d.before a0 Z = true) (ws : List Jvm.Cond) (va : Addr) (da : Addr) (kv : ClassId) (kd : ClassId) (c0 : Int32) (c1 : Int32) (h0 : Heap) (n0 : Nat) (Z0 : n0 ≤ h0.size) (V_va : Arv Z h0 va kv .char (2 : Int32) ([(.int c0), (.int c1)]) (.int (0 : Int32))) (V_da : Arv Z h0 da kd .byte (2 : Int32) ([(.int (0 : Int32)), (.int (0 : Int32))]) (.int (0 : Int32))) (g_da : n0 ≤ da) (ne_va_da : va ≠ da) (hc0 : ¬ (255 : Int32) < c0) (hc1 : ¬ (255 : Int32) < c1) :
    MetFree l (⟨"java/lang/StringUTF16", "compress", "([CI[BII)I"⟩ : MethodName) (head1 (Jvm.Cond.code (⟨"java/lang/StringUTF16", "compress", "([CI[BII)I"⟩ : MethodName) jdk_52_method_21_code 7 (some .int) :: ws) ({ frames := 0, cells := 0, slots := 0, locals := 0 } : Room)) (fun as' U => as' = #[(.ref va), (.int (0 : Int32)), (.ref da), (.int (0 : Int32)), (.int (2 : Int32))] ∧ Z.Warmed39 U.vm ∧ U.heap = h0) (fun _ _ _ _ _ => True) (fun _ U o U' => ∃ v L, o = .returned v ∧ Q_rmC5_2 Z va da kv kd c0 c1 h0 n0 v U'.heap L ∧ FrameEnd U o U' L ({ frames := 0, cells := 0, slots := 0, locals := 0 } : Room).cells ({ frames := 0, cells := 0, slots := 0, locals := 0 } : Room).slots) := by
  refine MetFree.of_bodySF (plainFor_of_name pn_2) hisR ?_
  intro p e s m args below meth c s₁ Bd hml0 hP hK
  obtain ⟨rfl, hZ, hh⟩ := hP
  have hx := Bd.exec
  have hby := Bd.bytes
  have hml : c.maxLocals = 7 := hml0
  have hown : s.vm.findClass "java/lang/StringUTF16" = some m.cls := findClass_of_methodNamed Bd.named
  have hnm := (name_of_methodNamed Bd.named Bd.method).1
  have X0 : Stand p l e ({ frames := 0, cells := 0, slots := 0, locals := 0 } : Room) s m #[(.ref va), (.int (0 : Int32)), (.ref da), (.int (0 : Int32)), (.int (2 : Int32))] below meth c s₁ [] 0 0 := Stand.of_body Bd
  have e0 : s₁.heap = h0 := by rw [← hh, Bd.state]; rfl
  have N0 := Fr.nil n0
  refine Go.enter (F := EndN s (Q_rmC5_2 Z va da kv kd c0 c1 h0 n0) ({ frames := 0, cells := 0, slots := 0, locals := 0 } : Room).cells ({ frames := 0, cells := 0, slots := 0, locals := 0 } : Room).slots) (ef_3 m va (0 : Int32) da (0 : Int32) (2 : Int32)) ?_
  show Go _ _ _ _ s₁ (mkF m 0 #[.val (.ref va), .val (.int (0 : Int32)), .val (.ref da), .val (.int (0 : Int32)), .val (.int (2 : Int32)), .unset, .unset] [])
  refine Go.by (fun _ gk => XT.iconstV X0.here hx rfl (0 : Int32) (hb hby d5_0) (by decide) gk) ?_
  show Go _ _ _ _ s₁ (mkF m 1 #[.val (.ref va), .val (.int (0 : Int32)), .val (.ref da), .val (.int (0 : Int32)), .val (.int (2 : Int32)), .unset, .unset] [(.int (0 : Int32))])
  refine Go.by (fun _ gk => XS.istore X0.here hx rfl (hb hby d5_1) rfl (l' := #[.val (.ref va), .val (.int (0 : Int32)), .val (.ref da), .val (.int (0 : Int32)), .val (.int (2 : Int32)), .val (.int (0 : Int32)), .unset]) rfl gk) ?_
  show Go _ _ _ _ s₁ (mkF m 3 #[.val (.ref va), .val (.int (0 : Int32)), .val (.ref da), .val (.int (0 : Int32)), .val (.int (2 : Int32)), .val (.int (0 : Int32)), .unset] [])
  refine Go.by (fun _ gk => XS.iload X0.here hx rfl (hb hby d5_3) rfl gk) ?_
  show Go _ _ _ _ s₁ (mkF m 5 #[.val (.ref va), .val (.int (0 : Int32)), .val (.ref da), .val (.int (0 : Int32)), .val (.int (2 : Int32)), .val (.int (0 : Int32)), .unset] [(.int (0 : Int32))])
  refine Go.by (fun _ gk => XS.iload X0.here hx rfl (hb hby d5_5) rfl gk) ?_
  show Go _ _ _ _ s₁ (mkF m 7 #[.val (.ref va), .val (.int (0 : Int32)), .val (.ref da), .val (.int (0 : Int32)), .val (.int (2 : Int32)), .val (.int (0 : Int32)), .unset] [(.int (2 : Int32)), (.int (0 : Int32))])
  refine Go.by (fun _ gk => XS.icmpNo X0.here hx rfl (hb hby d5_7) rfl (XT.ii_ge_f (by decide)) gk) ?_
  show Go _ _ _ _ s₁ (mkF m 10 #[.val (.ref va), .val (.int (0 : Int32)), .val (.ref da), .val (.int (0 : Int32)), .val (.int (2 : Int32)), .val (.int (0 : Int32)), .unset] [])
  refine Go.by (fun _ gk => XS.aloadN X0.here hx rfl (hb hby d5_10) rfl rfl gk) ?_
  show Go _ _ _ _ s₁ (mkF m 11 #[.val (.ref va), .val (.int (0 : Int32)), .val (.ref da), .val (.int (0 : Int32)), .val (.int (2 : Int32)), .val (.int (0 : Int32)), .unset] [(.ref va)])
  refine Go.by (fun _ gk => XS.iloadN X0.here hx rfl (hb hby d5_11) rfl gk) ?_
  show Go _ _ _ _ s₁ (mkF m 12 #[.val (.ref va), .val (.int (0 : Int32)), .val (.ref da), .val (.int (0 : Int32)), .val (.int (2 : Int32)), .val (.int (0 : Int32)), .unset] [(.int (0 : Int32)), (.ref va)])
  obtain ⟨cl1, Ar1, -, S1, M1, H1, -⟩ := id V_va
  have hin1 : ¬ ((0 : Int32) < 0 ∨ cl1.slots.size ≤ (0 : Int32).toNatClampNeg) := inb_of S1 ⟨by decide, by decide⟩
  refine Go.by (fun _ gk => X0.caload hx (j := (0 : Int32)) (v := (.int c0)) (by rw [e0]; exact Ar1.1) (State.isArrayOf_alike hZ.alike Ar1.2.1) Ar1.2.2 hin1 (Has.at H1 hin1 rfl) (g := (mkF m 12 #[.val (.ref va), .val (.int (0 : Int32)), .val (.ref da), .val (.int (0 : Int32)), .val (.int (2 : Int32)), .val (.int (0 : Int32)), .unset] [(.int (0 : Int32)), (.ref va)])) rfl rfl (hb hby d5_12) _ gk) ?_
  show Go _ _ _ _ s₁ (mkF m 13 #[.val (.ref va), .val (.int (0 : Int32)), .val (.ref da), .val (.int (0 : Int32)), .val (.int (2 : Int32)), .val (.int (0 : Int32)), .unset] [(.int c0)])
  refine Go.by (fun _ gk => XS.istore X0.here hx rfl (hb hby d5_13) rfl (l' := #[.val (.ref va), .val (.int (0 : Int32)), .val (.ref da), .val (.int (0 : Int32)), .val (.int (2 : Int32)), .val (.int (0 : Int32)), .val (.int c0)]) rfl gk) ?_
  show Go _ _ _ _ s₁ (mkF m 15 #[.val (.ref va), .val (.int (0 : Int32)), .val (.ref da), .val (.int (0 : Int32)), .val (.int (2 : Int32)), .val (.int (0 : Int32)), .val (.int c0)] [])
  refine Go.by (fun _ gk => XS.iload X0.here hx rfl (hb hby d5_15) rfl gk) ?_
  show Go _ _ _ _ s₁ (mkF m 17 #[.val (.ref va), .val (.int (0 : Int32)), .val (.ref da), .val (.int (0 : Int32)), .val (.int (2 : Int32)), .val (.int (0 : Int32)), .val (.int c0)] [(.int c0)])
  refine Go.by (fun _ gk => XT.sipushV X0.here hx rfl (255 : Int32) (hb hby d5_17) (by decide) gk) ?_
  show Go _ _ _ _ s₁ (mkF m 20 #[.val (.ref va), .val (.int (0 : Int32)), .val (.ref da), .val (.int (0 : Int32)), .val (.int (2 : Int32)), .val (.int (0 : Int32)), .val (.int c0)] [(.int (255 : Int32)), (.int c0)])
  refine Go.by (fun _ gk => XS.icmpYes X0.here hx rfl (pc0 := 20) (pc' := 26) rfl (hb hby d5_20) rfl (XT.ii_le_t hc0) (by decide) (by decide) gk) ?_
  show Go _ _ _ _ s₁ (mkF m 26 #[.val (.ref va), .val (.int (0 : Int32)), .val (.ref da), .val (.int (0 : Int32)), .val (.int (2 : Int32)), .val (.int (0 : Int32)), .val (.int c0)] [])
  refine Go.by (fun _ gk => XS.aloadN X0.here hx rfl (hb hby d5_26) rfl rfl gk) ?_
  show Go _ _ _ _ s₁ (mkF m 27 #[.val (.ref va), .val (.int (0 : Int32)), .val (.ref da), .val (.int (0 : Int32)), .val (.int (2 : Int32)), .val (.int (0 : Int32)), .val (.int c0)] [(.ref da)])
  refine Go.by (fun _ gk => XS.iloadN X0.here hx rfl (hb hby d5_27) rfl gk) ?_
  show Go _ _ _ _ s₁ (mkF m 28 #[.val (.ref va), .val (.int (0 : Int32)), .val (.ref da), .val (.int (0 : Int32)), .val (.int (2 : Int32)), .val (.int (0 : Int32)), .val (.int c0)] [(.int (0 : Int32)), (.ref da)])
  refine Go.by (fun _ gk => XS.iload X0.here hx rfl (hb hby d5_28) rfl gk) ?_
  show Go _ _ _ _ s₁ (mkF m 30 #[.val (.ref va), .val (.int (0 : Int32)), .val (.ref da), .val (.int (0 : Int32)), .val (.int (2 : Int32)), .val (.int (0 : Int32)), .val (.int c0)] [(.int c0), (.int (0 : Int32)), (.ref da)])
  refine Go.by (fun _ gk => XT.i2b X0.here hx rfl (hb hby d5_30) rfl gk) ?_
  show Go _ _ _ _ s₁ (mkF m 31 #[.val (.ref va), .val (.int (0 : Int32)), .val (.ref da), .val (.int (0 : Int32)), .val (.int (2 : Int32)), .val (.int (0 : Int32)), .val (.int c0)] [(.int (c0.toInt8.toInt32)), (.int (0 : Int32)), (.ref da)])
  obtain ⟨cl2, Ar2, q2, S2, M2, H2, G2⟩ := id V_da
  have hin2 : ¬ ((0 : Int32) < 0 ∨ cl2.slots.size ≤ (0 : Int32).toNatClampNeg) := inb_of S2 ⟨by decide, by decide⟩
  obtain ⟨T2, h2, X2, e2, W2, st2⟩ := stB X0 hx hZ e0 Ar2 (j := (0 : Int32)) hin2 (g := (mkF m 31 #[.val (.ref va), .val (.int (0 : Int32)), .val (.ref da), .val (.int (0 : Int32)), .val (.int (2 : Int32)), .val (.int (0 : Int32)), .val (.int c0)] [(.int (c0.toInt8.toInt32)), (.int (0 : Int32)), (.ref da)])) rfl rfl (hb hby d5_31)
  have N2 := Fr.snoc X2 N0 g_da
  have V2 : Arv Z h2 da kd .byte (2 : Int32) [(.int (nar .byte (c0.toInt8.toInt32))), (.int (0 : Int32))] (.int (0 : Int32)) := Arv.set Ar2 q2 S2 M2 H2 G2 (fits_nar_byte _) W2 0 rfl (Nat.le_of_ble_eq_true rfl)
  refine Go.by st2 ?_
  show Go _ _ _ _ T2 (mkF m 32 #[.val (.ref va), .val (.int (0 : Int32)), .val (.ref da), .val (.int (0 : Int32)), .val (.int (2 : Int32)), .val (.int (0 : Int32)), .val (.int c0)] [])
  rw [own_bn] at V2
  refine Go.by (fun _ gk => XT.iincV X2.here hx rfl (1 : Int32) (hb hby d5_32) (by decide) rfl (l' := #[.val (.ref va), .val (.int (1 : Int32)), .val (.ref da), .val (.int (0 : Int32)), .val (.int (2 : Int32)), .val (.int (0 : Int32)), .val (.int c0)]) rfl gk) ?_
  show Go _ _ _ _ T2 (mkF m 35 #[.val (.ref va), .val (.int (1 : Int32)), .val (.ref da), .val (.int (0 : Int32)), .val (.int (2 : Int32)), .val (.int (0 : Int32)), .val (.int c0)] [])
  refine Go.by (fun _ gk => XT.iincV X2.here hx rfl (1 : Int32) (hb hby d5_35) (by decide) rfl (l' := #[.val (.ref va), .val (.int (1 : Int32)), .val (.ref da), .val (.int (1 : Int32)), .val (.int (2 : Int32)), .val (.int (0 : Int32)), .val (.int c0)]) rfl gk) ?_
  show Go _ _ _ _ T2 (mkF m 38 #[.val (.ref va), .val (.int (1 : Int32)), .val (.ref da), .val (.int (1 : Int32)), .val (.int (2 : Int32)), .val (.int (0 : Int32)), .val (.int c0)] [])
  refine Go.by (fun _ gk => XT.iincV X2.here hx rfl (1 : Int32) (hb hby d5_38) (by decide) rfl (l' := #[.val (.ref va), .val (.int (1 : Int32)), .val (.ref da), .val (.int (1 : Int32)), .val (.int (2 : Int32)), .val (.int (1 : Int32)), .val (.int c0)]) rfl gk) ?_
  show Go _ _ _ _ T2 (mkF m 41 #[.val (.ref va), .val (.int (1 : Int32)), .val (.ref da), .val (.int (1 : Int32)), .val (.int (2 : Int32)), .val (.int (1 : Int32)), .val (.int c0)] [])
  refine Go.by (fun _ gk => XS.goto X2.here hx rfl (pc0 := 41) (pc' := 3) rfl (hb hby d5_41) (by decide) (by decide) gk) ?_
  show Go _ _ _ _ T2 (mkF m 3 #[.val (.ref va), .val (.int (1 : Int32)), .val (.ref da), .val (.int (1 : Int32)), .val (.int (2 : Int32)), .val (.int (1 : Int32)), .val (.int c0)] [])
  refine Go.by (fun _ gk => XS.iload X2.here hx rfl (hb hby d5_3) rfl gk) ?_
  show Go _ _ _ _ T2 (mkF m 5 #[.val (.ref va), .val (.int (1 : Int32)), .val (.ref da), .val (.int (1 : Int32)), .val (.int (2 : Int32)), .val (.int (1 : Int32)), .val (.int c0)] [(.int (1 : Int32))])
  refine Go.by (fun _ gk => XS.iload X2.here hx rfl (hb hby d5_5) rfl gk) ?_
  show Go _ _ _ _ T2 (mkF m 7 #[.val (.ref va), .val (.int (1 : Int32)), .val (.ref da), .val (.int (1 : Int32)), .val (.int (2 : Int32)), .val (.int (1 : Int32)), .val (.int c0)] [(.int (2 : Int32)), (.int (1 : Int32))])
  refine Go.by (fun _ gk => XS.icmpNo X2.here hx rfl (hb hby d5_7) rfl (XT.ii_ge_f (by decide)) gk) ?_
  show Go _ _ _ _ T2 (mkF m 10 #[.val (.ref va), .val (.int (1 : Int32)), .val (.ref da), .val (.int (1 : Int32)), .val (.int (2 : Int32)), .val (.int (1 : Int32)), .val (.int c0)] [])
  refine Go.by (fun _ gk => XS.aloadN X2.here hx rfl (hb hby d5_10) rfl rfl gk) ?_
  show Go _ _ _ _ T2 (mkF m 11 #[.val (.ref va), .val (.int (1 : Int32)), .val (.ref da), .val (.int (1 : Int32)), .val (.int (2 : Int32)), .val (.int (1 : Int32)), .val (.int c0)] [(.ref va)])
  refine Go.by (fun _ gk => XS.iloadN X2.here hx rfl (hb hby d5_11) rfl gk) ?_
  show Go _ _ _ _ T2 (mkF m 12 #[.val (.ref va), .val (.int (1 : Int32)), .val (.ref da), .val (.int (1 : Int32)), .val (.int (2 : Int32)), .val (.int (1 : Int32)), .val (.int c0)] [(.int (1 : Int32)), (.ref va)])
  have F3 : Arv Z h2 va kv .char (2 : Int32) [(.int c0), (.int c1)] (.int (0 : Int32)) := V_va.other W2 ne_va_da
  obtain ⟨cl4, Ar4, -, S4, M4, H4, -⟩ := id F3
  have hin4 : ¬ ((1 : Int32) < 0 ∨ cl4.slots.size ≤ (1 : Int32).toNatClampNeg) := inb_of S4 ⟨by decide, by decide⟩
  refine Go.by (fun _ gk => X2.caload hx (j := (1 : Int32)) (v := (.int c1)) (by rw [e2]; exact Ar4.1) (State.isArrayOf_alike hZ.alike Ar4.2.1) Ar4.2.2 hin4 (Has.at H4 hin4 rfl) (g := (mkF m 12 #[.val (.ref va), .val (.int (1 : Int32)), .val (.ref da), .val (.int (1 : Int32)), .val (.int (2 : Int32)), .val (.int (1 : Int32)), .val (.int c0)] [(.int (1 : Int32)), (.ref va)])) rfl rfl (hb hby d5_12) _ gk) ?_
  show Go _ _ _ _ T2 (mkF m 13 #[.val (.ref va), .val (.int (1 : Int32)), .val (.ref da), .val (.int (1 : Int32)), .val (.int (2 : Int32)), .val (.int (1 : Int32)), .val (.int c0)] [(.int c1)])
  refine Go.by (fun _ gk => XS.istore X2.here hx rfl (hb hby d5_13) rfl (l' := #[.val (.ref va), .val (.int (1 : Int32)), .val (.ref da), .val (.int (1 : Int32)), .val (.int (2 : Int32)), .val (.int (1 : Int32)), .val (.int c1)]) rfl gk) ?_
  show Go _ _ _ _ T2 (mkF m 15 #[.val (.ref va), .val (.int (1 : Int32)), .val (.ref da), .val (.int (1 : Int32)), .val (.int (2 : Int32)), .val (.int (1 : Int32)), .val (.int c1)] [])
  refine Go.by (fun _ gk => XS.iload X2.here hx rfl (hb hby d5_15) rfl gk) ?_
  show Go _ _ _ _ T2 (mkF m 17 #[.val (.ref va), .val (.int (1 : Int32)), .val (.ref da), .val (.int (1 : Int32)), .val (.int (2 : Int32)), .val (.int (1 : Int32)), .val (.int c1)] [(.int c1)])
  refine Go.by (fun _ gk => XT.sipushV X2.here hx rfl (255 : Int32) (hb hby d5_17) (by decide) gk) ?_
  show Go _ _ _ _ T2 (mkF m 20 #[.val (.ref va), .val (.int (1 : Int32)), .val (.ref da), .val (.int (1 : Int32)), .val (.int (2 : Int32)), .val (.int (1 : Int32)), .val (.int c1)] [(.int (255 : Int32)), (.int c1)])
  refine Go.by (fun _ gk => XS.icmpYes X2.here hx rfl (pc0 := 20) (pc' := 26) rfl (hb hby d5_20) rfl (XT.ii_le_t hc1) (by decide) (by decide) gk) ?_
  show Go _ _ _ _ T2 (mkF m 26 #[.val (.ref va), .val (.int (1 : Int32)), .val (.ref da), .val (.int (1 : Int32)), .val (.int (2 : Int32)), .val (.int (1 : Int32)), .val (.int c1)] [])
  refine Go.by (fun _ gk => XS.aloadN X2.here hx rfl (hb hby d5_26) rfl rfl gk) ?_
  show Go _ _ _ _ T2 (mkF m 27 #[.val (.ref va), .val (.int (1 : Int32)), .val (.ref da), .val (.int (1 : Int32)), .val (.int (2 : Int32)), .val (.int (1 : Int32)), .val (.int c1)] [(.ref da)])
  refine Go.by (fun _ gk => XS.iloadN X2.here hx rfl (hb hby d5_27) rfl gk) ?_
  show Go _ _ _ _ T2 (mkF m 28 #[.val (.ref va), .val (.int (1 : Int32)), .val (.ref da), .val (.int (1 : Int32)), .val (.int (2 : Int32)), .val (.int (1 : Int32)), .val (.int c1)] [(.int (1 : Int32)), (.ref da)])
  refine Go.by (fun _ gk => XS.iload X2.here hx rfl (hb hby d5_28) rfl gk) ?_
  show Go _ _ _ _ T2 (mkF m 30 #[.val (.ref va), .val (.int (1 : Int32)), .val (.ref da), .val (.int (1 : Int32)), .val (.int (2 : Int32)), .val (.int (1 : Int32)), .val (.int c1)] [(.int c1), (.int (1 : Int32)), (.ref da)])
  refine Go.by (fun _ gk => XT.i2b X2.here hx rfl (hb hby d5_30) rfl gk) ?_
  show Go _ _ _ _ T2 (mkF m 31 #[.val (.ref va), .val (.int (1 : Int32)), .val (.ref da), .val (.int (1 : Int32)), .val (.int (2 : Int32)), .val (.int (1 : Int32)), .val (.int c1)] [(.int (c1.toInt8.toInt32)), (.int (1 : Int32)), (.ref da)])
  obtain ⟨cl5, Ar5, q5, S5, M5, H5, G5⟩ := id V2
  have hin5 : ¬ ((1 : Int32) < 0 ∨ cl5.slots.size ≤ (1 : Int32).toNatClampNeg) := inb_of S5 ⟨by decide, by decide⟩
  obtain ⟨T5, h5, X5, e5, W5, st5⟩ := stB X2 hx hZ e2 Ar5 (j := (1 : Int32)) hin5 (g := (mkF m 31 #[.val (.ref va), .val (.int (1 : Int32)), .val (.ref da), .val (.int (1 : Int32)), .val (.int (2 : Int32)), .val (.int (1 : Int32)), .val (.int c1)] [(.int (c1.toInt8.toInt32)), (.int (1 : Int32)), (.ref da)])) rfl rfl (hb hby d5_31)
  have N5 := Fr.snoc X5 N2 g_da
  have V5 : Arv Z h5 da kd .byte (2 : Int32) [(.int (own_b c0)), (.int (nar .byte (c1.toInt8.toInt32)))] (.int (0 : Int32)) := Arv.set Ar5 q5 S5 M5 H5 G5 (fits_nar_byte _) W5 1 rfl (Nat.le_of_ble_eq_true rfl)
  refine Go.by st5 ?_
  show Go _ _ _ _ T5 (mkF m 32 #[.val (.ref va), .val (.int (1 : Int32)), .val (.ref da), .val (.int (1 : Int32)), .val (.int (2 : Int32)), .val (.int (1 : Int32)), .val (.int c1)] [])
  rw [own_bn] at V5
  refine Go.by (fun _ gk => XT.iincV X5.here hx rfl (1 : Int32) (hb hby d5_32) (by decide) rfl (l' := #[.val (.ref va), .val (.int (2 : Int32)), .val (.ref da), .val (.int (1 : Int32)), .val (.int (2 : Int32)), .val (.int (1 : Int32)), .val (.int c1)]) rfl gk) ?_
  show Go _ _ _ _ T5 (mkF m 35 #[.val (.ref va), .val (.int (2 : Int32)), .val (.ref da), .val (.int (1 : Int32)), .val (.int (2 : Int32)), .val (.int (1 : Int32)), .val (.int c1)] [])
  refine Go.by (fun _ gk => XT.iincV X5.here hx rfl (1 : Int32) (hb hby d5_35) (by decide) rfl (l' := #[.val (.ref va), .val (.int (2 : Int32)), .val (.ref da), .val (.int (2 : Int32)), .val (.int (2 : Int32)), .val (.int (1 : Int32)), .val (.int c1)]) rfl gk) ?_
  show Go _ _ _ _ T5 (mkF m 38 #[.val (.ref va), .val (.int (2 : Int32)), .val (.ref da), .val (.int (2 : Int32)), .val (.int (2 : Int32)), .val (.int (1 : Int32)), .val (.int c1)] [])
  refine Go.by (fun _ gk => XT.iincV X5.here hx rfl (1 : Int32) (hb hby d5_38) (by decide) rfl (l' := #[.val (.ref va), .val (.int (2 : Int32)), .val (.ref da), .val (.int (2 : Int32)), .val (.int (2 : Int32)), .val (.int (2 : Int32)), .val (.int c1)]) rfl gk) ?_
  show Go _ _ _ _ T5 (mkF m 41 #[.val (.ref va), .val (.int (2 : Int32)), .val (.ref da), .val (.int (2 : Int32)), .val (.int (2 : Int32)), .val (.int (2 : Int32)), .val (.int c1)] [])
  refine Go.by (fun _ gk => XS.goto X5.here hx rfl (pc0 := 41) (pc' := 3) rfl (hb hby d5_41) (by decide) (by decide) gk) ?_
  show Go _ _ _ _ T5 (mkF m 3 #[.val (.ref va), .val (.int (2 : Int32)), .val (.ref da), .val (.int (2 : Int32)), .val (.int (2 : Int32)), .val (.int (2 : Int32)), .val (.int c1)] [])
  refine Go.by (fun _ gk => XS.iload X5.here hx rfl (hb hby d5_3) rfl gk) ?_
  show Go _ _ _ _ T5 (mkF m 5 #[.val (.ref va), .val (.int (2 : Int32)), .val (.ref da), .val (.int (2 : Int32)), .val (.int (2 : Int32)), .val (.int (2 : Int32)), .val (.int c1)] [(.int (2 : Int32))])
  refine Go.by (fun _ gk => XS.iload X5.here hx rfl (hb hby d5_5) rfl gk) ?_
  show Go _ _ _ _ T5 (mkF m 7 #[.val (.ref va), .val (.int (2 : Int32)), .val (.ref da), .val (.int (2 : Int32)), .val (.int (2 : Int32)), .val (.int (2 : Int32)), .val (.int c1)] [(.int (2 : Int32)), (.int (2 : Int32))])
  refine Go.by (fun _ gk => XS.icmpYes X5.here hx rfl (pc0 := 7) (pc' := 44) rfl (hb hby d5_7) rfl (XT.ii_ge_t (by decide)) (by decide) (by decide) gk) ?_
  show Go _ _ _ _ T5 (mkF m 44 #[.val (.ref va), .val (.int (2 : Int32)), .val (.ref da), .val (.int (2 : Int32)), .val (.int (2 : Int32)), .val (.int (2 : Int32)), .val (.int c1)] [])
  refine Go.by (fun _ gk => XS.iload X5.here hx rfl (hb hby d5_44) rfl gk) ?_
  show Go _ _ _ _ T5 (mkF m 46 #[.val (.ref va), .val (.int (2 : Int32)), .val (.ref da), .val (.int (2 : Int32)), .val (.int (2 : Int32)), .val (.int (2 : Int32)), .val (.int c1)] [(.int (2 : Int32))])
  have F6 : Keep h0 h2 [da] := (Keep.refl h0 [da]).wr W2 (Or.inl (List.mem_of_getElem? (i := 0) rfl))
  have F7 : Keep h0 h5 [da] := F6.wr W5 (Or.inl (List.mem_of_getElem? (i := 0) rfl))
  exact Go.retI X5 hx Bd.notSynchronized Bd.returns rfl (by simp) (hb hby d5_46) (by rw [e5]; exact ⟨rfl, N5, F7, V5⟩) (by decide) (by decide)
theorem ef_27 (m : MethodId) (x0 : Addr) (x1 : Int32) (x2 : Int32) : entryFrame m #[(.ref x0), (.int x1), (.int x2)] 6 = mkF m 0 #[.val (.ref x0), .val (.int x1), .val (.int x2), .unset, .unset, .unset] [] := by (first | (simp [entryFrame, mkF, argsToLocals, Value.category]; done) | rfl)
theorem d4_0 : decode jdk_52_method_16_code 0 = .ok (.iload_n 2, 1) := by decide +kernel
theorem d4_1 : decode jdk_52_method_16_code 1 = .ok (.newarray .byte, 2) := by decide +kernel
theorem d4_3 : decode jdk_52_method_16_code 3 = .ok (.astore_n 3, 1) := by decide +kernel
theorem d4_4 : decode jdk_52_method_16_code 4 = .ok (.aload_n 0, 1) := by decide +kernel
theorem d4_5 : decode jdk_52_method_16_code 5 = .ok (.iload_n 1, 1) := by decide +kernel
theorem d4_6 : decode jdk_52_method_16_code 6 = .ok (.aload_n 3, 1) := by decide +kernel
theorem d4_7 : decode jdk_52_method_16_code 7 = .ok (.iconst 0, 1) := by decide +kernel
theorem d4_8 : decode jdk_52_method_16_code 8 = .ok (.iload_n 2, 1) := by decide +kernel
theorem pd_36 : parseMethodDescriptor "([CI[BII)I" = some ⟨[(.array .char), .int, (.array .byte), .int, .int], some .int⟩ := by decide +kernel
theorem d4_9 : decode jdk_52_method_16_code 9 = .ok (.invokestatic 115, 3) := by decide +kernel
theorem d4_12 : decode jdk_52_method_16_code 12 = .ok (.istore 4, 2) := by decide +kernel
theorem d4_14 : decode jdk_52_method_16_code 14 = .ok (.iload 4, 2) := by decide +kernel
theorem d4_16 : decode jdk_52_method_16_code 16 = .ok (.iload_n 2, 1) := by decide +kernel
theorem d4_17 : decode jdk_52_method_16_code 17 = .ok (.if_icmp .eq 40, 3) := by decide +kernel
theorem d4_57 : decode jdk_52_method_16_code 57 = .ok (.aload_n 3, 1) := by decide +kernel
theorem d4_58 : decode jdk_52_method_16_code 58 = .ok (.areturn, 1) := by decide +kernel
def Q_rmC3_2 (Z : State) (va : Addr) (kv : ClassId) (c0 : Int32) (c1 : Int32) (h0 : Heap) (n0 : Nat) (v : Option Value) (h : Heap) (L : List Loc) : Prop := ∃ da : Addr, ∃ kd : ClassId, v = some (.ref da) ∧ Fr n0 L ∧ Keep h0 h [] ∧ Arv Z h da kd .byte (2 : Int32) ([(.int (own_b c0)), (.int (own_b c1))]) (.int (0 : Int32)) ∧ h0.size ≤ da
set_option maxRecDepth 65536 in
set_option maxHeartbeats 40000000 in
theorem rmC3_2 (l : Launch) (Z : State) (a0 : Array Value) (hw : ∀ d ∈ tables_1, d.before a0 Z = true) (ws : List Jvm.Cond) (va : Addr) (kv : ClassId) (c0 : Int32) (c1 : Int32) (h0 : Heap) (n0 : Nat) (Z0 : n0 ≤ h0.size) (V_va : Arv Z h0 va kv .char (2 : Int32) ([(.int c0), (.int c1)]) (.int (0 : Int32))) (hc0 : ¬ (255 : Int32) < c0) (hc1 : ¬ (255 : Int32) < c1) :
    MetFree l (⟨"java/lang/StringUTF16", "compress", "([CII)[B"⟩ : MethodName) (head1 (Jvm.Cond.code (⟨"java/lang/StringUTF16", "compress", "([CII)[B"⟩ : MethodName) jdk_52_method_16_code 6 (some (.array .byte)) :: ws) ({ frames := 1, cells := 1, slots := 2, locals := 18 } : Room)) (fun as' U => as' = #[(.ref va), (.int (0 : Int32)), (.int (2 : Int32))] ∧ Z.Warmed39 U.vm ∧ U.heap = h0) (fun _ _ _ _ _ => True) (fun _ U o U' => ∃ v L, o = .returned v ∧ Q_rmC3_2 Z va kv c0 c1 h0 n0 v U'.heap L ∧ FrameEnd U o U' L ({ frames := 1, cells := 1, slots := 2, locals := 18 } : Room).cells ({ frames := 1, cells := 1, slots := 2, locals := 18 } : Room).slots) := by
  refine MetFree.of_bodySF (plainFor_of_name pn_2) hisR ?_
  intro p e s m args below meth c s₁ Bd hml0 hP hK
  obtain ⟨rfl, hZ, hh⟩ := hP
  have hx := Bd.exec
  have hby := Bd.bytes
  have hml : c.maxLocals = 6 := hml0
  have hown : s.vm.findClass "java/lang/StringUTF16" = some m.cls := findClass_of_methodNamed Bd.named
  have hnm := (name_of_methodNamed Bd.named Bd.method).1
  have X0 : Stand p l e ({ frames := 1, cells := 1, slots := 2, locals := 18 } : Room) s m #[(.ref va), (.int (0 : Int32)), (.int (2 : Int32))] below meth c s₁ [] 0 0 := Stand.of_body Bd
  have e0 : s₁.heap = h0 := by rw [← hh, Bd.state]; rfl
  have N0 := Fr.nil n0
  refine Go.enter (F := EndN s (Q_rmC3_2 Z va kv c0 c1 h0 n0) ({ frames := 1, cells := 1, slots := 2, locals := 18 } : Room).cells ({ frames := 1, cells := 1, slots := 2, locals := 18 } : Room).slots) (ef_27 m va (0 : Int32) (2 : Int32)) ?_
  show Go _ _ _ _ s₁ (mkF m 0 #[.val (.ref va), .val (.int (0 : Int32)), .val (.int (2 : Int32)), .unset, .unset, .unset] [])
  refine Go.by (fun _ gk => XS.iloadN X0.here hx rfl (hb hby d4_0) rfl gk) ?_
  show Go _ _ _ _ s₁ (mkF m 1 #[.val (.ref va), .val (.int (0 : Int32)), .val (.int (2 : Int32)), .unset, .unset, .unset] [(.int (2 : Int32))])
  obtain ⟨da, g1⟩ : ∃ z, z = h0.size := ⟨_, rfl⟩
  have ge_da : n0 ≤ da := Nat.le_trans Z0 (Nat.le_of_eq g1.symm)
  have sz_da : h0.size ≤ da := Nat.le_trans (Keep.refl h0 []).1 (Nat.le_of_eq g1.symm)
  have ne_va_da : va ≠ da := Nat.ne_of_lt (Nat.lt_of_lt_of_le V_va.lt (Nat.le_of_eq g1.symm))
  obtain ⟨T1, h1, k1, X1, e1, E1, A1, Ea1, st1⟩ := newPE X0 hx hZ (hw _ (List.mem_of_getElem? (i := 20) rfl)) e0 (g := (mkF m 1 #[.val (.ref va), .val (.int (0 : Int32)), .val (.int (2 : Int32)), .unset, .unset, .unset] [(.int (2 : Int32))])) rfl (hb hby d4_1) rfl (by decide) (cap := 2) (by decide) (by decide) (by decide) (by decide) (ad := "[B") rfl
  rw [← g1] at A1 Ea1 st1
  have V_da : Arv Z h1 da k1 .byte (2 : Int32) [(.int (0 : Int32)), (.int (0 : Int32))] (.int (0 : Int32)) := (Arv.new A1 (by decide)).pad (pad_rep [] (.int (0 : Int32)) 2)
  refine Go.by st1 ?_
  show Go _ _ _ _ T1 (mkF m 3 #[.val (.ref va), .val (.int (0 : Int32)), .val (.int (2 : Int32)), .unset, .unset, .unset] [(.ref da)])
  refine Go.by (fun _ gk => XS.astoreN X1.here hx rfl (hb hby d4_3) rfl rfl (l' := #[.val (.ref va), .val (.int (0 : Int32)), .val (.int (2 : Int32)), .val (.ref da), .unset, .unset]) rfl gk) ?_
  show Go _ _ _ _ T1 (mkF m 4 #[.val (.ref va), .val (.int (0 : Int32)), .val (.int (2 : Int32)), .val (.ref da), .unset, .unset] [])
  refine Go.by (fun _ gk => XS.aloadN X1.here hx rfl (hb hby d4_4) rfl rfl gk) ?_
  show Go _ _ _ _ T1 (mkF m 5 #[.val (.ref va), .val (.int (0 : Int32)), .val (.int (2 : Int32)), .val (.ref da), .unset, .unset] [(.ref va)])
  refine Go.by (fun _ gk => XS.iloadN X1.here hx rfl (hb hby d4_5) rfl gk) ?_
  show Go _ _ _ _ T1 (mkF m 6 #[.val (.ref va), .val (.int (0 : Int32)), .val (.int (2 : Int32)), .val (.ref da), .unset, .unset] [(.int (0 : Int32)), (.ref va)])
  refine Go.by (fun _ gk => XS.aloadN X1.here hx rfl (hb hby d4_6) rfl rfl gk) ?_
  show Go _ _ _ _ T1 (mkF m 7 #[.val (.ref va), .val (.int (0 : Int32)), .val (.int (2 : Int32)), .val (.ref da), .unset, .unset] [(.ref da), (.int (0 : Int32)), (.ref va)])
  refine Go.by (fun _ gk => XT.iconstV X1.here hx rfl (0 : Int32) (hb hby d4_7) (by decide) gk) ?_
  show Go _ _ _ _ T1 (mkF m 8 #[.val (.ref va), .val (.int (0 : Int32)), .val (.int (2 : Int32)), .val (.ref da), .unset, .unset] [(.int (0 : Int32)), (.ref da), (.int (0 : Int32)), (.ref va)])
  refine Go.by (fun _ gk => XS.iloadN X1.here hx rfl (hb hby d4_8) rfl gk) ?_
  show Go _ _ _ _ T1 (mkF m 9 #[.val (.ref va), .val (.int (0 : Int32)), .val (.int (2 : Int32)), .val (.ref da), .unset, .unset] [(.int (2 : Int32)), (.int (0 : Int32)), (.ref da), (.int (0 : Int32)), (.ref va)])
  have F2 : Arv Z h1 va kv .char (2 : Int32) [(.int c0), (.int c1)] (.int (0 : Int32)) := V_va.ext E1
  have F3 : n0 ≤ h1.size := Nat.le_trans Z0 E1.1
  obtain ⟨_, _, ⟨T4, L4, k4, n4⟩, -, X4, ⟨Lc4, hQ4, l4, y4, z4⟩, st4⟩ := Jvm.LawKit.callS X1 hx (y := (⟨"java/lang/StringUTF16", "compress", "([CI[BII)I"⟩ : MethodName)) hown (mvT hZ (hw _ (List.mem_of_getElem? (i := 21) rfl))) (mvT hZ (hw _ (List.mem_of_getElem? (i := 22) rfl))) (mvT hZ (hw _ (List.mem_of_getElem? (i := 18) rfl))) (mvT hZ (hw _ (List.mem_of_getElem? (i := 23) rfl))) (by decide) (backOf (W := 0) (rmC5_2 l Z a0 hw [] va da kv k1 c0 c1 h1 n0 F3 F2 V_da ge_da ne_va_da hc0 hc1) hZ (hw _ (List.mem_of_getElem? (i := 23) rfl)) (hw _ (List.mem_of_getElem? (i := 18) rfl)) (by decide) (by decide)) (g := (mkF m 9 #[.val (.ref va), .val (.int (0 : Int32)), .val (.int (2 : Int32)), .val (.ref da), .unset, .unset] [(.int (2 : Int32)), (.int (0 : Int32)), (.ref da), (.int (0 : Int32)), (.ref va)])) rfl (by rw [hml]; rfl) (argsL := [(.ref va), (.int (0 : Int32)), (.ref da), (.int (0 : Int32)), (.int (2 : Int32))]) (rest := []) (lenOf pd_36 rfl) rfl (by show 2 * 0 + _ ≤ _; exact Nat.le_of_eq rfl) (hb hby d4_9) (fun _ _ => ⟨rfl, e1, (by decide : 1 + 0 ≤ _), (by decide : 2 + 0 ≤ _)⟩)
  dsimp only [Pt.U, Pt.locs, Pt.cells, Pt.slots] at X4 l4 y4 z4 st4 hQ4
  subst l4 y4 z4
  obtain ⟨rfl, N4q, K4, Q4_0⟩ := hQ4
  have N4 := Fr.app N0 N4q
  refine Go.by st4 ?_
  show Go _ _ _ _ T4 (mkF m 12 #[.val (.ref va), .val (.int (0 : Int32)), .val (.int (2 : Int32)), .val (.ref da), .unset, .unset] [(.int (2 : Int32))])
  refine Go.by (fun _ gk => XS.istore X4.here hx rfl (hb hby d4_12) rfl (l' := #[.val (.ref va), .val (.int (0 : Int32)), .val (.int (2 : Int32)), .val (.ref da), .val (.int (2 : Int32)), .unset]) rfl gk) ?_
  show Go _ _ _ _ T4 (mkF m 14 #[.val (.ref va), .val (.int (0 : Int32)), .val (.int (2 : Int32)), .val (.ref da), .val (.int (2 : Int32)), .unset] [])
  refine Go.by (fun _ gk => XS.iload X4.here hx rfl (hb hby d4_14) rfl gk) ?_
  show Go _ _ _ _ T4 (mkF m 16 #[.val (.ref va), .val (.int (0 : Int32)), .val (.int (2 : Int32)), .val (.ref da), .val (.int (2 : Int32)), .unset] [(.int (2 : Int32))])
  refine Go.by (fun _ gk => XS.iloadN X4.here hx rfl (hb hby d4_16) rfl gk) ?_
  show Go _ _ _ _ T4 (mkF m 17 #[.val (.ref va), .val (.int (0 : Int32)), .val (.int (2 : Int32)), .val (.ref da), .val (.int (2 : Int32)), .unset] [(.int (2 : Int32)), (.int (2 : Int32))])
  refine Go.by (fun _ gk => XS.icmpYes X4.here hx rfl (pc0 := 17) (pc' := 57) rfl (hb hby d4_17) rfl (XT.ii_eq_t rfl) (by decide) (by decide) gk) ?_
  show Go _ _ _ _ T4 (mkF m 57 #[.val (.ref va), .val (.int (0 : Int32)), .val (.int (2 : Int32)), .val (.ref da), .val (.int (2 : Int32)), .unset] [])
  refine Go.by (fun _ gk => XS.aloadN X4.here hx rfl (hb hby d4_57) rfl rfl gk) ?_
  show Go _ _ _ _ T4 (mkF m 58 #[.val (.ref va), .val (.int (0 : Int32)), .val (.int (2 : Int32)), .val (.ref da), .val (.int (2 : Int32)), .unset] [(.ref da)])
  have F5 : Keep h0 h1 [] := (Keep.refl h0 []).ext E1
  have F6 : Keep h0 T4.heap [] := F5.trans K4 (allS (Or.inr sz_da) all0)
  exact Go.retA X4 hx Bd.notSynchronized Bd.returns rfl rfl (hb hby d4_58) ⟨da, k1, rfl, N4, F6, Q4_0, sz_da⟩ (by decide) (by decide)
theorem ef_44 (m : MethodId) (x0 : Addr) (x1 : Int32) : entryFrame m #[(.ref x0), (.int x1)] 2 = mkF m 0 #[.val (.ref x0), .val (.int x1)] [] := by (first | (simp [entryFrame, mkF, argsToLocals, Value.category]; done) | rfl)
theorem d6_0 : decode jdk_52_method_15_code 0 = .ok (.iload_n 1, 1) := by decide +kernel
theorem d6_1 : decode jdk_52_method_15_code 1 = .ok (.aload_n 0, 1) := by decide +kernel
theorem d6_2 : decode jdk_52_method_15_code 2 = .ok (.arraylength, 1) := by decide +kernel
theorem d6_3 : decode jdk_52_method_15_code 3 = .ok (.isub, 1) := by decide +kernel
theorem d6_4 : decode jdk_52_method_15_code 4 = .ok (.bipush 31, 2) := by decide +kernel
theorem d6_6 : decode jdk_52_method_15_code 6 = .ok (.iushr, 1) := by decide +kernel
theorem d6_7 : decode jdk_52_method_15_code 7 = .ok (.i2b, 1) := by decide +kernel
theorem d6_8 : decode jdk_52_method_15_code 8 = .ok (.ireturn, 1) := by decide +kernel
def Q_rmCoder_2 (Z : State) (da : Addr) (kd : ClassId) (vs : List Value) (h0 : Heap) (n0 : Nat) (v : Option Value) (h : Heap) (L : List Loc) : Prop := v = some (.int (0 : Int32)) ∧ Fr n0 L ∧ h = h0
set_option maxRecDepth 65536 in
set_option maxHeartbeats 40000000 in
theorem rmCoder_2 (l : Launch) (Z : State) (a0 : Array Value) (hw : ∀ d ∈ tables_1, d.before a0 Z = true) (ws : List Jvm.Cond) (da : Addr) (kd : ClassId) (vs : List Value) (h0 : Heap) (n0 : Nat) (Z0 : n0 ≤ h0.size) (V_da : Arv Z h0 da kd .byte (2 : Int32) vs (.int (0 : Int32))) :
    MetFree l (⟨"java/lang/StringUTF16", "coderFromArrayLen", "([BI)B"⟩ : MethodName) (head1 (Jvm.Cond.code (⟨"java/lang/StringUTF16", "coderFromArrayLen", "([BI)B"⟩ : MethodName) jdk_52_method_15_code 2 (some .byte) :: ws) ({ frames := 0, cells := 0, slots := 0, locals := 0 } : Room)) (fun as' U => as' = #[(.ref da), (.int (2 : Int32))] ∧ Z.Warmed39 U.vm ∧ U.heap = h0) (fun _ _ _ _ _ => True) (fun _ U o U' => ∃ v L, o = .returned v ∧ Q_rmCoder_2 Z da kd vs h0 n0 v U'.heap L ∧ FrameEnd U o U' L ({ frames := 0, cells := 0, slots := 0, locals := 0 } : Room).cells ({ frames := 0, cells := 0, slots := 0, locals := 0 } : Room).slots) := by
  refine MetFree.of_bodySF (plainFor_of_name pn_2) hisR ?_
  intro p e s m args below meth c s₁ Bd hml0 hP hK
  obtain ⟨rfl, hZ, hh⟩ := hP
  have hx := Bd.exec
  have hby := Bd.bytes
  have hml : c.maxLocals = 2 := hml0
  have hown : s.vm.findClass "java/lang/StringUTF16" = some m.cls := findClass_of_methodNamed Bd.named
  have hnm := (name_of_methodNamed Bd.named Bd.method).1
  have X0 : Stand p l e ({ frames := 0, cells := 0, slots := 0, locals := 0 } : Room) s m #[(.ref da), (.int (2 : Int32))] below meth c s₁ [] 0 0 := Stand.of_body Bd
  have e0 : s₁.heap = h0 := by rw [← hh, Bd.state]; rfl
  have N0 := Fr.nil n0
  refine Go.enter (F := EndN s (Q_rmCoder_2 Z da kd vs h0 n0) ({ frames := 0, cells := 0, slots := 0, locals := 0 } : Room).cells ({ frames := 0, cells := 0, slots := 0, locals := 0 } : Room).slots) (ef_44 m da (2 : Int32)) ?_
  show Go _ _ _ _ s₁ (mkF m 0 #[.val (.ref da), .val (.int (2 : Int32))] [])
  refine Go.by (fun _ gk => XS.iloadN X0.here hx rfl (hb hby d6_0) rfl gk) ?_
  show Go _ _ _ _ s₁ (mkF m 1 #[.val (.ref da), .val (.int (2 : Int32))] [(.int (2 : Int32))])
  refine Go.by (fun _ gk => XS.aloadN X0.here hx rfl (hb hby d6_1) rfl rfl gk) ?_
  show Go _ _ _ _ s₁ (mkF m 2 #[.val (.ref da), .val (.int (2 : Int32))] [(.ref da), (.int (2 : Int32))])
  obtain ⟨cl1, Ar1, -, S1, M1, -, -⟩ := id V_da
  refine Go.by (fun _ gk => X0.arraylength hx (by rw [e0]; exact Ar1.1) (State.isArrayOf_alike hZ.alike Ar1.2.1) (g := (mkF m 2 #[.val (.ref da), .val (.int (2 : Int32))] [(.ref da), (.int (2 : Int32))])) rfl rfl (hb hby d6_2) _ gk) ?_
  rw [len_of S1 M1]
  show Go _ _ _ _ s₁ (mkF m 3 #[.val (.ref da), .val (.int (2 : Int32))] [(.int (2 : Int32)), (.int (2 : Int32))])
  refine Go.by (fun _ gk => XS.isub X0.here hx rfl (hb hby d6_3) rfl gk) ?_
  show Go _ _ _ _ s₁ (mkF m 4 #[.val (.ref da), .val (.int (2 : Int32))] [(.int ((2 : Int32) - (2 : Int32)))])
  rw [(by decide : ((2 : Int32) - (2 : Int32)) = (0 : Int32))]
  show Go _ _ _ _ s₁ (mkF m 4 #[.val (.ref da), .val (.int (2 : Int32))] [(.int (0 : Int32))])
  refine Go.by (fun _ gk => XT.bipushV X0.here hx rfl (31 : Int32) (hb hby d6_4) (by decide) gk) ?_
  show Go _ _ _ _ s₁ (mkF m 6 #[.val (.ref da), .val (.int (2 : Int32))] [(.int (31 : Int32)), (.int (0 : Int32))])
  refine Go.by (fun _ gk => XT.iushr X0.here hx rfl (hb hby d6_6) rfl gk) ?_
  show Go _ _ _ _ s₁ (mkF m 7 #[.val (.ref da), .val (.int (2 : Int32))] [(.int (XT.ushr (0 : Int32) (31 : Int32)))])
  rw [(by decide : (XT.ushr (0 : Int32) (31 : Int32)) = (0 : Int32))]
  show Go _ _ _ _ s₁ (mkF m 7 #[.val (.ref da), .val (.int (2 : Int32))] [(.int (0 : Int32))])
  refine Go.by (fun _ gk => XT.i2b X0.here hx rfl (hb hby d6_7) rfl gk) ?_
  show Go _ _ _ _ s₁ (mkF m 8 #[.val (.ref da), .val (.int (2 : Int32))] [(.int ((0 : Int32).toInt8.toInt32))])
  rw [(by decide : ((0 : Int32).toInt8.toInt32) = (0 : Int32))]
  show Go _ _ _ _ s₁ (mkF m 8 #[.val (.ref da), .val (.int (2 : Int32))] [(.int (0 : Int32))])
  exact Go.retI X0 hx Bd.notSynchronized Bd.returns rfl (by simp) (hb hby d6_8) (by rw [e0]; exact ⟨rfl, N0, rfl⟩) (by decide) (by decide)
theorem pn_53 : plainName "java/lang/String" = true := by first | (simp [plainName, overriddenIn]; done) | decide +kernel
theorem ef_54 (m : MethodId) (x0 : Addr) (x1 : Addr) (x2 : Int32) (x3 : Int32) : entryFrame m #[(.ref x0), (.ref x1), (.int x2), (.int x3), .null] 6 = mkF m 0 #[.val (.ref x0), .val (.ref x1), .val (.int x2), .val (.int x3), .val .null, .unset] [] := by (first | (simp [entryFrame, mkF, argsToLocals, Value.category]; done) | rfl)
theorem d2_0 : decode jdk_42_method_149_code 0 = .ok (.aload_n 0, 1) := by decide +kernel
theorem d2_1 : decode jdk_42_method_149_code 1 = .ok (.invokespecial 1, 3) := by decide +kernel
theorem d2_4 : decode jdk_42_method_149_code 4 = .ok (.iload_n 3, 1) := by decide +kernel
theorem d2_5 : decode jdk_42_method_149_code 5 = .ok (.ifCond .ne 22, 3) := by decide +kernel
theorem d2_27 : decode jdk_42_method_149_code 27 = .ok (.getstatic 38, 3) := by decide +kernel
theorem d2_30 : decode jdk_42_method_149_code 30 = .ok (.ifCond .eq 28, 3) := by decide +kernel
theorem d2_33 : decode jdk_42_method_149_code 33 = .ok (.aload_n 1, 1) := by decide +kernel
theorem d2_34 : decode jdk_42_method_149_code 34 = .ok (.iload_n 2, 1) := by decide +kernel
theorem d2_35 : decode jdk_42_method_149_code 35 = .ok (.iload_n 3, 1) := by decide +kernel
theorem pd_64 : parseMethodDescriptor "([CII)[B" = some ⟨[(.array .char), .int, .int], some (.array .byte)⟩ := by decide +kernel
theorem d2_36 : decode jdk_42_method_149_code 36 = .ok (.invokestatic 177, 3) := by decide +kernel
theorem d2_39 : decode jdk_42_method_149_code 39 = .ok (.astore 5, 2) := by decide +kernel
theorem d2_41 : decode jdk_42_method_149_code 41 = .ok (.aload_n 0, 1) := by decide +kernel
theorem d2_42 : decode jdk_42_method_149_code 42 = .ok (.aload 5, 2) := by decide +kernel
theorem d2_44 : decode jdk_42_method_149_code 44 = .ok (.iload_n 3, 1) := by decide +kernel
theorem pd_70 : parseMethodDescriptor "([BI)B" = some ⟨[(.array .byte), .int], some .byte⟩ := by decide +kernel
theorem d2_45 : decode jdk_42_method_149_code 45 = .ok (.invokestatic 47, 3) := by decide +kernel
theorem d2_48 : decode jdk_42_method_149_code 48 = .ok (.putfield 15, 3) := by decide +kernel
theorem d2_51 : decode jdk_42_method_149_code 51 = .ok (.aload_n 0, 1) := by decide +kernel
theorem d2_52 : decode jdk_42_method_149_code 52 = .ok (.aload 5, 2) := by decide +kernel
theorem d2_54 : decode jdk_42_method_149_code 54 = .ok (.putfield 9, 3) := by decide +kernel
theorem d2_57 : decode jdk_42_method_149_code 57 = .ok (.return_, 1) := by decide +kernel
def Q_rmS4_2 (Z : State) (a : Addr) (va : Addr) (kv : ClassId) (c0 : Int32) (c1 : Int32) (cs : Int32) (h0 : Heap) (n0 : Nat) (v : Option Value) (h : Heap) (L : List Loc) : Prop := ∃ b : Addr, ∃ kb : ClassId, v = none ∧ Fr n0 L ∧ Keep h0 h [a] ∧ Exa Z h a "java/lang/String" ∧ Fld Z h a "java/lang/String" "coder" "B" (.int (0 : Int32)) ∧ Fld Z h a "java/lang/String" "value" "[B" (.ref b) ∧ Arv Z h b kb .byte (2 : Int32) ([(.int (own_b c0)), (.int (own_b c1))]) (.int (0 : Int32)) ∧ h0.size ≤ b
set_option maxRecDepth 65536 in
set_option maxHeartbeats 40000000 in
theorem rmS4_2 (l : Launch) (Z : State) (a0 : Array Value) (hw : ∀ d ∈ tables_1, d.before a0 Z = true) (ws : List Jvm.Cond) (a : Addr) (va : Addr) (kv : ClassId) (c0 : Int32) (c1 : Int32) (cs : Int32) (h0 : Heap) (n0 : Nat) (Z0 : n0 ≤ h0.size) (O0 : Old Z n0 h0) (E_a : Exa Z h0 a "java/lang/String") (F_a_value : Fld Z h0 a "java/lang/String" "value" "[B" .null) (F_a_coder : Fld Z h0 a "java/lang/String" "coder" "B" (.int (0 : Int32))) (g_a : n0 ≤ a) (V_va : Arv Z h0 va kv .char (2 : Int32) ([(.int c0), (.int c1)]) (.int (0 : Int32))) (hc0 : ¬ (255 : Int32) < c0) (hc1 : ¬ (255 : Int32) < c1) (S_cs : Sta Z Z.heap "java/lang/String" "COMPACT_STRINGS" "Z" (.int cs)) (n_cs : ¬ cs = 0) :
    MetFree l (⟨"java/lang/String", "<init>", "([CIILjava/lang/Void;)V"⟩ : MethodName) (head1 (Jvm.Cond.code (⟨"java/lang/String", "<init>", "([CIILjava/lang/Void;)V"⟩ : MethodName) jdk_42_method_149_code 6 none :: ws) ({ frames := 2, cells := 1, slots := 2, locals := 35 } : Room)) (fun as' U => as' = #[(.ref a), (.ref va), (.int (0 : Int32)), (.int (2 : Int32)), .null] ∧ Z.Warmed39 U.vm ∧ U.heap = h0) (fun _ _ _ _ _ => True) (fun _ U o U' => ∃ v L, o = .returned v ∧ Q_rmS4_2 Z a va kv c0 c1 cs h0 n0 v U'.heap L ∧ FrameEnd U o U' L ({ frames := 2, cells := 1, slots := 2, locals := 35 } : Room).cells ({ frames := 2, cells := 1, slots := 2, locals := 35 } : Room).slots) := by
  refine MetFree.of_bodySF (plainFor_of_name pn_53) hisR ?_
  intro p e s m args below meth c s₁ Bd hml0 hP hK
  obtain ⟨rfl, hZ, hh⟩ := hP
  have hx := Bd.exec
  have hby := Bd.bytes
  have hml : c.maxLocals = 6 := hml0
  have hown : s.vm.findClass "java/lang/String" = some m.cls := findClass_of_methodNamed Bd.named
  have hnm := (name_of_methodNamed Bd.named Bd.method).1
  have X0 : Stand p l e ({ frames := 2, cells := 1, slots := 2, locals := 35 } : Room) s m #[(.ref a), (.ref va), (.int (0 : Int32)), (.int (2 : Int32)), .null] below meth c s₁ [] 0 0 := Stand.of_body Bd
  have e0 : s₁.heap = h0 := by rw [← hh, Bd.state]; rfl
  have N0 := Fr.nil n0
  refine Go.enter (F := EndN s (Q_rmS4_2 Z a va kv c0 c1 cs h0 n0) ({ frames := 2, cells := 1, slots := 2, locals := 35 } : Room).cells ({ frames := 2, cells := 1, slots := 2, locals := 35 } : Room).slots) (ef_54 m a va (0 : Int32) (2 : Int32)) ?_
  show Go _ _ _ _ s₁ (mkF m 0 #[.val (.ref a), .val (.ref va), .val (.int (0 : Int32)), .val (.int (2 : Int32)), .val .null, .unset] [])
  refine Go.by (fun _ gk => XS.aloadN X0.here hx rfl (hb hby d2_0) rfl rfl gk) ?_
  show Go _ _ _ _ s₁ (mkF m 1 #[.val (.ref a), .val (.ref va), .val (.int (0 : Int32)), .val (.int (2 : Int32)), .val .null, .unset] [(.ref a)])
  obtain ⟨T1, X1, e1, st1⟩ := initO X0 hx hZ hown (hw _ (List.mem_of_getElem? (i := 12) rfl)) (hw _ (List.mem_of_getElem? (i := 13) rfl)) (hw _ (List.mem_of_getElem? (i := 14) rfl)) e0 (g := (mkF m 1 #[.val (.ref a), .val (.ref va), .val (.int (0 : Int32)), .val (.int (2 : Int32)), .val .null, .unset] [(.ref a)])) rfl (by rw [hml]; rfl) rfl (hb hby d2_1) (by decide) (W := 0) (by show 2 * 0 + _ ≤ _; exact Nat.le_of_eq rfl) (by decide)
  refine Go.by st1 ?_
  show Go _ _ _ _ T1 (mkF m 4 #[.val (.ref a), .val (.ref va), .val (.int (0 : Int32)), .val (.int (2 : Int32)), .val .null, .unset] [])
  refine Go.by (fun _ gk => XS.iloadN X1.here hx rfl (hb hby d2_4) rfl gk) ?_
  show Go _ _ _ _ T1 (mkF m 5 #[.val (.ref a), .val (.ref va), .val (.int (0 : Int32)), .val (.int (2 : Int32)), .val .null, .unset] [(.int (2 : Int32))])
  refine Go.by (fun _ gk => XS.ifYes X1.here hx rfl (pc0 := 5) (pc' := 27) rfl (hb hby d2_5) rfl (XT.i0_ne_t (by decide)) (by decide) (by decide) gk) ?_
  show Go _ _ _ _ T1 (mkF m 27 #[.val (.ref a), .val (.ref va), .val (.int (0 : Int32)), .val (.int (2 : Int32)), .val .null, .unset] [])
  have F2 : Sta Z h0 "java/lang/String" "COMPACT_STRINGS" "Z" (.int cs) := S_cs.ext O0.2
  obtain ⟨T3, X3, e3, st3⟩ := getS2 X1 hx hZ hown (host := "") (Or.inl (hw _ (List.mem_of_getElem? (i := 15) rfl))) Via.refl e1 F2 (g := (mkF m 27 #[.val (.ref a), .val (.ref va), .val (.int (0 : Int32)), .val (.int (2 : Int32)), .val .null, .unset] [])) rfl (hb hby d2_27)
  refine Go.by st3 ?_
  show Go _ _ _ _ T3 (mkF m 30 #[.val (.ref a), .val (.ref va), .val (.int (0 : Int32)), .val (.int (2 : Int32)), .val .null, .unset] [(.int cs)])
  refine Go.by (fun _ gk => XS.ifNo X3.here hx rfl (hb hby d2_30) rfl (XT.i0_eq_f n_cs) gk) ?_
  show Go _ _ _ _ T3 (mkF m 33 #[.val (.ref a), .val (.ref va), .val (.int (0 : Int32)), .val (.int (2 : Int32)), .val .null, .unset] [])
  refine Go.by (fun _ gk => XS.aloadN X3.here hx rfl (hb hby d2_33) rfl rfl gk) ?_
  show Go _ _ _ _ T3 (mkF m 34 #[.val (.ref a), .val (.ref va), .val (.int (0 : Int32)), .val (.int (2 : Int32)), .val .null, .unset] [(.ref va)])
  refine Go.by (fun _ gk => XS.iloadN X3.here hx rfl (hb hby d2_34) rfl gk) ?_
  show Go _ _ _ _ T3 (mkF m 35 #[.val (.ref a), .val (.ref va), .val (.int (0 : Int32)), .val (.int (2 : Int32)), .val .null, .unset] [(.int (0 : Int32)), (.ref va)])
  refine Go.by (fun _ gk => XS.iloadN X3.here hx rfl (hb hby d2_35) rfl gk) ?_
  show Go _ _ _ _ T3 (mkF m 36 #[.val (.ref a), .val (.ref va), .val (.int (0 : Int32)), .val (.int (2 : Int32)), .val .null, .unset] [(.int (2 : Int32)), (.int (0 : Int32)), (.ref va)])
  obtain ⟨_, _, ⟨T4, L4, k4, n4⟩, -, X4, ⟨Lc4, hQ4, l4, y4, z4⟩, st4⟩ := Jvm.LawKit.callS X3 hx (y := (⟨"java/lang/StringUTF16", "compress", "([CII)[B"⟩ : MethodName)) hown (mvT hZ (hw _ (List.mem_of_getElem? (i := 16) rfl))) (mvT hZ (hw _ (List.mem_of_getElem? (i := 17) rfl))) (mvT hZ (hw _ (List.mem_of_getElem? (i := 18) rfl))) (mvT hZ (hw _ (List.mem_of_getElem? (i := 19) rfl))) (by decide) (backOf (W := 0) (rmC3_2 l Z a0 hw [] va kv c0 c1 h0 n0 Z0 V_va hc0 hc1) hZ (hw _ (List.mem_of_getElem? (i := 19) rfl)) (hw _ (List.mem_of_getElem? (i := 18) rfl)) (by decide) (by decide)) (g := (mkF m 36 #[.val (.ref a), .val (.ref va), .val (.int (0 : Int32)), .val (.int (2 : Int32)), .val .null, .unset] [(.int (2 : Int32)), (.int (0 : Int32)), (.ref va)])) rfl (by rw [hml]; rfl) (argsL := [(.ref va), (.int (0 : Int32)), (.int (2 : Int32))]) (rest := []) (lenOf pd_64 rfl) rfl (by show 2 * 0 + _ ≤ _; exact Nat.le_of_eq rfl) (hb hby d2_36) (fun _ _ => ⟨rfl, e3, (by decide : 0 + 1 ≤ _), (by decide : 0 + 2 ≤ _)⟩)
  dsimp only [Pt.U, Pt.locs, Pt.cells, Pt.slots] at X4 l4 y4 z4 st4 hQ4
  subst l4 y4 z4
  obtain ⟨b, kb, rfl, N4q, K4, Q4_0, Q4_1⟩ := hQ4
  have N4 := Fr.app N0 N4q
  refine Go.by st4 ?_
  show Go _ _ _ _ T4 (mkF m 39 #[.val (.ref a), .val (.ref va), .val (.int (0 : Int32)), .val (.int (2 : Int32)), .val .null, .unset] [(.ref b)])
  have ge_b : n0 ≤ b := Nat.le_trans Z0 Q4_1
  have sz_b : h0.size ≤ b := Nat.le_trans (Keep.refl h0 [a]).1 Q4_1
  have ne_a_b : a ≠ b := Nat.ne_of_lt (Nat.lt_of_lt_of_le E_a.lt Q4_1)
  have ne_va_b : va ≠ b := Nat.ne_of_lt (Nat.lt_of_lt_of_le V_va.lt Q4_1)
  refine Go.by (fun _ gk => XS.astore X4.here hx rfl (hb hby d2_39) rfl rfl (l' := #[.val (.ref a), .val (.ref va), .val (.int (0 : Int32)), .val (.int (2 : Int32)), .val .null, .val (.ref b)]) rfl gk) ?_
  show Go _ _ _ _ T4 (mkF m 41 #[.val (.ref a), .val (.ref va), .val (.int (0 : Int32)), .val (.int (2 : Int32)), .val .null, .val (.ref b)] [])
  refine Go.by (fun _ gk => XS.aloadN X4.here hx rfl (hb hby d2_41) rfl rfl gk) ?_
  show Go _ _ _ _ T4 (mkF m 42 #[.val (.ref a), .val (.ref va), .val (.int (0 : Int32)), .val (.int (2 : Int32)), .val .null, .val (.ref b)] [(.ref a)])
  refine Go.by (fun _ gk => XS.aload X4.here hx rfl (hb hby d2_42) rfl rfl gk) ?_
  show Go _ _ _ _ T4 (mkF m 44 #[.val (.ref a), .val (.ref va), .val (.int (0 : Int32)), .val (.int (2 : Int32)), .val .null, .val (.ref b)] [(.ref b), (.ref a)])
  refine Go.by (fun _ gk => XS.iloadN X4.here hx rfl (hb hby d2_44) rfl gk) ?_
  show Go _ _ _ _ T4 (mkF m 45 #[.val (.ref a), .val (.ref va), .val (.int (0 : Int32)), .val (.int (2 : Int32)), .val .null, .val (.ref b)] [(.int (2 : Int32)), (.ref b), (.ref a)])
  have F5 : n0 ≤ T4.heap.size := Nat.le_trans Z0 K4.1
  obtain ⟨_, _, ⟨T6, L6, k6, n6⟩, -, X6, ⟨Lc6, hQ6, l6, y6, z6⟩, st6⟩ := Jvm.LawKit.callS X4 hx (y := (⟨"java/lang/StringUTF16", "coderFromArrayLen", "([BI)B"⟩ : MethodName)) hown (mvT hZ (hw _ (List.mem_of_getElem? (i := 24) rfl))) (mvT hZ (hw _ (List.mem_of_getElem? (i := 25) rfl))) (mvT hZ (hw _ (List.mem_of_getElem? (i := 18) rfl))) (mvT hZ (hw _ (List.mem_of_getElem? (i := 26) rfl))) (by decide) (backOf (W := 1) (rmCoder_2 l Z a0 hw [] b kb ([(.int (own_b c0)), (.int (own_b c1))]) T4.heap n0 F5 Q4_0) hZ (hw _ (List.mem_of_getElem? (i := 26) rfl)) (hw _ (List.mem_of_getElem? (i := 18) rfl)) (by decide) (by decide)) (g := (mkF m 45 #[.val (.ref a), .val (.ref va), .val (.int (0 : Int32)), .val (.int (2 : Int32)), .val .null, .val (.ref b)] [(.int (2 : Int32)), (.ref b), (.ref a)])) rfl (by rw [hml]; rfl) (argsL := [(.ref b), (.int (2 : Int32))]) (rest := [(.ref a)]) (lenOf pd_70 rfl) rfl (by show 2 * 0 + _ ≤ _; exact Nat.le_of_eq rfl) (hb hby d2_45) (fun _ _ => ⟨rfl, rfl, (by decide : 1 + 0 ≤ _), (by decide : 2 + 0 ≤ _)⟩)
  dsimp only [Pt.U, Pt.locs, Pt.cells, Pt.slots] at X6 l6 y6 z6 st6 hQ6
  subst l6 y6 z6
  obtain ⟨rfl, N6q, e6⟩ := hQ6
  have N6 := Fr.app N4 N6q
  refine Go.by st6 ?_
  show Go _ _ _ _ T6 (mkF m 48 #[.val (.ref a), .val (.ref va), .val (.int (0 : Int32)), .val (.int (2 : Int32)), .val .null, .val (.ref b)] [(.int (0 : Int32)), (.ref a)])
  have F7 : Fld Z T4.heap a "java/lang/String" "coder" "B" (.int (0 : Int32)) := F_a_coder.keep K4 nin0
  have F8 : Exa Z T4.heap a "java/lang/String" := E_a.keep K4
  obtain ⟨T9, h9, X9, e9, W9, st9⟩ := putFN X6 hx hZ hown (hw _ (List.mem_of_getElem? (i := 27) rfl)) Via.refl e6 F7 F8 (Or.inr ⟨(hw _ (List.mem_of_getElem? (i := 28) rfl)), rfl, hnm⟩) (hw _ (List.mem_of_getElem? (i := 3) rfl)) (ty := .byte) (v' := (.int (0 : Int32))) (by decide) rfl rfl (g := (mkF m 48 #[.val (.ref a), .val (.ref va), .val (.int (0 : Int32)), .val (.int (2 : Int32)), .val .null, .val (.ref b)] [(.int (0 : Int32)), (.ref a)])) rfl rfl (hb hby d2_48)
  have N9 := Fr.snoc X9 N6 g_a
  have Fw9 : Fld Z h9 a "java/lang/String" "coder" "B" (.int (0 : Int32)) := F7.same W9
  refine Go.by st9 ?_
  show Go _ _ _ _ T9 (mkF m 51 #[.val (.ref a), .val (.ref va), .val (.int (0 : Int32)), .val (.int (2 : Int32)), .val .null, .val (.ref b)] [])
  refine Go.by (fun _ gk => XS.aloadN X9.here hx rfl (hb hby d2_51) rfl rfl gk) ?_
  show Go _ _ _ _ T9 (mkF m 52 #[.val (.ref a), .val (.ref va), .val (.int (0 : Int32)), .val (.int (2 : Int32)), .val .null, .val (.ref b)] [(.ref a)])
  refine Go.by (fun _ gk => XS.aload X9.here hx rfl (hb hby d2_52) rfl rfl gk) ?_
  show Go _ _ _ _ T9 (mkF m 54 #[.val (.ref a), .val (.ref va), .val (.int (0 : Int32)), .val (.int (2 : Int32)), .val .null, .val (.ref b)] [(.ref b), (.ref a)])
  have F10 : Fld Z T4.heap a "java/lang/String" "value" "[B" .null := F_a_value.keep K4 nin0
  have F11 : Fld Z h9 a "java/lang/String" "value" "[B" .null := F10.other W9 (Or.inr (slot_ne (Or.inr (hw _ (List.mem_of_getElem? (i := 30) rfl))) (Or.inr (hw _ (List.mem_of_getElem? (i := 28) rfl))) (by decide) (t := (.array .byte)) (t' := .byte) (by decide) (by decide)))
  have F12 : Exa Z h9 a "java/lang/String" := F8.wr W9
  obtain ⟨T13, h13, X13, e13, W13, st13⟩ := putF X9 hx hZ hown (host := "") (Or.inl (hw _ (List.mem_of_getElem? (i := 29) rfl))) Via.refl e9 F11 F12 (Or.inr ⟨(hw _ (List.mem_of_getElem? (i := 30) rfl)), rfl, hnm⟩) (hw _ (List.mem_of_getElem? (i := 3) rfl)) (ty := (.array .byte)) (by decide) rfl rfl (g := (mkF m 54 #[.val (.ref a), .val (.ref va), .val (.int (0 : Int32)), .val (.int (2 : Int32)), .val .null, .val (.ref b)] [(.ref b), (.ref a)])) rfl rfl (hb hby d2_54)
  have N13 := Fr.snoc X13 N9 g_a
  have Fw13 : Fld Z h13 a "java/lang/String" "value" "[B" (.ref b) := F11.same W13
  refine Go.by st13 ?_
  show Go _ _ _ _ T13 (mkF m 57 #[.val (.ref a), .val (.ref va), .val (.int (0 : Int32)), .val (.int (2 : Int32)), .val .null, .val (.ref b)] [])
  have F14 : Keep h0 T4.heap [a] := (Keep.refl h0 [a]).trans K4 all0
  have F15 : Keep h0 h9 [a] := F14.wr W9 (Or.inl (List.mem_of_getElem? (i := 0) rfl))
  have F16 : Keep h0 h13 [a] := F15.wr W13 (Or.inl (List.mem_of_getElem? (i := 0) rfl))
  have F17 : Exa Z h13 a "java/lang/String" := F12.wr W13
  have F18 : Fld Z h13 a "java/lang/String" "coder" "B" (.int (0 : Int32)) := Fw9.other W13 (Or.inr (slot_ne (Or.inr (hw _ (List.mem_of_getElem? (i := 28) rfl))) (Or.inr (hw _ (List.mem_of_getElem? (i := 30) rfl))) (by decide) (t := .byte) (t' := (.array .byte)) (by decide) (by decide)))
  have F19 : Arv Z h9 b kb .byte (2 : Int32) [(.int (own_b c0)), (.int (own_b c1))] (.int (0 : Int32)) := Q4_0.other W9 (Ne.symm ne_a_b)
  have F20 : Arv Z h13 b kb .byte (2 : Int32) [(.int (own_b c0)), (.int (own_b c1))] (.int (0 : Int32)) := F19.other W13 (Ne.symm ne_a_b)
  exact Go.retV X13 hx Bd.notSynchronized Bd.returns (hb hby d2_57) (by rw [e13]; exact ⟨b, kb, rfl, N13, F16, F17, F18, Fw13, F20, sz_b⟩) (by decide) (by decide)
theorem ef_77 (m : MethodId) (x0 : Addr) (x1 : Addr) : entryFrame m #[(.ref x0), (.ref x1)] 2 = mkF m 0 #[.val (.ref x0), .val (.ref x1)] [] := by (first | (simp [entryFrame, mkF, argsToLocals, Value.category]; done) | rfl)
theorem d1_0 : decode jdk_42_method_3_code 0 = .ok (.aload_n 0, 1) := by decide +kernel
theorem d1_1 : decode jdk_42_method_3_code 1 = .ok (.aload_n 1, 1) := by decide +kernel
theorem d1_2 : decode jdk_42_method_3_code 2 = .ok (.iconst 0, 1) := by decide +kernel
theorem d1_3 : decode jdk_42_method_3_code 3 = .ok (.aload_n 1, 1) := by decide +kernel
theorem d1_4 : decode jdk_42_method_3_code 4 = .ok (.arraylength, 1) := by decide +kernel
theorem d1_5 : decode jdk_42_method_3_code 5 = .ok (.aconst_null, 1) := by decide +kernel
theorem pd_84 : parseMethodDescriptor "([CIILjava/lang/Void;)V" = some ⟨[(.array .char), .int, .int, (.object "java/lang/Void")], none⟩ := by decide +kernel
theorem d1_6 : decode jdk_42_method_3_code 6 = .ok (.invokespecial 27, 3) := by decide +kernel
theorem d1_9 : decode jdk_42_method_3_code 9 = .ok (.return_, 1) := by decide +kernel
def Q_rmS1_2 (Z : State) (a : Addr) (va : Addr) (kv : ClassId) (c0 : Int32) (c1 : Int32) (cs : Int32) (h0 : Heap) (n0 : Nat) (v : Option Value) (h : Heap) (L : List Loc) : Prop := ∃ b : Addr, ∃ kb : ClassId, v = none ∧ Fr n0 L ∧ Keep h0 h [a] ∧ Exa Z h a "java/lang/String" ∧ Fld Z h a "java/lang/String" "coder" "B" (.int (0 : Int32)) ∧ Fld Z h a "java/lang/String" "value" "[B" (.ref b) ∧ Arv Z h b kb .byte (2 : Int32) ([(.int (own_b c0)), (.int (own_b c1))]) (.int (0 : Int32)) ∧ h0.size ≤ b
set_option maxRecDepth 65536 in
set_option maxHeartbeats 40000000 in
theorem rmS1_2 (l : Launch) (Z : State) (a0 : Array Value) (hw : ∀ d ∈ tables_1, d.before a0 Z = true) (ws : List Jvm.Cond) (a : Addr) (va : Addr) (kv : ClassId) (c0 : Int32) (c1 : Int32) (cs : Int32) (h0 : Heap) (n0 : Nat) (Z0 : n0 ≤ h0.size) (O0 : Old Z n0 h0) (E_a : Exa Z h0 a "java/lang/String") (F_a_value : Fld Z h0 a "java/lang/String" "value" "[B" .null) (F_a_coder : Fld Z h0 a "java/lang/String" "coder" "B" (.int (0 : Int32))) (g_a : n0 ≤ a) (V_va : Arv Z h0 va kv .char (2 : Int32) ([(.int c0), (.int c1)]) (.int (0 : Int32))) (hc0 : ¬ (255 : Int32) < c0) (hc1 : ¬ (255 : Int32) < c1) (S_cs : Sta Z Z.heap "java/lang/String" "COMPACT_STRINGS" "Z" (.int cs)) (n_cs : ¬ cs = 0) :
    MetFree l (⟨"java/lang/String", "<init>", "([C)V"⟩ : MethodName) (head1 (Jvm.Cond.code (⟨"java/lang/String", "<init>", "([C)V"⟩ : MethodName) jdk_42_method_3_code 2 none :: ws) ({ frames := 3, cells := 1, slots := 2, locals := 52 } : Room)) (fun as' U => as' = #[(.ref a), (.ref va)] ∧ Z.Warmed39 U.vm ∧ U.heap = h0) (fun _ _ _ _ _ => True) (fun _ U o U' => ∃ v L, o = .returned v ∧ Q_rmS1_2 Z a va kv c0 c1 cs h0 n0 v U'.heap L ∧ FrameEnd U o U' L ({ frames := 3, cells := 1, slots := 2, locals := 52 } : Room).cells ({ frames := 3, cells := 1, slots := 2, locals := 52 } : Room).slots) := by
  refine MetFree.of_bodySF (plainFor_of_name pn_53) hisR ?_
  intro p e s m args below meth c s₁ Bd hml0 hP hK
  obtain ⟨rfl, hZ, hh⟩ := hP
  have hx := Bd.exec
  have hby := Bd.bytes
  have hml : c.maxLocals = 2 := hml0
  have hown : s.vm.findClass "java/lang/String" = some m.cls := findClass_of_methodNamed Bd.named
  have hnm := (name_of_methodNamed Bd.named Bd.method).1
  have X0 : Stand p l e ({ frames := 3, cells := 1, slots := 2, locals := 52 } : Room) s m #[(.ref a), (.ref va)] below meth c s₁ [] 0 0 := Stand.of_body Bd
  have e0 : s₁.heap = h0 := by rw [← hh, Bd.state]; rfl
  have N0 := Fr.nil n0
  refine Go.enter (F := EndN s (Q_rmS1_2 Z a va kv c0 c1 cs h0 n0) ({ frames := 3, cells := 1, slots := 2, locals := 52 } : Room).cells ({ frames := 3, cells := 1, slots := 2, locals := 52 } : Room).slots) (ef_77 m a va) ?_
  show Go _ _ _ _ s₁ (mkF m 0 #[.val (.ref a), .val (.ref va)] [])
  refine Go.by (fun _ gk => XS.aloadN X0.here hx rfl (hb hby d1_0) rfl rfl gk) ?_
  show Go _ _ _ _ s₁ (mkF m 1 #[.val (.ref a), .val (.ref va)] [(.ref a)])
  refine Go.by (fun _ gk => XS.aloadN X0.here hx rfl (hb hby d1_1) rfl rfl gk) ?_
  show Go _ _ _ _ s₁ (mkF m 2 #[.val (.ref a), .val (.ref va)] [(.ref va), (.ref a)])
  refine Go.by (fun _ gk => XT.iconstV X0.here hx rfl (0 : Int32) (hb hby d1_2) (by decide) gk) ?_
  show Go _ _ _ _ s₁ (mkF m 3 #[.val (.ref a), .val (.ref va)] [(.int (0 : Int32)), (.ref va), (.ref a)])
  refine Go.by (fun _ gk => XS.aloadN X0.here hx rfl (hb hby d1_3) rfl rfl gk) ?_
  show Go _ _ _ _ s₁ (mkF m 4 #[.val (.ref a), .val (.ref va)] [(.ref va), (.int (0 : Int32)), (.ref va), (.ref a)])
  obtain ⟨cl1, Ar1, -, S1, M1, -, -⟩ := id V_va
  refine Go.by (fun _ gk => X0.arraylength hx (by rw [e0]; exact Ar1.1) (State.isArrayOf_alike hZ.alike Ar1.2.1) (g := (mkF m 4 #[.val (.ref a), .val (.ref va)] [(.ref va), (.int (0 : Int32)), (.ref va), (.ref a)])) rfl rfl (hb hby d1_4) _ gk) ?_
  rw [len_of S1 M1]
  show Go _ _ _ _ s₁ (mkF m 5 #[.val (.ref a), .val (.ref va)] [(.int (2 : Int32)), (.int (0 : Int32)), (.ref va), (.ref a)])
  refine Go.by (fun _ gk => XS.aconstNull X0.here hx rfl (hb hby d1_5) gk) ?_
  show Go _ _ _ _ s₁ (mkF m 6 #[.val (.ref a), .val (.ref va)] [.null, (.int (2 : Int32)), (.int (0 : Int32)), (.ref va), (.ref a)])
  obtain ⟨_, _, ⟨T2, L2, k2, n2⟩, -, X2, ⟨Lc2, hQ2, l2, y2, z2⟩, st2⟩ := X0.specialBack hx (y := (⟨"java/lang/String", "<init>", "([CIILjava/lang/Void;)V"⟩ : MethodName)) rfl hown (mvT hZ (hw _ (List.mem_of_getElem? (i := 8) rfl))) (mvT hZ (hw _ (List.mem_of_getElem? (i := 9) rfl))) (mvT hZ (hw _ (List.mem_of_getElem? (i := 11) rfl))) (by decide) (backOf (W := 0) (rmS4_2 l Z a0 hw [] a va kv c0 c1 cs h0 n0 Z0 O0 E_a F_a_value F_a_coder g_a V_va hc0 hc1 S_cs n_cs) hZ (hw _ (List.mem_of_getElem? (i := 11) rfl)) (hw _ (List.mem_of_getElem? (i := 4) rfl)) (by decide) (by decide)) (g := (mkF m 6 #[.val (.ref a), .val (.ref va)] [.null, (.int (2 : Int32)), (.int (0 : Int32)), (.ref va), (.ref a)])) rfl (by rw [hml]; rfl) (Steps.refl _) (a := a) (argsL := [(.ref va), (.int (0 : Int32)), (.int (2 : Int32)), .null]) (rest := []) (lenOf pd_84 rfl) rfl (by show 2 * 0 + _ ≤ _; exact Nat.le_of_eq rfl) (hb hby d1_6) (fun _ _ => ⟨rfl, e0, (by decide : 0 + 1 ≤ _), (by decide : 0 + 2 ≤ _)⟩)
  dsimp only [Pt.U, Pt.locs, Pt.cells, Pt.slots] at X2 l2 y2 z2 st2 hQ2
  subst l2 y2 z2
  obtain ⟨b, kb, rfl, N2q, K2, Q2_0, Q2_1, Q2_2, Q2_3, Q2_4⟩ := hQ2
  have N2 := Fr.app N0 N2q
  refine Go.to st2 ?_
  show Go _ _ _ _ T2 (mkF m 9 #[.val (.ref a), .val (.ref va)] [])
  have ge_b : n0 ≤ b := Nat.le_trans Z0 Q2_4
  have sz_b : h0.size ≤ b := Nat.le_trans (Keep.refl h0 [a]).1 Q2_4
  have ne_a_b : a ≠ b := Nat.ne_of_lt (Nat.lt_of_lt_of_le E_a.lt Q2_4)
  have ne_va_b : va ≠ b := Nat.ne_of_lt (Nat.lt_of_lt_of_le V_va.lt Q2_4)
  have F3 : Keep h0 T2.heap [a] := (Keep.refl h0 [a]).trans K2 (allS (Or.inl (List.mem_of_getElem? (i := 0) rfl)) all0)
  exact Go.retV X2 hx Bd.notSynchronized Bd.returns (hb hby d1_9) ⟨b, kb, rfl, N2, F3, Q2_0, Q2_1, Q2_2, Q2_3, sz_b⟩ (by decide) (by decide)
theorem pn_87 : plainName "com/example/attache/attache/query/TokenIsParameterPinLaw" = true := by first | (simp [plainName, overriddenIn]; done) | decide +kernel
theorem ef_88 (m : MethodId) (x0 : Int32) : entryFrame m #[(.int x0)] 1 = mkF m 0 #[.val (.int x0)] [] := by (first | (simp [entryFrame, mkF, argsToLocals, Value.category]; done) | rfl)
theorem d7_0 : decode method_2_code 0 = .ok (.iload_n 0, 1) := by decide +kernel
theorem d7_1 : decode method_2_code 1 = .ok (.ifCond .ne 7, 3) := by decide +kernel
theorem d7_4 : decode method_2_code 4 = .ok (.getstatic 7, 3) := by decide +kernel
theorem d7_7 : decode method_2_code 7 = .ok (.areturn, 1) := by decide +kernel
theorem d7_8 : decode method_2_code 8 = .ok (.iload_n 0, 1) := by decide +kernel
theorem d7_9 : decode method_2_code 9 = .ok (.iconst 1, 1) := by decide +kernel
theorem d7_10 : decode method_2_code 10 = .ok (.if_icmp .ne 7, 3) := by decide +kernel
theorem d7_13 : decode method_2_code 13 = .ok (.getstatic 13, 3) := by decide +kernel
theorem d7_16 : decode method_2_code 16 = .ok (.areturn, 1) := by decide +kernel
theorem d7_17 : decode method_2_code 17 = .ok (.iload_n 0, 1) := by decide +kernel
theorem d7_18 : decode method_2_code 18 = .ok (.iconst 2, 1) := by decide +kernel
theorem d7_19 : decode method_2_code 19 = .ok (.if_icmp .ne 7, 3) := by decide +kernel
theorem d7_22 : decode method_2_code 22 = .ok (.getstatic 16, 3) := by decide +kernel
theorem d7_25 : decode method_2_code 25 = .ok (.areturn, 1) := by decide +kernel
theorem d7_26 : decode method_2_code 26 = .ok (.iload_n 0, 1) := by decide +kernel
theorem d7_27 : decode method_2_code 27 = .ok (.iconst 3, 1) := by decide +kernel
theorem d7_28 : decode method_2_code 28 = .ok (.if_icmp .ne 7, 3) := by decide +kernel
theorem d7_31 : decode method_2_code 31 = .ok (.getstatic 19, 3) := by decide +kernel
theorem d7_34 : decode method_2_code 34 = .ok (.areturn, 1) := by decide +kernel
theorem d7_35 : decode method_2_code 35 = .ok (.iload_n 0, 1) := by decide +kernel
theorem d7_36 : decode method_2_code 36 = .ok (.iconst 4, 1) := by decide +kernel
theorem d7_37 : decode method_2_code 37 = .ok (.if_icmp .ne 7, 3) := by decide +kernel
theorem d7_40 : decode method_2_code 40 = .ok (.getstatic 22, 3) := by decide +kernel
theorem d7_43 : decode method_2_code 43 = .ok (.areturn, 1) := by decide +kernel
theorem d7_44 : decode method_2_code 44 = .ok (.iload_n 0, 1) := by decide +kernel
theorem d7_45 : decode method_2_code 45 = .ok (.iconst 5, 1) := by decide +kernel
theorem d7_46 : decode method_2_code 46 = .ok (.if_icmp .ne 7, 3) := by decide +kernel
theorem d7_49 : decode method_2_code 49 = .ok (.getstatic 25, 3) := by decide +kernel
theorem d7_52 : decode method_2_code 52 = .ok (.areturn, 1) := by decide +kernel
theorem d7_53 : decode method_2_code 53 = .ok (.getstatic 28, 3) := by decide +kernel
theorem d7_56 : decode method_2_code 56 = .ok (.areturn, 1) := by decide +kernel
def Q_rmKind (Z : State) (kd : Int32) (a : Addr) (c_WORD : Addr) (c_STRING : Addr) (c_NUMBER : Addr) (c_NAMED_PARAMETER : Addr) (c_POSITIONAL_PARAMETER : Addr) (c_SYMBOL : Addr) (c_END : Addr) (h0 : Heap) (n0 : Nat) (v : Option Value) (h : Heap) (L : List Loc) : Prop := v = some (.ref a) ∧ Fr n0 L ∧ h = h0
set_option maxRecDepth 65536 in
set_option maxHeartbeats 40000000 in
theorem rmKind (l : Launch) (Z : State) (a0 : Array Value) (hw : ∀ d ∈ tables_1, d.before a0 Z = true) (ws : List Jvm.Cond) (kd : Int32) (a : Addr) (c_WORD : Addr) (c_STRING : Addr) (c_NUMBER : Addr) (c_NAMED_PARAMETER : Addr) (c_POSITIONAL_PARAMETER : Addr) (c_SYMBOL : Addr) (c_END : Addr) (h0 : Heap) (n0 : Nat) (Z0 : n0 ≤ h0.size) (O0 : Old Z n0 h0) (hp : (kd = 0 ∧ c_WORD = a) ∨ (kd = 1 ∧ c_STRING = a) ∨ (kd = 2 ∧ c_NUMBER = a) ∨ (kd = 3 ∧ c_NAMED_PARAMETER = a) ∨ (kd = 4 ∧ c_POSITIONAL_PARAMETER = a) ∨ (kd = 5 ∧ c_SYMBOL = a) ∨ (kd = 6 ∧ c_END = a)) (S_c_WORD : Sta Z Z.heap "com/example/attache/attache/query/Token$Kind" "WORD" "Lcom/example/attache/attache/query/Token$Kind;" (.ref c_WORD)) (E_c_WORD : Exa Z Z.heap c_WORD "com/example/attache/attache/query/Token$Kind") (O_c_WORD : Fld Z Z.heap c_WORD "java/lang/Enum" "ordinal" "I" (.int 0)) (S_c_STRING : Sta Z Z.heap "com/example/attache/attache/query/Token$Kind" "STRING" "Lcom/example/attache/attache/query/Token$Kind;" (.ref c_STRING)) (E_c_STRING : Exa Z Z.heap c_STRING "com/example/attache/attache/query/Token$Kind") (O_c_STRING : Fld Z Z.heap c_STRING "java/lang/Enum" "ordinal" "I" (.int 1)) (S_c_NUMBER : Sta Z Z.heap "com/example/attache/attache/query/Token$Kind" "NUMBER" "Lcom/example/attache/attache/query/Token$Kind;" (.ref c_NUMBER)) (E_c_NUMBER : Exa Z Z.heap c_NUMBER "com/example/attache/attache/query/Token$Kind") (O_c_NUMBER : Fld Z Z.heap c_NUMBER "java/lang/Enum" "ordinal" "I" (.int 2)) (S_c_NAMED_PARAMETER : Sta Z Z.heap "com/example/attache/attache/query/Token$Kind" "NAMED_PARAMETER" "Lcom/example/attache/attache/query/Token$Kind;" (.ref c_NAMED_PARAMETER)) (E_c_NAMED_PARAMETER : Exa Z Z.heap c_NAMED_PARAMETER "com/example/attache/attache/query/Token$Kind") (O_c_NAMED_PARAMETER : Fld Z Z.heap c_NAMED_PARAMETER "java/lang/Enum" "ordinal" "I" (.int 3)) (S_c_POSITIONAL_PARAMETER : Sta Z Z.heap "com/example/attache/attache/query/Token$Kind" "POSITIONAL_PARAMETER" "Lcom/example/attache/attache/query/Token$Kind;" (.ref c_POSITIONAL_PARAMETER)) (E_c_POSITIONAL_PARAMETER : Exa Z Z.heap c_POSITIONAL_PARAMETER "com/example/attache/attache/query/Token$Kind") (O_c_POSITIONAL_PARAMETER : Fld Z Z.heap c_POSITIONAL_PARAMETER "java/lang/Enum" "ordinal" "I" (.int 4)) (S_c_SYMBOL : Sta Z Z.heap "com/example/attache/attache/query/Token$Kind" "SYMBOL" "Lcom/example/attache/attache/query/Token$Kind;" (.ref c_SYMBOL)) (E_c_SYMBOL : Exa Z Z.heap c_SYMBOL "com/example/attache/attache/query/Token$Kind") (O_c_SYMBOL : Fld Z Z.heap c_SYMBOL "java/lang/Enum" "ordinal" "I" (.int 5)) (S_c_END : Sta Z Z.heap "com/example/attache/attache/query/Token$Kind" "END" "Lcom/example/attache/attache/query/Token$Kind;" (.ref c_END)) (E_c_END : Exa Z Z.heap c_END "com/example/attache/attache/query/Token$Kind") (O_c_END : Fld Z Z.heap c_END "java/lang/Enum" "ordinal" "I" (.int 6)) :
    MetFree l (⟨"com/example/attache/attache/query/TokenIsParameterPinLaw", "kindOf", "(I)Lcom/example/attache/attache/query/Token$Kind;"⟩ : MethodName) (head1 (Jvm.Cond.code (⟨"com/example/attache/attache/query/TokenIsParameterPinLaw", "kindOf", "(I)Lcom/example/attache/attache/query/Token$Kind;"⟩ : MethodName) method_2_code 1 (some (.object "com/example/attache/attache/query/Token$Kind")) :: ws) ({ frames := 0, cells := 0, slots := 0, locals := 0 } : Room)) (fun as' U => as' = #[(.int kd)] ∧ Z.Warmed39 U.vm ∧ U.heap = h0) (fun _ _ _ _ _ => True) (fun _ U o U' => ∃ v L, o = .returned v ∧ Q_rmKind Z kd a c_WORD c_STRING c_NUMBER c_NAMED_PARAMETER c_POSITIONAL_PARAMETER c_SYMBOL c_END h0 n0 v U'.heap L ∧ FrameEnd U o U' L ({ frames := 0, cells := 0, slots := 0, locals := 0 } : Room).cells ({ frames := 0, cells := 0, slots := 0, locals := 0 } : Room).slots) := by
  refine MetFree.of_bodySF (plainFor_of_name pn_87) hisR ?_
  intro p e s m args below meth c s₁ Bd hml0 hP hK
  obtain ⟨rfl, hZ, hh⟩ := hP
  have hx := Bd.exec
  have hby := Bd.bytes
  have hml : c.maxLocals = 1 := hml0
  have hown : s.vm.findClass "com/example/attache/attache/query/TokenIsParameterPinLaw" = some m.cls := findClass_of_methodNamed Bd.named
  have hnm := (name_of_methodNamed Bd.named Bd.method).1
  have X0 : Stand p l e ({ frames := 0, cells := 0, slots := 0, locals := 0 } : Room) s m #[(.int kd)] below meth c s₁ [] 0 0 := Stand.of_body Bd
  have e0 : s₁.heap = h0 := by rw [← hh, Bd.state]; rfl
  have N0 := Fr.nil n0
  refine Go.enter (F := EndN s (Q_rmKind Z kd a c_WORD c_STRING c_NUMBER c_NAMED_PARAMETER c_POSITIONAL_PARAMETER c_SYMBOL c_END h0 n0) ({ frames := 0, cells := 0, slots := 0, locals := 0 } : Room).cells ({ frames := 0, cells := 0, slots := 0, locals := 0 } : Room).slots) (ef_88 m kd) ?_
  show Go _ _ _ _ s₁ (mkF m 0 #[.val (.int kd)] [])
  rcases hp with ⟨rfl, rfl⟩ | ⟨rfl, rfl⟩ | ⟨rfl, rfl⟩ | ⟨rfl, rfl⟩ | ⟨rfl, rfl⟩ | ⟨rfl, rfl⟩ | ⟨rfl, rfl⟩
  · show Go _ _ _ _ s₁ (mkF m 0 #[.val (.int (0 : Int32))] [])
    refine Go.by (fun _ gk => XS.iloadN X0.here hx rfl (hb hby d7_0) rfl gk) ?_
    show Go _ _ _ _ s₁ (mkF m 1 #[.val (.int (0 : Int32))] [(.int (0 : Int32))])
    refine Go.by (fun _ gk => XS.ifNo X0.here hx rfl (hb hby d7_1) rfl (XT.i0_ne_f rfl) gk) ?_
    show Go _ _ _ _ s₁ (mkF m 4 #[.val (.int (0 : Int32))] [])
    have F1 : Sta Z h0 "com/example/attache/attache/query/Token$Kind" "WORD" "Lcom/example/attache/attache/query/Token$Kind;" (.ref c_WORD) := S_c_WORD.ext O0.2
    obtain ⟨T2, X2, e2, st2⟩ := getS2 X0 hx hZ hown (host := "") (Or.inl (hw _ (List.mem_of_getElem? (i := 38) rfl))) Via.refl e0 F1 (g := (mkF m 4 #[.val (.int (0 : Int32))] [])) rfl (hb hby d7_4)
    refine Go.by st2 ?_
    show Go _ _ _ _ T2 (mkF m 7 #[.val (.int (0 : Int32))] [(.ref c_WORD)])
    show Go _ _ _ _ T2 (mkF m 7 #[.val (.int (0 : Int32))] [(.ref c_WORD)])
    exact Go.retA X2 hx Bd.notSynchronized Bd.returns rfl rfl (hb hby d7_7) (by rw [e2]; exact ⟨rfl, N0, rfl⟩) (by decide) (by decide)
  · show Go _ _ _ _ s₁ (mkF m 0 #[.val (.int (1 : Int32))] [])
    refine Go.by (fun _ gk => XS.iloadN X0.here hx rfl (hb hby d7_0) rfl gk) ?_
    show Go _ _ _ _ s₁ (mkF m 1 #[.val (.int (1 : Int32))] [(.int (1 : Int32))])
    refine Go.by (fun _ gk => XS.ifYes X0.here hx rfl (pc0 := 1) (pc' := 8) rfl (hb hby d7_1) rfl (XT.i0_ne_t (by decide)) (by decide) (by decide) gk) ?_
    show Go _ _ _ _ s₁ (mkF m 8 #[.val (.int (1 : Int32))] [])
    refine Go.by (fun _ gk => XS.iloadN X0.here hx rfl (hb hby d7_8) rfl gk) ?_
    show Go _ _ _ _ s₁ (mkF m 9 #[.val (.int (1 : Int32))] [(.int (1 : Int32))])
    refine Go.by (fun _ gk => XT.iconstV X0.here hx rfl (1 : Int32) (hb hby d7_9) (by decide) gk) ?_
    show Go _ _ _ _ s₁ (mkF m 10 #[.val (.int (1 : Int32))] [(.int (1 : Int32)), (.int (1 : Int32))])
    refine Go.by (fun _ gk => XS.icmpNo X0.here hx rfl (hb hby d7_10) rfl (XT.ii_ne_f rfl) gk) ?_
    show Go _ _ _ _ s₁ (mkF m 13 #[.val (.int (1 : Int32))] [])
    have F3 : Sta Z h0 "com/example/attache/attache/query/Token$Kind" "STRING" "Lcom/example/attache/attache/query/Token$Kind;" (.ref c_STRING) := S_c_STRING.ext O0.2
    obtain ⟨T4, X4, e4, st4⟩ := getS2 X0 hx hZ hown (host := "") (Or.inl (hw _ (List.mem_of_getElem? (i := 72) rfl))) Via.refl e0 F3 (g := (mkF m 13 #[.val (.int (1 : Int32))] [])) rfl (hb hby d7_13)
    refine Go.by st4 ?_
    show Go _ _ _ _ T4 (mkF m 16 #[.val (.int (1 : Int32))] [(.ref c_STRING)])
    show Go _ _ _ _ T4 (mkF m 16 #[.val (.int (1 : Int32))] [(.ref c_STRING)])
    exact Go.retA X4 hx Bd.notSynchronized Bd.returns rfl rfl (hb hby d7_16) (by rw [e4]; exact ⟨rfl, N0, rfl⟩) (by decide) (by decide)
  · show Go _ _ _ _ s₁ (mkF m 0 #[.val (.int (2 : Int32))] [])
    refine Go.by (fun _ gk => XS.iloadN X0.here hx rfl (hb hby d7_0) rfl gk) ?_
    show Go _ _ _ _ s₁ (mkF m 1 #[.val (.int (2 : Int32))] [(.int (2 : Int32))])
    refine Go.by (fun _ gk => XS.ifYes X0.here hx rfl (pc0 := 1) (pc' := 8) rfl (hb hby d7_1) rfl (XT.i0_ne_t (by decide)) (by decide) (by decide) gk) ?_
    show Go _ _ _ _ s₁ (mkF m 8 #[.val (.int (2 : Int32))] [])
    refine Go.by (fun _ gk => XS.iloadN X0.here hx rfl (hb hby d7_8) rfl gk) ?_
    show Go _ _ _ _ s₁ (mkF m 9 #[.val (.int (2 : Int32))] [(.int (2 : Int32))])
    refine Go.by (fun _ gk => XT.iconstV X0.here hx rfl (1 : Int32) (hb hby d7_9) (by decide) gk) ?_
    show Go _ _ _ _ s₁ (mkF m 10 #[.val (.int (2 : Int32))] [(.int (1 : Int32)), (.int (2 : Int32))])
    refine Go.by (fun _ gk => XS.icmpYes X0.here hx rfl (pc0 := 10) (pc' := 17) rfl (hb hby d7_10) rfl (XT.ii_ne_t (by decide)) (by decide) (by decide) gk) ?_
    show Go _ _ _ _ s₁ (mkF m 17 #[.val (.int (2 : Int32))] [])
    refine Go.by (fun _ gk => XS.iloadN X0.here hx rfl (hb hby d7_17) rfl gk) ?_
    show Go _ _ _ _ s₁ (mkF m 18 #[.val (.int (2 : Int32))] [(.int (2 : Int32))])
    refine Go.by (fun _ gk => XT.iconstV X0.here hx rfl (2 : Int32) (hb hby d7_18) (by decide) gk) ?_
    show Go _ _ _ _ s₁ (mkF m 19 #[.val (.int (2 : Int32))] [(.int (2 : Int32)), (.int (2 : Int32))])
    refine Go.by (fun _ gk => XS.icmpNo X0.here hx rfl (hb hby d7_19) rfl (XT.ii_ne_f rfl) gk) ?_
    show Go _ _ _ _ s₁ (mkF m 22 #[.val (.int (2 : Int32))] [])
    have F5 : Sta Z h0 "com/example/attache/attache/query/Token$Kind" "NUMBER" "Lcom/example/attache/attache/query/Token$Kind;" (.ref c_NUMBER) := S_c_NUMBER.ext O0.2
    obtain ⟨T6, X6, e6, st6⟩ := getS2 X0 hx hZ hown (host := "") (Or.inl (hw _ (List.mem_of_getElem? (i := 70) rfl))) Via.refl e0 F5 (g := (mkF m 22 #[.val (.int (2 : Int32))] [])) rfl (hb hby d7_22)
    refine Go.by st6 ?_
    show Go _ _ _ _ T6 (mkF m 25 #[.val (.int (2 : Int32))] [(.ref c_NUMBER)])
    show Go _ _ _ _ T6 (mkF m 25 #[.val (.int (2 : Int32))] [(.ref c_NUMBER)])
    exact Go.retA X6 hx Bd.notSynchronized Bd.returns rfl rfl (hb hby d7_25) (by rw [e6]; exact ⟨rfl, N0, rfl⟩) (by decide) (by decide)
  · show Go _ _ _ _ s₁ (mkF m 0 #[.val (.int (3 : Int32))] [])
    refine Go.by (fun _ gk => XS.iloadN X0.here hx rfl (hb hby d7_0) rfl gk) ?_
    show Go _ _ _ _ s₁ (mkF m 1 #[.val (.int (3 : Int32))] [(.int (3 : Int32))])
    refine Go.by (fun _ gk => XS.ifYes X0.here hx rfl (pc0 := 1) (pc' := 8) rfl (hb hby d7_1) rfl (XT.i0_ne_t (by decide)) (by decide) (by decide) gk) ?_
    show Go _ _ _ _ s₁ (mkF m 8 #[.val (.int (3 : Int32))] [])
    refine Go.by (fun _ gk => XS.iloadN X0.here hx rfl (hb hby d7_8) rfl gk) ?_
    show Go _ _ _ _ s₁ (mkF m 9 #[.val (.int (3 : Int32))] [(.int (3 : Int32))])
    refine Go.by (fun _ gk => XT.iconstV X0.here hx rfl (1 : Int32) (hb hby d7_9) (by decide) gk) ?_
    show Go _ _ _ _ s₁ (mkF m 10 #[.val (.int (3 : Int32))] [(.int (1 : Int32)), (.int (3 : Int32))])
    refine Go.by (fun _ gk => XS.icmpYes X0.here hx rfl (pc0 := 10) (pc' := 17) rfl (hb hby d7_10) rfl (XT.ii_ne_t (by decide)) (by decide) (by decide) gk) ?_
    show Go _ _ _ _ s₁ (mkF m 17 #[.val (.int (3 : Int32))] [])
    refine Go.by (fun _ gk => XS.iloadN X0.here hx rfl (hb hby d7_17) rfl gk) ?_
    show Go _ _ _ _ s₁ (mkF m 18 #[.val (.int (3 : Int32))] [(.int (3 : Int32))])
    refine Go.by (fun _ gk => XT.iconstV X0.here hx rfl (2 : Int32) (hb hby d7_18) (by decide) gk) ?_
    show Go _ _ _ _ s₁ (mkF m 19 #[.val (.int (3 : Int32))] [(.int (2 : Int32)), (.int (3 : Int32))])
    refine Go.by (fun _ gk => XS.icmpYes X0.here hx rfl (pc0 := 19) (pc' := 26) rfl (hb hby d7_19) rfl (XT.ii_ne_t (by decide)) (by decide) (by decide) gk) ?_
    show Go _ _ _ _ s₁ (mkF m 26 #[.val (.int (3 : Int32))] [])
    refine Go.by (fun _ gk => XS.iloadN X0.here hx rfl (hb hby d7_26) rfl gk) ?_
    show Go _ _ _ _ s₁ (mkF m 27 #[.val (.int (3 : Int32))] [(.int (3 : Int32))])
    refine Go.by (fun _ gk => XT.iconstV X0.here hx rfl (3 : Int32) (hb hby d7_27) (by decide) gk) ?_
    show Go _ _ _ _ s₁ (mkF m 28 #[.val (.int (3 : Int32))] [(.int (3 : Int32)), (.int (3 : Int32))])
    refine Go.by (fun _ gk => XS.icmpNo X0.here hx rfl (hb hby d7_28) rfl (XT.ii_ne_f rfl) gk) ?_
    show Go _ _ _ _ s₁ (mkF m 31 #[.val (.int (3 : Int32))] [])
    have F7 : Sta Z h0 "com/example/attache/attache/query/Token$Kind" "NAMED_PARAMETER" "Lcom/example/attache/attache/query/Token$Kind;" (.ref c_NAMED_PARAMETER) := S_c_NAMED_PARAMETER.ext O0.2
    obtain ⟨T8, X8, e8, st8⟩ := getS2 X0 hx hZ hown (host := "") (Or.inl (hw _ (List.mem_of_getElem? (i := 74) rfl))) Via.refl e0 F7 (g := (mkF m 31 #[.val (.int (3 : Int32))] [])) rfl (hb hby d7_31)
    refine Go.by st8 ?_
    show Go _ _ _ _ T8 (mkF m 34 #[.val (.int (3 : Int32))] [(.ref c_NAMED_PARAMETER)])
    show Go _ _ _ _ T8 (mkF m 34 #[.val (.int (3 : Int32))] [(.ref c_NAMED_PARAMETER)])
    exact Go.retA X8 hx Bd.notSynchronized Bd.returns rfl rfl (hb hby d7_34) (by rw [e8]; exact ⟨rfl, N0, rfl⟩) (by decide) (by decide)
  · show Go _ _ _ _ s₁ (mkF m 0 #[.val (.int (4 : Int32))] [])
    refine Go.by (fun _ gk => XS.iloadN X0.here hx rfl (hb hby d7_0) rfl gk) ?_
    show Go _ _ _ _ s₁ (mkF m 1 #[.val (.int (4 : Int32))] [(.int (4 : Int32))])
    refine Go.by (fun _ gk => XS.ifYes X0.here hx rfl (pc0 := 1) (pc' := 8) rfl (hb hby d7_1) rfl (XT.i0_ne_t (by decide)) (by decide) (by decide) gk) ?_
    show Go _ _ _ _ s₁ (mkF m 8 #[.val (.int (4 : Int32))] [])
    refine Go.by (fun _ gk => XS.iloadN X0.here hx rfl (hb hby d7_8) rfl gk) ?_
    show Go _ _ _ _ s₁ (mkF m 9 #[.val (.int (4 : Int32))] [(.int (4 : Int32))])
    refine Go.by (fun _ gk => XT.iconstV X0.here hx rfl (1 : Int32) (hb hby d7_9) (by decide) gk) ?_
    show Go _ _ _ _ s₁ (mkF m 10 #[.val (.int (4 : Int32))] [(.int (1 : Int32)), (.int (4 : Int32))])
    refine Go.by (fun _ gk => XS.icmpYes X0.here hx rfl (pc0 := 10) (pc' := 17) rfl (hb hby d7_10) rfl (XT.ii_ne_t (by decide)) (by decide) (by decide) gk) ?_
    show Go _ _ _ _ s₁ (mkF m 17 #[.val (.int (4 : Int32))] [])
    refine Go.by (fun _ gk => XS.iloadN X0.here hx rfl (hb hby d7_17) rfl gk) ?_
    show Go _ _ _ _ s₁ (mkF m 18 #[.val (.int (4 : Int32))] [(.int (4 : Int32))])
    refine Go.by (fun _ gk => XT.iconstV X0.here hx rfl (2 : Int32) (hb hby d7_18) (by decide) gk) ?_
    show Go _ _ _ _ s₁ (mkF m 19 #[.val (.int (4 : Int32))] [(.int (2 : Int32)), (.int (4 : Int32))])
    refine Go.by (fun _ gk => XS.icmpYes X0.here hx rfl (pc0 := 19) (pc' := 26) rfl (hb hby d7_19) rfl (XT.ii_ne_t (by decide)) (by decide) (by decide) gk) ?_
    show Go _ _ _ _ s₁ (mkF m 26 #[.val (.int (4 : Int32))] [])
    refine Go.by (fun _ gk => XS.iloadN X0.here hx rfl (hb hby d7_26) rfl gk) ?_
    show Go _ _ _ _ s₁ (mkF m 27 #[.val (.int (4 : Int32))] [(.int (4 : Int32))])
    refine Go.by (fun _ gk => XT.iconstV X0.here hx rfl (3 : Int32) (hb hby d7_27) (by decide) gk) ?_
    show Go _ _ _ _ s₁ (mkF m 28 #[.val (.int (4 : Int32))] [(.int (3 : Int32)), (.int (4 : Int32))])
    refine Go.by (fun _ gk => XS.icmpYes X0.here hx rfl (pc0 := 28) (pc' := 35) rfl (hb hby d7_28) rfl (XT.ii_ne_t (by decide)) (by decide) (by decide) gk) ?_
    show Go _ _ _ _ s₁ (mkF m 35 #[.val (.int (4 : Int32))] [])
    refine Go.by (fun _ gk => XS.iloadN X0.here hx rfl (hb hby d7_35) rfl gk) ?_
    show Go _ _ _ _ s₁ (mkF m 36 #[.val (.int (4 : Int32))] [(.int (4 : Int32))])
    refine Go.by (fun _ gk => XT.iconstV X0.here hx rfl (4 : Int32) (hb hby d7_36) (by decide) gk) ?_
    show Go _ _ _ _ s₁ (mkF m 37 #[.val (.int (4 : Int32))] [(.int (4 : Int32)), (.int (4 : Int32))])
    refine Go.by (fun _ gk => XS.icmpNo X0.here hx rfl (hb hby d7_37) rfl (XT.ii_ne_f rfl) gk) ?_
    show Go _ _ _ _ s₁ (mkF m 40 #[.val (.int (4 : Int32))] [])
    have F9 : Sta Z h0 "com/example/attache/attache/query/Token$Kind" "POSITIONAL_PARAMETER" "Lcom/example/attache/attache/query/Token$Kind;" (.ref c_POSITIONAL_PARAMETER) := S_c_POSITIONAL_PARAMETER.ext O0.2
    obtain ⟨T10, X10, e10, st10⟩ := getS2 X0 hx hZ hown (host := "") (Or.inl (hw _ (List.mem_of_getElem? (i := 75) rfl))) Via.refl e0 F9 (g := (mkF m 40 #[.val (.int (4 : Int32))] [])) rfl (hb hby d7_40)
    refine Go.by st10 ?_
    show Go _ _ _ _ T10 (mkF m 43 #[.val (.int (4 : Int32))] [(.ref c_POSITIONAL_PARAMETER)])
    show Go _ _ _ _ T10 (mkF m 43 #[.val (.int (4 : Int32))] [(.ref c_POSITIONAL_PARAMETER)])
    exact Go.retA X10 hx Bd.notSynchronized Bd.returns rfl rfl (hb hby d7_43) (by rw [e10]; exact ⟨rfl, N0, rfl⟩) (by decide) (by decide)
  · show Go _ _ _ _ s₁ (mkF m 0 #[.val (.int (5 : Int32))] [])
    refine Go.by (fun _ gk => XS.iloadN X0.here hx rfl (hb hby d7_0) rfl gk) ?_
    show Go _ _ _ _ s₁ (mkF m 1 #[.val (.int (5 : Int32))] [(.int (5 : Int32))])
    refine Go.by (fun _ gk => XS.ifYes X0.here hx rfl (pc0 := 1) (pc' := 8) rfl (hb hby d7_1) rfl (XT.i0_ne_t (by decide)) (by decide) (by decide) gk) ?_
    show Go _ _ _ _ s₁ (mkF m 8 #[.val (.int (5 : Int32))] [])
    refine Go.by (fun _ gk => XS.iloadN X0.here hx rfl (hb hby d7_8) rfl gk) ?_
    show Go _ _ _ _ s₁ (mkF m 9 #[.val (.int (5 : Int32))] [(.int (5 : Int32))])
    refine Go.by (fun _ gk => XT.iconstV X0.here hx rfl (1 : Int32) (hb hby d7_9) (by decide) gk) ?_
    show Go _ _ _ _ s₁ (mkF m 10 #[.val (.int (5 : Int32))] [(.int (1 : Int32)), (.int (5 : Int32))])
    refine Go.by (fun _ gk => XS.icmpYes X0.here hx rfl (pc0 := 10) (pc' := 17) rfl (hb hby d7_10) rfl (XT.ii_ne_t (by decide)) (by decide) (by decide) gk) ?_
    show Go _ _ _ _ s₁ (mkF m 17 #[.val (.int (5 : Int32))] [])
    refine Go.by (fun _ gk => XS.iloadN X0.here hx rfl (hb hby d7_17) rfl gk) ?_
    show Go _ _ _ _ s₁ (mkF m 18 #[.val (.int (5 : Int32))] [(.int (5 : Int32))])
    refine Go.by (fun _ gk => XT.iconstV X0.here hx rfl (2 : Int32) (hb hby d7_18) (by decide) gk) ?_
    show Go _ _ _ _ s₁ (mkF m 19 #[.val (.int (5 : Int32))] [(.int (2 : Int32)), (.int (5 : Int32))])
    refine Go.by (fun _ gk => XS.icmpYes X0.here hx rfl (pc0 := 19) (pc' := 26) rfl (hb hby d7_19) rfl (XT.ii_ne_t (by decide)) (by decide) (by decide) gk) ?_
    show Go _ _ _ _ s₁ (mkF m 26 #[.val (.int (5 : Int32))] [])
    refine Go.by (fun _ gk => XS.iloadN X0.here hx rfl (hb hby d7_26) rfl gk) ?_
    show Go _ _ _ _ s₁ (mkF m 27 #[.val (.int (5 : Int32))] [(.int (5 : Int32))])
    refine Go.by (fun _ gk => XT.iconstV X0.here hx rfl (3 : Int32) (hb hby d7_27) (by decide) gk) ?_
    show Go _ _ _ _ s₁ (mkF m 28 #[.val (.int (5 : Int32))] [(.int (3 : Int32)), (.int (5 : Int32))])
    refine Go.by (fun _ gk => XS.icmpYes X0.here hx rfl (pc0 := 28) (pc' := 35) rfl (hb hby d7_28) rfl (XT.ii_ne_t (by decide)) (by decide) (by decide) gk) ?_
    show Go _ _ _ _ s₁ (mkF m 35 #[.val (.int (5 : Int32))] [])
    refine Go.by (fun _ gk => XS.iloadN X0.here hx rfl (hb hby d7_35) rfl gk) ?_
    show Go _ _ _ _ s₁ (mkF m 36 #[.val (.int (5 : Int32))] [(.int (5 : Int32))])
    refine Go.by (fun _ gk => XT.iconstV X0.here hx rfl (4 : Int32) (hb hby d7_36) (by decide) gk) ?_
    show Go _ _ _ _ s₁ (mkF m 37 #[.val (.int (5 : Int32))] [(.int (4 : Int32)), (.int (5 : Int32))])
    refine Go.by (fun _ gk => XS.icmpYes X0.here hx rfl (pc0 := 37) (pc' := 44) rfl (hb hby d7_37) rfl (XT.ii_ne_t (by decide)) (by decide) (by decide) gk) ?_
    show Go _ _ _ _ s₁ (mkF m 44 #[.val (.int (5 : Int32))] [])
    refine Go.by (fun _ gk => XS.iloadN X0.here hx rfl (hb hby d7_44) rfl gk) ?_
    show Go _ _ _ _ s₁ (mkF m 45 #[.val (.int (5 : Int32))] [(.int (5 : Int32))])
    refine Go.by (fun _ gk => XT.iconstV X0.here hx rfl (5 : Int32) (hb hby d7_45) (by decide) gk) ?_
    show Go _ _ _ _ s₁ (mkF m 46 #[.val (.int (5 : Int32))] [(.int (5 : Int32)), (.int (5 : Int32))])
    refine Go.by (fun _ gk => XS.icmpNo X0.here hx rfl (hb hby d7_46) rfl (XT.ii_ne_f rfl) gk) ?_
    show Go _ _ _ _ s₁ (mkF m 49 #[.val (.int (5 : Int32))] [])
    have F11 : Sta Z h0 "com/example/attache/attache/query/Token$Kind" "SYMBOL" "Lcom/example/attache/attache/query/Token$Kind;" (.ref c_SYMBOL) := S_c_SYMBOL.ext O0.2
    obtain ⟨T12, X12, e12, st12⟩ := getS2 X0 hx hZ hown (host := "") (Or.inl (hw _ (List.mem_of_getElem? (i := 68) rfl))) Via.refl e0 F11 (g := (mkF m 49 #[.val (.int (5 : Int32))] [])) rfl (hb hby d7_49)
    refine Go.by st12 ?_
    show Go _ _ _ _ T12 (mkF m 52 #[.val (.int (5 : Int32))] [(.ref c_SYMBOL)])
    show Go _ _ _ _ T12 (mkF m 52 #[.val (.int (5 : Int32))] [(.ref c_SYMBOL)])
    exact Go.retA X12 hx Bd.notSynchronized Bd.returns rfl rfl (hb hby d7_52) (by rw [e12]; exact ⟨rfl, N0, rfl⟩) (by decide) (by decide)
  · show Go _ _ _ _ s₁ (mkF m 0 #[.val (.int (6 : Int32))] [])
    refine Go.by (fun _ gk => XS.iloadN X0.here hx rfl (hb hby d7_0) rfl gk) ?_
    show Go _ _ _ _ s₁ (mkF m 1 #[.val (.int (6 : Int32))] [(.int (6 : Int32))])
    refine Go.by (fun _ gk => XS.ifYes X0.here hx rfl (pc0 := 1) (pc' := 8) rfl (hb hby d7_1) rfl (XT.i0_ne_t (by decide)) (by decide) (by decide) gk) ?_
    show Go _ _ _ _ s₁ (mkF m 8 #[.val (.int (6 : Int32))] [])
    refine Go.by (fun _ gk => XS.iloadN X0.here hx rfl (hb hby d7_8) rfl gk) ?_
    show Go _ _ _ _ s₁ (mkF m 9 #[.val (.int (6 : Int32))] [(.int (6 : Int32))])
    refine Go.by (fun _ gk => XT.iconstV X0.here hx rfl (1 : Int32) (hb hby d7_9) (by decide) gk) ?_
    show Go _ _ _ _ s₁ (mkF m 10 #[.val (.int (6 : Int32))] [(.int (1 : Int32)), (.int (6 : Int32))])
    refine Go.by (fun _ gk => XS.icmpYes X0.here hx rfl (pc0 := 10) (pc' := 17) rfl (hb hby d7_10) rfl (XT.ii_ne_t (by decide)) (by decide) (by decide) gk) ?_
    show Go _ _ _ _ s₁ (mkF m 17 #[.val (.int (6 : Int32))] [])
    refine Go.by (fun _ gk => XS.iloadN X0.here hx rfl (hb hby d7_17) rfl gk) ?_
    show Go _ _ _ _ s₁ (mkF m 18 #[.val (.int (6 : Int32))] [(.int (6 : Int32))])
    refine Go.by (fun _ gk => XT.iconstV X0.here hx rfl (2 : Int32) (hb hby d7_18) (by decide) gk) ?_
    show Go _ _ _ _ s₁ (mkF m 19 #[.val (.int (6 : Int32))] [(.int (2 : Int32)), (.int (6 : Int32))])
    refine Go.by (fun _ gk => XS.icmpYes X0.here hx rfl (pc0 := 19) (pc' := 26) rfl (hb hby d7_19) rfl (XT.ii_ne_t (by decide)) (by decide) (by decide) gk) ?_
    show Go _ _ _ _ s₁ (mkF m 26 #[.val (.int (6 : Int32))] [])
    refine Go.by (fun _ gk => XS.iloadN X0.here hx rfl (hb hby d7_26) rfl gk) ?_
    show Go _ _ _ _ s₁ (mkF m 27 #[.val (.int (6 : Int32))] [(.int (6 : Int32))])
    refine Go.by (fun _ gk => XT.iconstV X0.here hx rfl (3 : Int32) (hb hby d7_27) (by decide) gk) ?_
    show Go _ _ _ _ s₁ (mkF m 28 #[.val (.int (6 : Int32))] [(.int (3 : Int32)), (.int (6 : Int32))])
    refine Go.by (fun _ gk => XS.icmpYes X0.here hx rfl (pc0 := 28) (pc' := 35) rfl (hb hby d7_28) rfl (XT.ii_ne_t (by decide)) (by decide) (by decide) gk) ?_
    show Go _ _ _ _ s₁ (mkF m 35 #[.val (.int (6 : Int32))] [])
    refine Go.by (fun _ gk => XS.iloadN X0.here hx rfl (hb hby d7_35) rfl gk) ?_
    show Go _ _ _ _ s₁ (mkF m 36 #[.val (.int (6 : Int32))] [(.int (6 : Int32))])
    refine Go.by (fun _ gk => XT.iconstV X0.here hx rfl (4 : Int32) (hb hby d7_36) (by decide) gk) ?_
    show Go _ _ _ _ s₁ (mkF m 37 #[.val (.int (6 : Int32))] [(.int (4 : Int32)), (.int (6 : Int32))])
    refine Go.by (fun _ gk => XS.icmpYes X0.here hx rfl (pc0 := 37) (pc' := 44) rfl (hb hby d7_37) rfl (XT.ii_ne_t (by decide)) (by decide) (by decide) gk) ?_
    show Go _ _ _ _ s₁ (mkF m 44 #[.val (.int (6 : Int32))] [])
    refine Go.by (fun _ gk => XS.iloadN X0.here hx rfl (hb hby d7_44) rfl gk) ?_
    show Go _ _ _ _ s₁ (mkF m 45 #[.val (.int (6 : Int32))] [(.int (6 : Int32))])
    refine Go.by (fun _ gk => XT.iconstV X0.here hx rfl (5 : Int32) (hb hby d7_45) (by decide) gk) ?_
    show Go _ _ _ _ s₁ (mkF m 46 #[.val (.int (6 : Int32))] [(.int (5 : Int32)), (.int (6 : Int32))])
    refine Go.by (fun _ gk => XS.icmpYes X0.here hx rfl (pc0 := 46) (pc' := 53) rfl (hb hby d7_46) rfl (XT.ii_ne_t (by decide)) (by decide) (by decide) gk) ?_
    show Go _ _ _ _ s₁ (mkF m 53 #[.val (.int (6 : Int32))] [])
    have F13 : Sta Z h0 "com/example/attache/attache/query/Token$Kind" "END" "Lcom/example/attache/attache/query/Token$Kind;" (.ref c_END) := S_c_END.ext O0.2
    obtain ⟨T14, X14, e14, st14⟩ := getS2 X0 hx hZ hown (host := "") (Or.inl (hw _ (List.mem_of_getElem? (i := 76) rfl))) Via.refl e0 F13 (g := (mkF m 53 #[.val (.int (6 : Int32))] [])) rfl (hb hby d7_53)
    refine Go.by st14 ?_
    show Go _ _ _ _ T14 (mkF m 56 #[.val (.int (6 : Int32))] [(.ref c_END)])
    show Go _ _ _ _ T14 (mkF m 56 #[.val (.int (6 : Int32))] [(.ref c_END)])
    exact Go.retA X14 hx Bd.notSynchronized Bd.returns rfl rfl (hb hby d7_56) (by rw [e14]; exact ⟨rfl, N0, rfl⟩) (by decide) (by decide)
theorem pn_120 : plainName "java/lang/Record" = true := by first | (simp [plainName, overriddenIn]; done) | decide +kernel
theorem ef_121 (m : MethodId) (x0 : Addr) : entryFrame m #[(.ref x0)] 1 = mkF m 0 #[.val (.ref x0)] [] := by (first | (simp [entryFrame, mkF, argsToLocals, Value.category]; done) | rfl)
theorem d9_0 : decode jdk_30_method_1_code 0 = .ok (.aload_n 0, 1) := by decide +kernel
theorem d9_1 : decode jdk_30_method_1_code 1 = .ok (.invokespecial 1, 3) := by decide +kernel
theorem d9_4 : decode jdk_30_method_1_code 4 = .ok (.return_, 1) := by decide +kernel
def Q_rmRecord (Z : State) (a : Addr) (h0 : Heap) (n0 : Nat) (v : Option Value) (h : Heap) (L : List Loc) : Prop := v = none ∧ Fr n0 L ∧ h = h0
set_option maxRecDepth 65536 in
set_option maxHeartbeats 40000000 in
theorem rmRecord (l : Launch) (Z : State) (a0 : Array Value) (hw : ∀ d ∈ tables_1, d.before a0 Z = true) (ws : List Jvm.Cond) (a : Addr) (h0 : Heap) (n0 : Nat) (Z0 : n0 ≤ h0.size)  :
    MetFree l (⟨"java/lang/Record", "<init>", "()V"⟩ : MethodName) (head1 (Jvm.Cond.code (⟨"java/lang/Record", "<init>", "()V"⟩ : MethodName) jdk_30_method_1_code 1 none :: ws) ({ frames := 1, cells := 0, slots := 0, locals := 12 } : Room)) (fun as' U => as' = #[(.ref a)] ∧ Z.Warmed39 U.vm ∧ U.heap = h0) (fun _ _ _ _ _ => True) (fun _ U o U' => ∃ v L, o = .returned v ∧ Q_rmRecord Z a h0 n0 v U'.heap L ∧ FrameEnd U o U' L ({ frames := 1, cells := 0, slots := 0, locals := 12 } : Room).cells ({ frames := 1, cells := 0, slots := 0, locals := 12 } : Room).slots) := by
  refine MetFree.of_bodySF (plainFor_of_name pn_120) hisR ?_
  intro p e s m args below meth c s₁ Bd hml0 hP hK
  obtain ⟨rfl, hZ, hh⟩ := hP
  have hx := Bd.exec
  have hby := Bd.bytes
  have hml : c.maxLocals = 1 := hml0
  have hown : s.vm.findClass "java/lang/Record" = some m.cls := findClass_of_methodNamed Bd.named
  have hnm := (name_of_methodNamed Bd.named Bd.method).1
  have X0 : Stand p l e ({ frames := 1, cells := 0, slots := 0, locals := 12 } : Room) s m #[(.ref a)] below meth c s₁ [] 0 0 := Stand.of_body Bd
  have e0 : s₁.heap = h0 := by rw [← hh, Bd.state]; rfl
  have N0 := Fr.nil n0
  refine Go.enter (F := EndN s (Q_rmRecord Z a h0 n0) ({ frames := 1, cells := 0, slots := 0, locals := 12 } : Room).cells ({ frames := 1, cells := 0, slots := 0, locals := 12 } : Room).slots) (ef_121 m a) ?_
  show Go _ _ _ _ s₁ (mkF m 0 #[.val (.ref a)] [])
  refine Go.by (fun _ gk => XS.aloadN X0.here hx rfl (hb hby d9_0) rfl rfl gk) ?_
  show Go _ _ _ _ s₁ (mkF m 1 #[.val (.ref a)] [(.ref a)])
  obtain ⟨T1, X1, e1, st1⟩ := initO X0 hx hZ hown (hw _ (List.mem_of_getElem? (i := 49) rfl)) (hw _ (List.mem_of_getElem? (i := 13) rfl)) (hw _ (List.mem_of_getElem? (i := 14) rfl)) e0 (g := (mkF m 1 #[.val (.ref a)] [(.ref a)])) rfl (by rw [hml]; rfl) rfl (hb hby d9_1) (by decide) (W := 0) (by show 2 * 0 + _ ≤ _; exact Nat.le_of_eq rfl) (by decide)
  refine Go.by st1 ?_
  show Go _ _ _ _ T1 (mkF m 4 #[.val (.ref a)] [])
  exact Go.retV X1 hx Bd.notSynchronized Bd.returns (hb hby d9_4) (by rw [e1]; exact ⟨rfl, N0, rfl⟩) (by decide) (by decide)
theorem pn_125 : plainName "com/example/attache/attache/query/Token" = true := by first | (simp [plainName, overriddenIn]; done) | decide +kernel
theorem ef_126 (m : MethodId) (x0 : Addr) (x1 : Addr) (x2 : Addr) (x3 : Int32) : entryFrame m #[(.ref x0), (.ref x1), (.ref x2), (.int x3)] 4 = mkF m 0 #[.val (.ref x0), .val (.ref x1), .val (.ref x2), .val (.int x3)] [] := by (first | (simp [entryFrame, mkF, argsToLocals, Value.category]; done) | rfl)
theorem d8_0 : decode prog_40_method_1_code 0 = .ok (.aload_n 0, 1) := by decide +kernel
theorem pd_128 : parseMethodDescriptor "()V" = some ⟨[], none⟩ := by decide +kernel
theorem d8_1 : decode prog_40_method_1_code 1 = .ok (.invokespecial 1, 3) := by decide +kernel
theorem d8_4 : decode prog_40_method_1_code 4 = .ok (.aload_n 0, 1) := by decide +kernel
theorem d8_5 : decode prog_40_method_1_code 5 = .ok (.aload_n 1, 1) := by decide +kernel
theorem d8_6 : decode prog_40_method_1_code 6 = .ok (.putfield 7, 3) := by decide +kernel
theorem d8_9 : decode prog_40_method_1_code 9 = .ok (.aload_n 0, 1) := by decide +kernel
theorem d8_10 : decode prog_40_method_1_code 10 = .ok (.aload_n 2, 1) := by decide +kernel
theorem d8_11 : decode prog_40_method_1_code 11 = .ok (.putfield 13, 3) := by decide +kernel
theorem d8_14 : decode prog_40_method_1_code 14 = .ok (.aload_n 0, 1) := by decide +kernel
theorem d8_15 : decode prog_40_method_1_code 15 = .ok (.iload_n 3, 1) := by decide +kernel
theorem d8_16 : decode prog_40_method_1_code 16 = .ok (.putfield 17, 3) := by decide +kernel
theorem d8_19 : decode prog_40_method_1_code 19 = .ok (.return_, 1) := by decide +kernel
def Q_rmToken (Z : State) (a : Addr) (b : Addr) (d : Addr) (q : Int32) (h0 : Heap) (n0 : Nat) (v : Option Value) (h : Heap) (L : List Loc) : Prop := v = none ∧ Fr n0 L ∧ Keep h0 h [a] ∧ Exa Z h a "com/example/attache/attache/query/Token" ∧ Fld Z h a "com/example/attache/attache/query/Token" "kind" "Lcom/example/attache/attache/query/Token$Kind;" (.ref b)
set_option maxRecDepth 65536 in
set_option maxHeartbeats 40000000 in
theorem rmToken (l : Launch) (Z : State) (a0 : Array Value) (hw : ∀ d ∈ tables_1, d.before a0 Z = true) (ws : List Jvm.Cond) (a : Addr) (b : Addr) (d : Addr) (q : Int32) (h0 : Heap) (n0 : Nat) (Z0 : n0 ≤ h0.size) (E_a : Exa Z h0 a "com/example/attache/attache/query/Token") (F_a_kind : Fld Z h0 a "com/example/attache/attache/query/Token" "kind" "Lcom/example/attache/attache/query/Token$Kind;" .null) (F_a_text : Fld Z h0 a "com/example/attache/attache/query/Token" "text" "Ljava/lang/String;" .null) (F_a_position : Fld Z h0 a "com/example/attache/attache/query/Token" "position" "I" (.int (0 : Int32))) (g_a : n0 ≤ a) :
    MetFree l (⟨"com/example/attache/attache/query/Token", "<init>", "(Lcom/example/attache/attache/query/Token$Kind;Ljava/lang/String;I)V"⟩ : MethodName) (head1 (Jvm.Cond.code (⟨"com/example/attache/attache/query/Token", "<init>", "(Lcom/example/attache/attache/query/Token$Kind;Ljava/lang/String;I)V"⟩ : MethodName) prog_40_method_1_code 4 none :: ws) ({ frames := 2, cells := 0, slots := 0, locals := 24 } : Room)) (fun as' U => as' = #[(.ref a), (.ref b), (.ref d), (.int q)] ∧ Z.Warmed39 U.vm ∧ U.heap = h0) (fun _ _ _ _ _ => True) (fun _ U o U' => ∃ v L, o = .returned v ∧ Q_rmToken Z a b d q h0 n0 v U'.heap L ∧ FrameEnd U o U' L ({ frames := 2, cells := 0, slots := 0, locals := 24 } : Room).cells ({ frames := 2, cells := 0, slots := 0, locals := 24 } : Room).slots) := by
  refine MetFree.of_bodySF (plainFor_of_name pn_125) hisR ?_
  intro p e s m args below meth c s₁ Bd hml0 hP hK
  obtain ⟨rfl, hZ, hh⟩ := hP
  have hx := Bd.exec
  have hby := Bd.bytes
  have hml : c.maxLocals = 4 := hml0
  have hown : s.vm.findClass "com/example/attache/attache/query/Token" = some m.cls := findClass_of_methodNamed Bd.named
  have hnm := (name_of_methodNamed Bd.named Bd.method).1
  have X0 : Stand p l e ({ frames := 2, cells := 0, slots := 0, locals := 24 } : Room) s m #[(.ref a), (.ref b), (.ref d), (.int q)] below meth c s₁ [] 0 0 := Stand.of_body Bd
  have e0 : s₁.heap = h0 := by rw [← hh, Bd.state]; rfl
  have N0 := Fr.nil n0
  refine Go.enter (F := EndN s (Q_rmToken Z a b d q h0 n0) ({ frames := 2, cells := 0, slots := 0, locals := 24 } : Room).cells ({ frames := 2, cells := 0, slots := 0, locals := 24 } : Room).slots) (ef_126 m a b d q) ?_
  show Go _ _ _ _ s₁ (mkF m 0 #[.val (.ref a), .val (.ref b), .val (.ref d), .val (.int q)] [])
  refine Go.by (fun _ gk => XS.aloadN X0.here hx rfl (hb hby d8_0) rfl rfl gk) ?_
  show Go _ _ _ _ s₁ (mkF m 1 #[.val (.ref a), .val (.ref b), .val (.ref d), .val (.int q)] [(.ref a)])
  obtain ⟨_, _, ⟨T1, L1, k1, n1⟩, -, X1, ⟨Lc1, hQ1, l1, y1, z1⟩, st1⟩ := X0.specialBack hx (y := (⟨"java/lang/Record", "<init>", "()V"⟩ : MethodName)) rfl hown (mvT hZ (hw _ (List.mem_of_getElem? (i := 44) rfl))) (mvT hZ (hw _ (List.mem_of_getElem? (i := 45) rfl))) (mvT hZ (hw _ (List.mem_of_getElem? (i := 48) rfl))) (by decide) (backOf (W := 0) (rmRecord l Z a0 hw [] a h0 n0 Z0 ) hZ (hw _ (List.mem_of_getElem? (i := 48) rfl)) (hw _ (List.mem_of_getElem? (i := 47) rfl)) (by decide) (by decide)) (g := (mkF m 1 #[.val (.ref a), .val (.ref b), .val (.ref d), .val (.int q)] [(.ref a)])) rfl (by rw [hml]; rfl) (Steps.refl _) (a := a) (argsL := []) (rest := []) (lenOf pd_128 rfl) rfl (by show 2 * 0 + _ ≤ _; exact Nat.le_of_eq rfl) (hb hby d8_1) (fun _ _ => ⟨rfl, e0, (by decide : 0 + 0 ≤ _), (by decide : 0 + 0 ≤ _)⟩)
  dsimp only [Pt.U, Pt.locs, Pt.cells, Pt.slots] at X1 l1 y1 z1 st1 hQ1
  subst l1 y1 z1
  obtain ⟨rfl, N1q, e1⟩ := hQ1
  have N1 := Fr.app N0 N1q
  refine Go.to st1 ?_
  show Go _ _ _ _ T1 (mkF m 4 #[.val (.ref a), .val (.ref b), .val (.ref d), .val (.int q)] [])
  refine Go.by (fun _ gk => XS.aloadN X1.here hx rfl (hb hby d8_4) rfl rfl gk) ?_
  show Go _ _ _ _ T1 (mkF m 5 #[.val (.ref a), .val (.ref b), .val (.ref d), .val (.int q)] [(.ref a)])
  refine Go.by (fun _ gk => XS.aloadN X1.here hx rfl (hb hby d8_5) rfl rfl gk) ?_
  show Go _ _ _ _ T1 (mkF m 6 #[.val (.ref a), .val (.ref b), .val (.ref d), .val (.int q)] [(.ref b), (.ref a)])
  obtain ⟨T2, h2, X2, e2, W2, st2⟩ := putF X1 hx hZ hown (host := "") (Or.inl (hw _ (List.mem_of_getElem? (i := 50) rfl))) Via.refl e1 F_a_kind E_a (Or.inr ⟨(hw _ (List.mem_of_getElem? (i := 51) rfl)), rfl, hnm⟩) (hw _ (List.mem_of_getElem? (i := 32) rfl)) (ty := (.object "com/example/attache/attache/query/Token$Kind")) (by decide) rfl rfl (g := (mkF m 6 #[.val (.ref a), .val (.ref b), .val (.ref d), .val (.int q)] [(.ref b), (.ref a)])) rfl rfl (hb hby d8_6)
  have N2 := Fr.snoc X2 N1 g_a
  have Fw2 : Fld Z h2 a "com/example/attache/attache/query/Token" "kind" "Lcom/example/attache/attache/query/Token$Kind;" (.ref b) := F_a_kind.same W2
  refine Go.by st2 ?_
  show Go _ _ _ _ T2 (mkF m 9 #[.val (.ref a), .val (.ref b), .val (.ref d), .val (.int q)] [])
  refine Go.by (fun _ gk => XS.aloadN X2.here hx rfl (hb hby d8_9) rfl rfl gk) ?_
  show Go _ _ _ _ T2 (mkF m 10 #[.val (.ref a), .val (.ref b), .val (.ref d), .val (.int q)] [(.ref a)])
  refine Go.by (fun _ gk => XS.aloadN X2.here hx rfl (hb hby d8_10) rfl rfl gk) ?_
  show Go _ _ _ _ T2 (mkF m 11 #[.val (.ref a), .val (.ref b), .val (.ref d), .val (.int q)] [(.ref d), (.ref a)])
  have F3 : Fld Z h2 a "com/example/attache/attache/query/Token" "text" "Ljava/lang/String;" .null := F_a_text.other W2 (Or.inr (slot_ne (Or.inr (hw _ (List.mem_of_getElem? (i := 53) rfl))) (Or.inr (hw _ (List.mem_of_getElem? (i := 51) rfl))) (by decide) (t := (.object "java/lang/String")) (t' := (.object "com/example/attache/attache/query/Token$Kind")) (by decide) (by decide)))
  have F4 : Exa Z h2 a "com/example/attache/attache/query/Token" := E_a.wr W2
  obtain ⟨T5, h5, X5, e5, W5, st5⟩ := putF X2 hx hZ hown (host := "") (Or.inl (hw _ (List.mem_of_getElem? (i := 52) rfl))) Via.refl e2 F3 F4 (Or.inr ⟨(hw _ (List.mem_of_getElem? (i := 53) rfl)), rfl, hnm⟩) (hw _ (List.mem_of_getElem? (i := 32) rfl)) (ty := (.object "java/lang/String")) (by decide) rfl rfl (g := (mkF m 11 #[.val (.ref a), .val (.ref b), .val (.ref d), .val (.int q)] [(.ref d), (.ref a)])) rfl rfl (hb hby d8_11)
  have N5 := Fr.snoc X5 N2 g_a
  have Fw5 : Fld Z h5 a "com/example/attache/attache/query/Token" "text" "Ljava/lang/String;" (.ref d) := F3.same W5
  refine Go.by st5 ?_
  show Go _ _ _ _ T5 (mkF m 14 #[.val (.ref a), .val (.ref b), .val (.ref d), .val (.int q)] [])
  refine Go.by (fun _ gk => XS.aloadN X5.here hx rfl (hb hby d8_14) rfl rfl gk) ?_
  show Go _ _ _ _ T5 (mkF m 15 #[.val (.ref a), .val (.ref b), .val (.ref d), .val (.int q)] [(.ref a)])
  refine Go.by (fun _ gk => XS.iloadN X5.here hx rfl (hb hby d8_15) rfl gk) ?_
  show Go _ _ _ _ T5 (mkF m 16 #[.val (.ref a), .val (.ref b), .val (.ref d), .val (.int q)] [(.int q), (.ref a)])
  have F6 : Fld Z h2 a "com/example/attache/attache/query/Token" "position" "I" (.int (0 : Int32)) := F_a_position.other W2 (Or.inr (slot_ne (Or.inr (hw _ (List.mem_of_getElem? (i := 55) rfl))) (Or.inr (hw _ (List.mem_of_getElem? (i := 51) rfl))) (by decide) (t := .int) (t' := (.object "com/example/attache/attache/query/Token$Kind")) (by decide) (by decide)))
  have F7 : Fld Z h5 a "com/example/attache/attache/query/Token" "position" "I" (.int (0 : Int32)) := F6.other W5 (Or.inr (slot_ne (Or.inr (hw _ (List.mem_of_getElem? (i := 55) rfl))) (Or.inr (hw _ (List.mem_of_getElem? (i := 53) rfl))) (by decide) (t := .int) (t' := (.object "java/lang/String")) (by decide) (by decide)))
  have F8 : Exa Z h5 a "com/example/attache/attache/query/Token" := F4.wr W5
  obtain ⟨T9, h9, X9, e9, W9, st9⟩ := putF X5 hx hZ hown (host := "") (Or.inl (hw _ (List.mem_of_getElem? (i := 54) rfl))) Via.refl e5 F7 F8 (Or.inr ⟨(hw _ (List.mem_of_getElem? (i := 55) rfl)), rfl, hnm⟩) (hw _ (List.mem_of_getElem? (i := 32) rfl)) (ty := .int) (by decide) rfl rfl (g := (mkF m 16 #[.val (.ref a), .val (.ref b), .val (.ref d), .val (.int q)] [(.int q), (.ref a)])) rfl rfl (hb hby d8_16)
  have N9 := Fr.snoc X9 N5 g_a
  have Fw9 : Fld Z h9 a "com/example/attache/attache/query/Token" "position" "I" (.int q) := F7.same W9
  refine Go.by st9 ?_
  show Go _ _ _ _ T9 (mkF m 19 #[.val (.ref a), .val (.ref b), .val (.ref d), .val (.int q)] [])
  have F10 : Keep h0 h2 [a] := (Keep.refl h0 [a]).wr W2 (Or.inl (List.mem_of_getElem? (i := 0) rfl))
  have F11 : Keep h0 h5 [a] := F10.wr W5 (Or.inl (List.mem_of_getElem? (i := 0) rfl))
  have F12 : Keep h0 h9 [a] := F11.wr W9 (Or.inl (List.mem_of_getElem? (i := 0) rfl))
  have F13 : Exa Z h9 a "com/example/attache/attache/query/Token" := F8.wr W9
  have F14 : Fld Z h5 a "com/example/attache/attache/query/Token" "kind" "Lcom/example/attache/attache/query/Token$Kind;" (.ref b) := Fw2.other W5 (Or.inr (slot_ne (Or.inr (hw _ (List.mem_of_getElem? (i := 51) rfl))) (Or.inr (hw _ (List.mem_of_getElem? (i := 53) rfl))) (by decide) (t := (.object "com/example/attache/attache/query/Token$Kind")) (t' := (.object "java/lang/String")) (by decide) (by decide)))
  have F15 : Fld Z h9 a "com/example/attache/attache/query/Token" "kind" "Lcom/example/attache/attache/query/Token$Kind;" (.ref b) := F14.other W9 (Or.inr (slot_ne (Or.inr (hw _ (List.mem_of_getElem? (i := 51) rfl))) (Or.inr (hw _ (List.mem_of_getElem? (i := 55) rfl))) (by decide) (t := (.object "com/example/attache/attache/query/Token$Kind")) (t' := .int) (by decide) (by decide)))
  exact Go.retV X9 hx Bd.notSynchronized Bd.returns (hb hby d8_19) (by rw [e9]; exact ⟨rfl, N9, F12, F13, F15⟩) (by decide) (by decide)
theorem d10_0 : decode prog_40_method_3_code 0 = .ok (.aload_n 0, 1) := by decide +kernel
theorem d10_1 : decode prog_40_method_3_code 1 = .ok (.getfield 7, 3) := by decide +kernel
theorem d10_4 : decode prog_40_method_3_code 4 = .ok (.getstatic 35, 3) := by decide +kernel
theorem d10_7 : decode prog_40_method_3_code 7 = .ok (.if_acmp .eq 13, 3) := by decide +kernel
theorem d10_10 : decode prog_40_method_3_code 10 = .ok (.aload_n 0, 1) := by decide +kernel
theorem d10_11 : decode prog_40_method_3_code 11 = .ok (.getfield 7, 3) := by decide +kernel
theorem d10_14 : decode prog_40_method_3_code 14 = .ok (.getstatic 38, 3) := by decide +kernel
theorem d10_17 : decode prog_40_method_3_code 17 = .ok (.if_acmp .ne 7, 3) := by decide +kernel
theorem d10_24 : decode prog_40_method_3_code 24 = .ok (.iconst 0, 1) := by decide +kernel
theorem d10_25 : decode prog_40_method_3_code 25 = .ok (.ireturn, 1) := by decide +kernel
theorem d10_20 : decode prog_40_method_3_code 20 = .ok (.iconst 1, 1) := by decide +kernel
theorem d10_21 : decode prog_40_method_3_code 21 = .ok (.goto 4, 3) := by decide +kernel
def Q_rmIsP (Z : State) (a : Addr) (b : Addr) (r : Int32) (c_WORD : Addr) (c_STRING : Addr) (c_NUMBER : Addr) (c_NAMED_PARAMETER : Addr) (c_POSITIONAL_PARAMETER : Addr) (c_SYMBOL : Addr) (c_END : Addr) (h0 : Heap) (n0 : Nat) (v : Option Value) (h : Heap) (L : List Loc) : Prop := v = some (.int r) ∧ Fr n0 L ∧ h = h0
set_option maxRecDepth 65536 in
set_option maxHeartbeats 40000000 in
theorem rmIsP (l : Launch) (Z : State) (a0 : Array Value) (hw : ∀ d ∈ tables_1, d.before a0 Z = true) (ws : List Jvm.Cond) (a : Addr) (b : Addr) (r : Int32) (c_WORD : Addr) (c_STRING : Addr) (c_NUMBER : Addr) (c_NAMED_PARAMETER : Addr) (c_POSITIONAL_PARAMETER : Addr) (c_SYMBOL : Addr) (c_END : Addr) (h0 : Heap) (n0 : Nat) (Z0 : n0 ≤ h0.size) (O0 : Old Z n0 h0) (F_a_kind : Fld Z h0 a "com/example/attache/attache/query/Token" "kind" "Lcom/example/attache/attache/query/Token$Kind;" (.ref b)) (hp : (c_WORD = b ∧ r = 0) ∨ (c_STRING = b ∧ r = 0) ∨ (c_NUMBER = b ∧ r = 0) ∨ (c_NAMED_PARAMETER = b ∧ r = 1) ∨ (c_POSITIONAL_PARAMETER = b ∧ r = 1) ∨ (c_SYMBOL = b ∧ r = 0) ∨ (c_END = b ∧ r = 0)) (S_c_WORD : Sta Z Z.heap "com/example/attache/attache/query/Token$Kind" "WORD" "Lcom/example/attache/attache/query/Token$Kind;" (.ref c_WORD)) (E_c_WORD : Exa Z Z.heap c_WORD "com/example/attache/attache/query/Token$Kind") (O_c_WORD : Fld Z Z.heap c_WORD "java/lang/Enum" "ordinal" "I" (.int 0)) (S_c_STRING : Sta Z Z.heap "com/example/attache/attache/query/Token$Kind" "STRING" "Lcom/example/attache/attache/query/Token$Kind;" (.ref c_STRING)) (E_c_STRING : Exa Z Z.heap c_STRING "com/example/attache/attache/query/Token$Kind") (O_c_STRING : Fld Z Z.heap c_STRING "java/lang/Enum" "ordinal" "I" (.int 1)) (S_c_NUMBER : Sta Z Z.heap "com/example/attache/attache/query/Token$Kind" "NUMBER" "Lcom/example/attache/attache/query/Token$Kind;" (.ref c_NUMBER)) (E_c_NUMBER : Exa Z Z.heap c_NUMBER "com/example/attache/attache/query/Token$Kind") (O_c_NUMBER : Fld Z Z.heap c_NUMBER "java/lang/Enum" "ordinal" "I" (.int 2)) (S_c_NAMED_PARAMETER : Sta Z Z.heap "com/example/attache/attache/query/Token$Kind" "NAMED_PARAMETER" "Lcom/example/attache/attache/query/Token$Kind;" (.ref c_NAMED_PARAMETER)) (E_c_NAMED_PARAMETER : Exa Z Z.heap c_NAMED_PARAMETER "com/example/attache/attache/query/Token$Kind") (O_c_NAMED_PARAMETER : Fld Z Z.heap c_NAMED_PARAMETER "java/lang/Enum" "ordinal" "I" (.int 3)) (S_c_POSITIONAL_PARAMETER : Sta Z Z.heap "com/example/attache/attache/query/Token$Kind" "POSITIONAL_PARAMETER" "Lcom/example/attache/attache/query/Token$Kind;" (.ref c_POSITIONAL_PARAMETER)) (E_c_POSITIONAL_PARAMETER : Exa Z Z.heap c_POSITIONAL_PARAMETER "com/example/attache/attache/query/Token$Kind") (O_c_POSITIONAL_PARAMETER : Fld Z Z.heap c_POSITIONAL_PARAMETER "java/lang/Enum" "ordinal" "I" (.int 4)) (S_c_SYMBOL : Sta Z Z.heap "com/example/attache/attache/query/Token$Kind" "SYMBOL" "Lcom/example/attache/attache/query/Token$Kind;" (.ref c_SYMBOL)) (E_c_SYMBOL : Exa Z Z.heap c_SYMBOL "com/example/attache/attache/query/Token$Kind") (O_c_SYMBOL : Fld Z Z.heap c_SYMBOL "java/lang/Enum" "ordinal" "I" (.int 5)) (S_c_END : Sta Z Z.heap "com/example/attache/attache/query/Token$Kind" "END" "Lcom/example/attache/attache/query/Token$Kind;" (.ref c_END)) (E_c_END : Exa Z Z.heap c_END "com/example/attache/attache/query/Token$Kind") (O_c_END : Fld Z Z.heap c_END "java/lang/Enum" "ordinal" "I" (.int 6)) :
    MetFree l (⟨"com/example/attache/attache/query/Token", "isParameter", "()Z"⟩ : MethodName) (head1 (Jvm.Cond.code (⟨"com/example/attache/attache/query/Token", "isParameter", "()Z"⟩ : MethodName) prog_40_method_3_code 1 (some .boolean) :: ws) ({ frames := 0, cells := 0, slots := 0, locals := 0 } : Room)) (fun as' U => as' = #[(.ref a)] ∧ Z.Warmed39 U.vm ∧ U.heap = h0) (fun _ _ _ _ _ => True) (fun _ U o U' => ∃ v L, o = .returned v ∧ Q_rmIsP Z a b r c_WORD c_STRING c_NUMBER c_NAMED_PARAMETER c_POSITIONAL_PARAMETER c_SYMBOL c_END h0 n0 v U'.heap L ∧ FrameEnd U o U' L ({ frames := 0, cells := 0, slots := 0, locals := 0 } : Room).cells ({ frames := 0, cells := 0, slots := 0, locals := 0 } : Room).slots) := by
  refine MetFree.of_bodySF (plainFor_of_name pn_125) hisR ?_
  intro p e s m args below meth c s₁ Bd hml0 hP hK
  obtain ⟨rfl, hZ, hh⟩ := hP
  have hx := Bd.exec
  have hby := Bd.bytes
  have hml : c.maxLocals = 1 := hml0
  have hown : s.vm.findClass "com/example/attache/attache/query/Token" = some m.cls := findClass_of_methodNamed Bd.named
  have hnm := (name_of_methodNamed Bd.named Bd.method).1
  have X0 : Stand p l e ({ frames := 0, cells := 0, slots := 0, locals := 0 } : Room) s m #[(.ref a)] below meth c s₁ [] 0 0 := Stand.of_body Bd
  have e0 : s₁.heap = h0 := by rw [← hh, Bd.state]; rfl
  have N0 := Fr.nil n0
  refine Go.enter (F := EndN s (Q_rmIsP Z a b r c_WORD c_STRING c_NUMBER c_NAMED_PARAMETER c_POSITIONAL_PARAMETER c_SYMBOL c_END h0 n0) ({ frames := 0, cells := 0, slots := 0, locals := 0 } : Room).cells ({ frames := 0, cells := 0, slots := 0, locals := 0 } : Room).slots) (ef_121 m a) ?_
  show Go _ _ _ _ s₁ (mkF m 0 #[.val (.ref a)] [])
  rcases hp with ⟨rfl, rfl⟩ | ⟨rfl, rfl⟩ | ⟨rfl, rfl⟩ | ⟨rfl, rfl⟩ | ⟨rfl, rfl⟩ | ⟨rfl, rfl⟩ | ⟨rfl, rfl⟩
  · refine Go.by (fun _ gk => XS.aloadN X0.here hx rfl (hb hby d10_0) rfl rfl gk) ?_
    show Go _ _ _ _ s₁ (mkF m 1 #[.val (.ref a)] [(.ref a)])
    obtain ⟨T1, X1, e1, st1⟩ := getF X0 hx hZ hown (host := "") (Or.inl (hw _ (List.mem_of_getElem? (i := 50) rfl))) Via.refl e0 F_a_kind (g := (mkF m 1 #[.val (.ref a)] [(.ref a)])) rfl rfl (hb hby d10_1)
    refine Go.by st1 ?_
    show Go _ _ _ _ T1 (mkF m 4 #[.val (.ref a)] [(.ref c_WORD)])
    have F2 : Sta Z h0 "com/example/attache/attache/query/Token$Kind" "NAMED_PARAMETER" "Lcom/example/attache/attache/query/Token$Kind;" (.ref c_NAMED_PARAMETER) := S_c_NAMED_PARAMETER.ext O0.2
    obtain ⟨T3, X3, e3, st3⟩ := getS2 X1 hx hZ hown (host := "") (Or.inl (hw _ (List.mem_of_getElem? (i := 61) rfl))) Via.refl e1 F2 (g := (mkF m 4 #[.val (.ref a)] [(.ref c_WORD)])) rfl (hb hby d10_4)
    refine Go.by st3 ?_
    show Go _ _ _ _ T3 (mkF m 7 #[.val (.ref a)] [(.ref c_NAMED_PARAMETER), (.ref c_WORD)])
    refine Go.by (fun _ gk => XT.acmpNo X3.here hx rfl (hb hby d10_7) rfl rfl rfl (XT.aa_eq_f (fun q => (Fld.ne O_c_WORD O_c_NAMED_PARAMETER (by decide)) (Value.ref.inj q))) gk) ?_
    show Go _ _ _ _ T3 (mkF m 10 #[.val (.ref a)] [])
    refine Go.by (fun _ gk => XS.aloadN X3.here hx rfl (hb hby d10_10) rfl rfl gk) ?_
    show Go _ _ _ _ T3 (mkF m 11 #[.val (.ref a)] [(.ref a)])
    obtain ⟨T4, X4, e4, st4⟩ := getF X3 hx hZ hown (host := "") (Or.inl (hw _ (List.mem_of_getElem? (i := 50) rfl))) Via.refl e3 F_a_kind (g := (mkF m 11 #[.val (.ref a)] [(.ref a)])) rfl rfl (hb hby d10_11)
    refine Go.by st4 ?_
    show Go _ _ _ _ T4 (mkF m 14 #[.val (.ref a)] [(.ref c_WORD)])
    have F5 : Sta Z h0 "com/example/attache/attache/query/Token$Kind" "POSITIONAL_PARAMETER" "Lcom/example/attache/attache/query/Token$Kind;" (.ref c_POSITIONAL_PARAMETER) := S_c_POSITIONAL_PARAMETER.ext O0.2
    obtain ⟨T6, X6, e6, st6⟩ := getS2 X4 hx hZ hown (host := "") (Or.inl (hw _ (List.mem_of_getElem? (i := 63) rfl))) Via.refl e4 F5 (g := (mkF m 14 #[.val (.ref a)] [(.ref c_WORD)])) rfl (hb hby d10_14)
    refine Go.by st6 ?_
    show Go _ _ _ _ T6 (mkF m 17 #[.val (.ref a)] [(.ref c_POSITIONAL_PARAMETER), (.ref c_WORD)])
    refine Go.by (fun _ gk => XT.acmpYes X6.here hx rfl (pc0 := 17) (pc' := 24) rfl (hb hby d10_17) rfl rfl rfl (XT.aa_ne_t (fun q => (Fld.ne O_c_WORD O_c_POSITIONAL_PARAMETER (by decide)) (Value.ref.inj q))) (by decide) (by decide) gk) ?_
    show Go _ _ _ _ T6 (mkF m 24 #[.val (.ref a)] [])
    refine Go.by (fun _ gk => XT.iconstV X6.here hx rfl (0 : Int32) (hb hby d10_24) (by decide) gk) ?_
    show Go _ _ _ _ T6 (mkF m 25 #[.val (.ref a)] [(.int (0 : Int32))])
    exact Go.retI X6 hx Bd.notSynchronized Bd.returns rfl (by simp) (hb hby d10_25) (by rw [e6]; exact ⟨rfl, N0, rfl⟩) (by decide) (by decide)
  · refine Go.by (fun _ gk => XS.aloadN X0.here hx rfl (hb hby d10_0) rfl rfl gk) ?_
    show Go _ _ _ _ s₁ (mkF m 1 #[.val (.ref a)] [(.ref a)])
    obtain ⟨T7, X7, e7, st7⟩ := getF X0 hx hZ hown (host := "") (Or.inl (hw _ (List.mem_of_getElem? (i := 50) rfl))) Via.refl e0 F_a_kind (g := (mkF m 1 #[.val (.ref a)] [(.ref a)])) rfl rfl (hb hby d10_1)
    refine Go.by st7 ?_
    show Go _ _ _ _ T7 (mkF m 4 #[.val (.ref a)] [(.ref c_STRING)])
    have F8 : Sta Z h0 "com/example/attache/attache/query/Token$Kind" "NAMED_PARAMETER" "Lcom/example/attache/attache/query/Token$Kind;" (.ref c_NAMED_PARAMETER) := S_c_NAMED_PARAMETER.ext O0.2
    obtain ⟨T9, X9, e9, st9⟩ := getS2 X7 hx hZ hown (host := "") (Or.inl (hw _ (List.mem_of_getElem? (i := 61) rfl))) Via.refl e7 F8 (g := (mkF m 4 #[.val (.ref a)] [(.ref c_STRING)])) rfl (hb hby d10_4)
    refine Go.by st9 ?_
    show Go _ _ _ _ T9 (mkF m 7 #[.val (.ref a)] [(.ref c_NAMED_PARAMETER), (.ref c_STRING)])
    refine Go.by (fun _ gk => XT.acmpNo X9.here hx rfl (hb hby d10_7) rfl rfl rfl (XT.aa_eq_f (fun q => (Fld.ne O_c_STRING O_c_NAMED_PARAMETER (by decide)) (Value.ref.inj q))) gk) ?_
    show Go _ _ _ _ T9 (mkF m 10 #[.val (.ref a)] [])
    refine Go.by (fun _ gk => XS.aloadN X9.here hx rfl (hb hby d10_10) rfl rfl gk) ?_
    show Go _ _ _ _ T9 (mkF m 11 #[.val (.ref a)] [(.ref a)])
    obtain ⟨T10, X10, e10, st10⟩ := getF X9 hx hZ hown (host := "") (Or.inl (hw _ (List.mem_of_getElem? (i := 50) rfl))) Via.refl e9 F_a_kind (g := (mkF m 11 #[.val (.ref a)] [(.ref a)])) rfl rfl (hb hby d10_11)
    refine Go.by st10 ?_
    show Go _ _ _ _ T10 (mkF m 14 #[.val (.ref a)] [(.ref c_STRING)])
    have F11 : Sta Z h0 "com/example/attache/attache/query/Token$Kind" "POSITIONAL_PARAMETER" "Lcom/example/attache/attache/query/Token$Kind;" (.ref c_POSITIONAL_PARAMETER) := S_c_POSITIONAL_PARAMETER.ext O0.2
    obtain ⟨T12, X12, e12, st12⟩ := getS2 X10 hx hZ hown (host := "") (Or.inl (hw _ (List.mem_of_getElem? (i := 63) rfl))) Via.refl e10 F11 (g := (mkF m 14 #[.val (.ref a)] [(.ref c_STRING)])) rfl (hb hby d10_14)
    refine Go.by st12 ?_
    show Go _ _ _ _ T12 (mkF m 17 #[.val (.ref a)] [(.ref c_POSITIONAL_PARAMETER), (.ref c_STRING)])
    refine Go.by (fun _ gk => XT.acmpYes X12.here hx rfl (pc0 := 17) (pc' := 24) rfl (hb hby d10_17) rfl rfl rfl (XT.aa_ne_t (fun q => (Fld.ne O_c_STRING O_c_POSITIONAL_PARAMETER (by decide)) (Value.ref.inj q))) (by decide) (by decide) gk) ?_
    show Go _ _ _ _ T12 (mkF m 24 #[.val (.ref a)] [])
    refine Go.by (fun _ gk => XT.iconstV X12.here hx rfl (0 : Int32) (hb hby d10_24) (by decide) gk) ?_
    show Go _ _ _ _ T12 (mkF m 25 #[.val (.ref a)] [(.int (0 : Int32))])
    exact Go.retI X12 hx Bd.notSynchronized Bd.returns rfl (by simp) (hb hby d10_25) (by rw [e12]; exact ⟨rfl, N0, rfl⟩) (by decide) (by decide)
  · refine Go.by (fun _ gk => XS.aloadN X0.here hx rfl (hb hby d10_0) rfl rfl gk) ?_
    show Go _ _ _ _ s₁ (mkF m 1 #[.val (.ref a)] [(.ref a)])
    obtain ⟨T13, X13, e13, st13⟩ := getF X0 hx hZ hown (host := "") (Or.inl (hw _ (List.mem_of_getElem? (i := 50) rfl))) Via.refl e0 F_a_kind (g := (mkF m 1 #[.val (.ref a)] [(.ref a)])) rfl rfl (hb hby d10_1)
    refine Go.by st13 ?_
    show Go _ _ _ _ T13 (mkF m 4 #[.val (.ref a)] [(.ref c_NUMBER)])
    have F14 : Sta Z h0 "com/example/attache/attache/query/Token$Kind" "NAMED_PARAMETER" "Lcom/example/attache/attache/query/Token$Kind;" (.ref c_NAMED_PARAMETER) := S_c_NAMED_PARAMETER.ext O0.2
    obtain ⟨T15, X15, e15, st15⟩ := getS2 X13 hx hZ hown (host := "") (Or.inl (hw _ (List.mem_of_getElem? (i := 61) rfl))) Via.refl e13 F14 (g := (mkF m 4 #[.val (.ref a)] [(.ref c_NUMBER)])) rfl (hb hby d10_4)
    refine Go.by st15 ?_
    show Go _ _ _ _ T15 (mkF m 7 #[.val (.ref a)] [(.ref c_NAMED_PARAMETER), (.ref c_NUMBER)])
    refine Go.by (fun _ gk => XT.acmpNo X15.here hx rfl (hb hby d10_7) rfl rfl rfl (XT.aa_eq_f (fun q => (Fld.ne O_c_NUMBER O_c_NAMED_PARAMETER (by decide)) (Value.ref.inj q))) gk) ?_
    show Go _ _ _ _ T15 (mkF m 10 #[.val (.ref a)] [])
    refine Go.by (fun _ gk => XS.aloadN X15.here hx rfl (hb hby d10_10) rfl rfl gk) ?_
    show Go _ _ _ _ T15 (mkF m 11 #[.val (.ref a)] [(.ref a)])
    obtain ⟨T16, X16, e16, st16⟩ := getF X15 hx hZ hown (host := "") (Or.inl (hw _ (List.mem_of_getElem? (i := 50) rfl))) Via.refl e15 F_a_kind (g := (mkF m 11 #[.val (.ref a)] [(.ref a)])) rfl rfl (hb hby d10_11)
    refine Go.by st16 ?_
    show Go _ _ _ _ T16 (mkF m 14 #[.val (.ref a)] [(.ref c_NUMBER)])
    have F17 : Sta Z h0 "com/example/attache/attache/query/Token$Kind" "POSITIONAL_PARAMETER" "Lcom/example/attache/attache/query/Token$Kind;" (.ref c_POSITIONAL_PARAMETER) := S_c_POSITIONAL_PARAMETER.ext O0.2
    obtain ⟨T18, X18, e18, st18⟩ := getS2 X16 hx hZ hown (host := "") (Or.inl (hw _ (List.mem_of_getElem? (i := 63) rfl))) Via.refl e16 F17 (g := (mkF m 14 #[.val (.ref a)] [(.ref c_NUMBER)])) rfl (hb hby d10_14)
    refine Go.by st18 ?_
    show Go _ _ _ _ T18 (mkF m 17 #[.val (.ref a)] [(.ref c_POSITIONAL_PARAMETER), (.ref c_NUMBER)])
    refine Go.by (fun _ gk => XT.acmpYes X18.here hx rfl (pc0 := 17) (pc' := 24) rfl (hb hby d10_17) rfl rfl rfl (XT.aa_ne_t (fun q => (Fld.ne O_c_NUMBER O_c_POSITIONAL_PARAMETER (by decide)) (Value.ref.inj q))) (by decide) (by decide) gk) ?_
    show Go _ _ _ _ T18 (mkF m 24 #[.val (.ref a)] [])
    refine Go.by (fun _ gk => XT.iconstV X18.here hx rfl (0 : Int32) (hb hby d10_24) (by decide) gk) ?_
    show Go _ _ _ _ T18 (mkF m 25 #[.val (.ref a)] [(.int (0 : Int32))])
    exact Go.retI X18 hx Bd.notSynchronized Bd.returns rfl (by simp) (hb hby d10_25) (by rw [e18]; exact ⟨rfl, N0, rfl⟩) (by decide) (by decide)
  · refine Go.by (fun _ gk => XS.aloadN X0.here hx rfl (hb hby d10_0) rfl rfl gk) ?_
    show Go _ _ _ _ s₁ (mkF m 1 #[.val (.ref a)] [(.ref a)])
    obtain ⟨T19, X19, e19, st19⟩ := getF X0 hx hZ hown (host := "") (Or.inl (hw _ (List.mem_of_getElem? (i := 50) rfl))) Via.refl e0 F_a_kind (g := (mkF m 1 #[.val (.ref a)] [(.ref a)])) rfl rfl (hb hby d10_1)
    refine Go.by st19 ?_
    show Go _ _ _ _ T19 (mkF m 4 #[.val (.ref a)] [(.ref c_NAMED_PARAMETER)])
    have F20 : Sta Z h0 "com/example/attache/attache/query/Token$Kind" "NAMED_PARAMETER" "Lcom/example/attache/attache/query/Token$Kind;" (.ref c_NAMED_PARAMETER) := S_c_NAMED_PARAMETER.ext O0.2
    obtain ⟨T21, X21, e21, st21⟩ := getS2 X19 hx hZ hown (host := "") (Or.inl (hw _ (List.mem_of_getElem? (i := 61) rfl))) Via.refl e19 F20 (g := (mkF m 4 #[.val (.ref a)] [(.ref c_NAMED_PARAMETER)])) rfl (hb hby d10_4)
    refine Go.by st21 ?_
    show Go _ _ _ _ T21 (mkF m 7 #[.val (.ref a)] [(.ref c_NAMED_PARAMETER), (.ref c_NAMED_PARAMETER)])
    refine Go.by (fun _ gk => XT.acmpYes X21.here hx rfl (pc0 := 7) (pc' := 20) rfl (hb hby d10_7) rfl rfl rfl (XT.aa_eq_t rfl) (by decide) (by decide) gk) ?_
    show Go _ _ _ _ T21 (mkF m 20 #[.val (.ref a)] [])
    refine Go.by (fun _ gk => XT.iconstV X21.here hx rfl (1 : Int32) (hb hby d10_20) (by decide) gk) ?_
    show Go _ _ _ _ T21 (mkF m 21 #[.val (.ref a)] [(.int (1 : Int32))])
    refine Go.by (fun _ gk => XS.goto X21.here hx rfl (pc0 := 21) (pc' := 25) rfl (hb hby d10_21) (by decide) (by decide) gk) ?_
    show Go _ _ _ _ T21 (mkF m 25 #[.val (.ref a)] [(.int (1 : Int32))])
    exact Go.retI X21 hx Bd.notSynchronized Bd.returns rfl (by simp) (hb hby d10_25) (by rw [e21]; exact ⟨rfl, N0, rfl⟩) (by decide) (by decide)
  · refine Go.by (fun _ gk => XS.aloadN X0.here hx rfl (hb hby d10_0) rfl rfl gk) ?_
    show Go _ _ _ _ s₁ (mkF m 1 #[.val (.ref a)] [(.ref a)])
    obtain ⟨T22, X22, e22, st22⟩ := getF X0 hx hZ hown (host := "") (Or.inl (hw _ (List.mem_of_getElem? (i := 50) rfl))) Via.refl e0 F_a_kind (g := (mkF m 1 #[.val (.ref a)] [(.ref a)])) rfl rfl (hb hby d10_1)
    refine Go.by st22 ?_
    show Go _ _ _ _ T22 (mkF m 4 #[.val (.ref a)] [(.ref c_POSITIONAL_PARAMETER)])
    have F23 : Sta Z h0 "com/example/attache/attache/query/Token$Kind" "NAMED_PARAMETER" "Lcom/example/attache/attache/query/Token$Kind;" (.ref c_NAMED_PARAMETER) := S_c_NAMED_PARAMETER.ext O0.2
    obtain ⟨T24, X24, e24, st24⟩ := getS2 X22 hx hZ hown (host := "") (Or.inl (hw _ (List.mem_of_getElem? (i := 61) rfl))) Via.refl e22 F23 (g := (mkF m 4 #[.val (.ref a)] [(.ref c_POSITIONAL_PARAMETER)])) rfl (hb hby d10_4)
    refine Go.by st24 ?_
    show Go _ _ _ _ T24 (mkF m 7 #[.val (.ref a)] [(.ref c_NAMED_PARAMETER), (.ref c_POSITIONAL_PARAMETER)])
    refine Go.by (fun _ gk => XT.acmpNo X24.here hx rfl (hb hby d10_7) rfl rfl rfl (XT.aa_eq_f (fun q => (Fld.ne O_c_POSITIONAL_PARAMETER O_c_NAMED_PARAMETER (by decide)) (Value.ref.inj q))) gk) ?_
    show Go _ _ _ _ T24 (mkF m 10 #[.val (.ref a)] [])
    refine Go.by (fun _ gk => XS.aloadN X24.here hx rfl (hb hby d10_10) rfl rfl gk) ?_
    show Go _ _ _ _ T24 (mkF m 11 #[.val (.ref a)] [(.ref a)])
    obtain ⟨T25, X25, e25, st25⟩ := getF X24 hx hZ hown (host := "") (Or.inl (hw _ (List.mem_of_getElem? (i := 50) rfl))) Via.refl e24 F_a_kind (g := (mkF m 11 #[.val (.ref a)] [(.ref a)])) rfl rfl (hb hby d10_11)
    refine Go.by st25 ?_
    show Go _ _ _ _ T25 (mkF m 14 #[.val (.ref a)] [(.ref c_POSITIONAL_PARAMETER)])
    have F26 : Sta Z h0 "com/example/attache/attache/query/Token$Kind" "POSITIONAL_PARAMETER" "Lcom/example/attache/attache/query/Token$Kind;" (.ref c_POSITIONAL_PARAMETER) := S_c_POSITIONAL_PARAMETER.ext O0.2
    obtain ⟨T27, X27, e27, st27⟩ := getS2 X25 hx hZ hown (host := "") (Or.inl (hw _ (List.mem_of_getElem? (i := 63) rfl))) Via.refl e25 F26 (g := (mkF m 14 #[.val (.ref a)] [(.ref c_POSITIONAL_PARAMETER)])) rfl (hb hby d10_14)
    refine Go.by st27 ?_
    show Go _ _ _ _ T27 (mkF m 17 #[.val (.ref a)] [(.ref c_POSITIONAL_PARAMETER), (.ref c_POSITIONAL_PARAMETER)])
    refine Go.by (fun _ gk => XT.acmpNo X27.here hx rfl (hb hby d10_17) rfl rfl rfl (XT.aa_ne_f rfl) gk) ?_
    show Go _ _ _ _ T27 (mkF m 20 #[.val (.ref a)] [])
    refine Go.by (fun _ gk => XT.iconstV X27.here hx rfl (1 : Int32) (hb hby d10_20) (by decide) gk) ?_
    show Go _ _ _ _ T27 (mkF m 21 #[.val (.ref a)] [(.int (1 : Int32))])
    refine Go.by (fun _ gk => XS.goto X27.here hx rfl (pc0 := 21) (pc' := 25) rfl (hb hby d10_21) (by decide) (by decide) gk) ?_
    show Go _ _ _ _ T27 (mkF m 25 #[.val (.ref a)] [(.int (1 : Int32))])
    exact Go.retI X27 hx Bd.notSynchronized Bd.returns rfl (by simp) (hb hby d10_25) (by rw [e27]; exact ⟨rfl, N0, rfl⟩) (by decide) (by decide)
  · refine Go.by (fun _ gk => XS.aloadN X0.here hx rfl (hb hby d10_0) rfl rfl gk) ?_
    show Go _ _ _ _ s₁ (mkF m 1 #[.val (.ref a)] [(.ref a)])
    obtain ⟨T28, X28, e28, st28⟩ := getF X0 hx hZ hown (host := "") (Or.inl (hw _ (List.mem_of_getElem? (i := 50) rfl))) Via.refl e0 F_a_kind (g := (mkF m 1 #[.val (.ref a)] [(.ref a)])) rfl rfl (hb hby d10_1)
    refine Go.by st28 ?_
    show Go _ _ _ _ T28 (mkF m 4 #[.val (.ref a)] [(.ref c_SYMBOL)])
    have F29 : Sta Z h0 "com/example/attache/attache/query/Token$Kind" "NAMED_PARAMETER" "Lcom/example/attache/attache/query/Token$Kind;" (.ref c_NAMED_PARAMETER) := S_c_NAMED_PARAMETER.ext O0.2
    obtain ⟨T30, X30, e30, st30⟩ := getS2 X28 hx hZ hown (host := "") (Or.inl (hw _ (List.mem_of_getElem? (i := 61) rfl))) Via.refl e28 F29 (g := (mkF m 4 #[.val (.ref a)] [(.ref c_SYMBOL)])) rfl (hb hby d10_4)
    refine Go.by st30 ?_
    show Go _ _ _ _ T30 (mkF m 7 #[.val (.ref a)] [(.ref c_NAMED_PARAMETER), (.ref c_SYMBOL)])
    refine Go.by (fun _ gk => XT.acmpNo X30.here hx rfl (hb hby d10_7) rfl rfl rfl (XT.aa_eq_f (fun q => (Fld.ne O_c_SYMBOL O_c_NAMED_PARAMETER (by decide)) (Value.ref.inj q))) gk) ?_
    show Go _ _ _ _ T30 (mkF m 10 #[.val (.ref a)] [])
    refine Go.by (fun _ gk => XS.aloadN X30.here hx rfl (hb hby d10_10) rfl rfl gk) ?_
    show Go _ _ _ _ T30 (mkF m 11 #[.val (.ref a)] [(.ref a)])
    obtain ⟨T31, X31, e31, st31⟩ := getF X30 hx hZ hown (host := "") (Or.inl (hw _ (List.mem_of_getElem? (i := 50) rfl))) Via.refl e30 F_a_kind (g := (mkF m 11 #[.val (.ref a)] [(.ref a)])) rfl rfl (hb hby d10_11)
    refine Go.by st31 ?_
    show Go _ _ _ _ T31 (mkF m 14 #[.val (.ref a)] [(.ref c_SYMBOL)])
    have F32 : Sta Z h0 "com/example/attache/attache/query/Token$Kind" "POSITIONAL_PARAMETER" "Lcom/example/attache/attache/query/Token$Kind;" (.ref c_POSITIONAL_PARAMETER) := S_c_POSITIONAL_PARAMETER.ext O0.2
    obtain ⟨T33, X33, e33, st33⟩ := getS2 X31 hx hZ hown (host := "") (Or.inl (hw _ (List.mem_of_getElem? (i := 63) rfl))) Via.refl e31 F32 (g := (mkF m 14 #[.val (.ref a)] [(.ref c_SYMBOL)])) rfl (hb hby d10_14)
    refine Go.by st33 ?_
    show Go _ _ _ _ T33 (mkF m 17 #[.val (.ref a)] [(.ref c_POSITIONAL_PARAMETER), (.ref c_SYMBOL)])
    refine Go.by (fun _ gk => XT.acmpYes X33.here hx rfl (pc0 := 17) (pc' := 24) rfl (hb hby d10_17) rfl rfl rfl (XT.aa_ne_t (fun q => (Fld.ne O_c_SYMBOL O_c_POSITIONAL_PARAMETER (by decide)) (Value.ref.inj q))) (by decide) (by decide) gk) ?_
    show Go _ _ _ _ T33 (mkF m 24 #[.val (.ref a)] [])
    refine Go.by (fun _ gk => XT.iconstV X33.here hx rfl (0 : Int32) (hb hby d10_24) (by decide) gk) ?_
    show Go _ _ _ _ T33 (mkF m 25 #[.val (.ref a)] [(.int (0 : Int32))])
    exact Go.retI X33 hx Bd.notSynchronized Bd.returns rfl (by simp) (hb hby d10_25) (by rw [e33]; exact ⟨rfl, N0, rfl⟩) (by decide) (by decide)
  · refine Go.by (fun _ gk => XS.aloadN X0.here hx rfl (hb hby d10_0) rfl rfl gk) ?_
    show Go _ _ _ _ s₁ (mkF m 1 #[.val (.ref a)] [(.ref a)])
    obtain ⟨T34, X34, e34, st34⟩ := getF X0 hx hZ hown (host := "") (Or.inl (hw _ (List.mem_of_getElem? (i := 50) rfl))) Via.refl e0 F_a_kind (g := (mkF m 1 #[.val (.ref a)] [(.ref a)])) rfl rfl (hb hby d10_1)
    refine Go.by st34 ?_
    show Go _ _ _ _ T34 (mkF m 4 #[.val (.ref a)] [(.ref c_END)])
    have F35 : Sta Z h0 "com/example/attache/attache/query/Token$Kind" "NAMED_PARAMETER" "Lcom/example/attache/attache/query/Token$Kind;" (.ref c_NAMED_PARAMETER) := S_c_NAMED_PARAMETER.ext O0.2
    obtain ⟨T36, X36, e36, st36⟩ := getS2 X34 hx hZ hown (host := "") (Or.inl (hw _ (List.mem_of_getElem? (i := 61) rfl))) Via.refl e34 F35 (g := (mkF m 4 #[.val (.ref a)] [(.ref c_END)])) rfl (hb hby d10_4)
    refine Go.by st36 ?_
    show Go _ _ _ _ T36 (mkF m 7 #[.val (.ref a)] [(.ref c_NAMED_PARAMETER), (.ref c_END)])
    refine Go.by (fun _ gk => XT.acmpNo X36.here hx rfl (hb hby d10_7) rfl rfl rfl (XT.aa_eq_f (fun q => (Fld.ne O_c_END O_c_NAMED_PARAMETER (by decide)) (Value.ref.inj q))) gk) ?_
    show Go _ _ _ _ T36 (mkF m 10 #[.val (.ref a)] [])
    refine Go.by (fun _ gk => XS.aloadN X36.here hx rfl (hb hby d10_10) rfl rfl gk) ?_
    show Go _ _ _ _ T36 (mkF m 11 #[.val (.ref a)] [(.ref a)])
    obtain ⟨T37, X37, e37, st37⟩ := getF X36 hx hZ hown (host := "") (Or.inl (hw _ (List.mem_of_getElem? (i := 50) rfl))) Via.refl e36 F_a_kind (g := (mkF m 11 #[.val (.ref a)] [(.ref a)])) rfl rfl (hb hby d10_11)
    refine Go.by st37 ?_
    show Go _ _ _ _ T37 (mkF m 14 #[.val (.ref a)] [(.ref c_END)])
    have F38 : Sta Z h0 "com/example/attache/attache/query/Token$Kind" "POSITIONAL_PARAMETER" "Lcom/example/attache/attache/query/Token$Kind;" (.ref c_POSITIONAL_PARAMETER) := S_c_POSITIONAL_PARAMETER.ext O0.2
    obtain ⟨T39, X39, e39, st39⟩ := getS2 X37 hx hZ hown (host := "") (Or.inl (hw _ (List.mem_of_getElem? (i := 63) rfl))) Via.refl e37 F38 (g := (mkF m 14 #[.val (.ref a)] [(.ref c_END)])) rfl (hb hby d10_14)
    refine Go.by st39 ?_
    show Go _ _ _ _ T39 (mkF m 17 #[.val (.ref a)] [(.ref c_POSITIONAL_PARAMETER), (.ref c_END)])
    refine Go.by (fun _ gk => XT.acmpYes X39.here hx rfl (pc0 := 17) (pc' := 24) rfl (hb hby d10_17) rfl rfl rfl (XT.aa_ne_t (fun q => (Fld.ne O_c_END O_c_POSITIONAL_PARAMETER (by decide)) (Value.ref.inj q))) (by decide) (by decide) gk) ?_
    show Go _ _ _ _ T39 (mkF m 24 #[.val (.ref a)] [])
    refine Go.by (fun _ gk => XT.iconstV X39.here hx rfl (0 : Int32) (hb hby d10_24) (by decide) gk) ?_
    show Go _ _ _ _ T39 (mkF m 25 #[.val (.ref a)] [(.int (0 : Int32))])
    exact Go.retI X39 hx Bd.notSynchronized Bd.returns rfl (by simp) (hb hby d10_25) (by rw [e39]; exact ⟨rfl, N0, rfl⟩) (by decide) (by decide)
theorem ef_152 (m : MethodId) (x0 : Int32) (x1 : Int32) (x2 : Int32) (x3 : Int32) : entryFrame m #[(.int x0), (.int x1), (.int x2), (.int x3)] 9 = mkF m 0 #[.val (.int x0), .val (.int x1), .val (.int x2), .val (.int x3), .unset, .unset, .unset, .unset, .unset] [] := by (first | (simp [entryFrame, mkF, argsToLocals, Value.category]; done) | rfl)
theorem pd_153 : parseMethodDescriptor "(I)Lcom/example/attache/attache/query/Token$Kind;" = some ⟨[.int], some (.object "com/example/attache/attache/query/Token$Kind")⟩ := by decide +kernel
theorem pd_154 : parseMethodDescriptor "(Lcom/example/attache/attache/query/Token$Kind;Ljava/lang/String;I)V" = some ⟨[(.object "com/example/attache/attache/query/Token$Kind"), (.object "java/lang/String"), .int], none⟩ := by decide +kernel
theorem pd_155 : parseMethodDescriptor "()Z" = some ⟨[], some .boolean⟩ := by decide +kernel
theorem pd_156 : parseMethodDescriptor "([C)V" = some ⟨[(.array .char)], none⟩ := by decide +kernel
def Q_rm0 (Z : State) (p0 : Int32) (p1 : Int32) (p2 : Int32) (p3 : Int32) (c_WORD : Addr) (c_STRING : Addr) (c_NUMBER : Addr) (c_NAMED_PARAMETER : Addr) (c_POSITIONAL_PARAMETER : Addr) (c_SYMBOL : Addr) (c_END : Addr) (cs : Int32) (h0 : Heap) (n0 : Nat) (v : Option Value) (h : Heap) (L : List Loc) : Prop := v = some (.int 1) ∧ Fr n0 L
set_option maxRecDepth 65536 in
set_option maxHeartbeats 40000000 in
theorem rm0 (l : Launch) (Z : State) (a0 : Array Value) (hw : ∀ d ∈ tables_1, d.before a0 Z = true) (ws : List Jvm.Cond) (p0 : Int32) (p1 : Int32) (p2 : Int32) (p3 : Int32) (c_WORD : Addr) (c_STRING : Addr) (c_NUMBER : Addr) (c_NAMED_PARAMETER : Addr) (c_POSITIONAL_PARAMETER : Addr) (c_SYMBOL : Addr) (c_END : Addr) (cs : Int32) (h0 : Heap) (n0 : Nat) (Z0 : n0 ≤ h0.size) (O0 : Old Z n0 h0) (S_c_WORD : Sta Z Z.heap "com/example/attache/attache/query/Token$Kind" "WORD" "Lcom/example/attache/attache/query/Token$Kind;" (.ref c_WORD)) (E_c_WORD : Exa Z Z.heap c_WORD "com/example/attache/attache/query/Token$Kind") (O_c_WORD : Fld Z Z.heap c_WORD "java/lang/Enum" "ordinal" "I" (.int 0)) (S_c_STRING : Sta Z Z.heap "com/example/attache/attache/query/Token$Kind" "STRING" "Lcom/example/attache/attache/query/Token$Kind;" (.ref c_STRING)) (E_c_STRING : Exa Z Z.heap c_STRING "com/example/attache/attache/query/Token$Kind") (O_c_STRING : Fld Z Z.heap c_STRING "java/lang/Enum" "ordinal" "I" (.int 1)) (S_c_NUMBER : Sta Z Z.heap "com/example/attache/attache/query/Token$Kind" "NUMBER" "Lcom/example/attache/attache/query/Token$Kind;" (.ref c_NUMBER)) (E_c_NUMBER : Exa Z Z.heap c_NUMBER "com/example/attache/attache/query/Token$Kind") (O_c_NUMBER : Fld Z Z.heap c_NUMBER "java/lang/Enum" "ordinal" "I" (.int 2)) (S_c_NAMED_PARAMETER : Sta Z Z.heap "com/example/attache/attache/query/Token$Kind" "NAMED_PARAMETER" "Lcom/example/attache/attache/query/Token$Kind;" (.ref c_NAMED_PARAMETER)) (E_c_NAMED_PARAMETER : Exa Z Z.heap c_NAMED_PARAMETER "com/example/attache/attache/query/Token$Kind") (O_c_NAMED_PARAMETER : Fld Z Z.heap c_NAMED_PARAMETER "java/lang/Enum" "ordinal" "I" (.int 3)) (S_c_POSITIONAL_PARAMETER : Sta Z Z.heap "com/example/attache/attache/query/Token$Kind" "POSITIONAL_PARAMETER" "Lcom/example/attache/attache/query/Token$Kind;" (.ref c_POSITIONAL_PARAMETER)) (E_c_POSITIONAL_PARAMETER : Exa Z Z.heap c_POSITIONAL_PARAMETER "com/example/attache/attache/query/Token$Kind") (O_c_POSITIONAL_PARAMETER : Fld Z Z.heap c_POSITIONAL_PARAMETER "java/lang/Enum" "ordinal" "I" (.int 4)) (S_c_SYMBOL : Sta Z Z.heap "com/example/attache/attache/query/Token$Kind" "SYMBOL" "Lcom/example/attache/attache/query/Token$Kind;" (.ref c_SYMBOL)) (E_c_SYMBOL : Exa Z Z.heap c_SYMBOL "com/example/attache/attache/query/Token$Kind") (O_c_SYMBOL : Fld Z Z.heap c_SYMBOL "java/lang/Enum" "ordinal" "I" (.int 5)) (S_c_END : Sta Z Z.heap "com/example/attache/attache/query/Token$Kind" "END" "Lcom/example/attache/attache/query/Token$Kind;" (.ref c_END)) (E_c_END : Exa Z Z.heap c_END "com/example/attache/attache/query/Token$Kind") (O_c_END : Fld Z Z.heap c_END "java/lang/Enum" "ordinal" "I" (.int 6)) (S_cs : Sta Z Z.heap "java/lang/String" "COMPACT_STRINGS" "Z" (.int cs)) (n_cs : ¬ cs = 0) :
    MetFree l x (head1 (Jvm.Cond.code x code maxLocals ret :: ws) room_1) (fun as' U => as' = #[(.int p0), (.int p1), (.int p2), (.int p3)] ∧ Z.Warmed39 U.vm ∧ U.heap = h0 ∧ CHv Z own_EL U.vm h0) (fun _ _ _ _ _ => True) (fun _ U o U' => ∃ v L, o = .returned v ∧ Q_rm0 Z p0 p1 p2 p3 c_WORD c_STRING c_NUMBER c_NAMED_PARAMETER c_POSITIONAL_PARAMETER c_SYMBOL c_END cs h0 n0 v U'.heap L ∧ CHr Z own_EL U.vm U.heap U'.vm U'.heap ∧ ReturnedEndW U o U' L 4 11) := by
  refine MetFree.of_bodySF (plainFor_of_name pn_87) hisR ?_
  intro p e s m args below meth c s₁ Bd hml0 hP hK
  obtain ⟨rfl, hZ, hh, hH⟩ := hP
  have hx := Bd.exec
  have hby := Bd.bytes
  have hml : c.maxLocals = 9 := hml0
  have hown : s.vm.findClass "com/example/attache/attache/query/TokenIsParameterPinLaw" = some m.cls := findClass_of_methodNamed Bd.named
  have hnm := (name_of_methodNamed Bd.named Bd.method).1
  have X0 : Stand p l e room_1 (s.setVm s.vm) m #[(.int p0), (.int p1), (.int p2), (.int p3)] below meth c s₁ [] 0 0 := Stand.of_body Bd
  have e0 : s₁.heap = h0 := by rw [← hh, Bd.state]; rfl
  have N0 := Fr.nil n0
  have hS0 : s.Since s.vm s.heap.size := (State.WarmedH.refl s).since _
  have hk0 : s.heap.size ≤ h0.size := Nat.le_of_eq (by rw [hh])
  have C0 : CHr Z own_EL s.vm h0 s.vm h0 := CHr.refl hH
  have hEL := own_EW hw
  have hSA := own_SA hw
  refine Go.enter (F := EndW Z own_EL s (Q_rm0 Z p0 p1 p2 p3 c_WORD c_STRING c_NUMBER c_NAMED_PARAMETER c_POSITIONAL_PARAMETER c_SYMBOL c_END cs h0 n0) 4 11) (ef_152 m p0 p1 p2 p3) ?_
  show Go _ _ _ _ s₁ (mkF m 0 #[.val (.int p0), .val (.int p1), .val (.int p2), .val (.int p3), .unset, .unset, .unset, .unset, .unset] [])
  refine Go.by (fun _ gk => XS.iloadN X0.here hx rfl (hb hby at_0) rfl gk) ?_
  show Go _ _ _ _ s₁ (mkF m 1 #[.val (.int p0), .val (.int p1), .val (.int p2), .val (.int p3), .unset, .unset, .unset, .unset, .unset] [(.int p0)])
  refine Go.by (fun _ gk => X0.ldcI hx hown (mvT hZ (hw _ (List.mem_of_getElem? (i := 0) rfl))) (g := (mkF m 1 #[.val (.int p0), .val (.int p1), .val (.int p2), .val (.int p3), .unset, .unset, .unset, .unset, .unset] [(.int p0)])) rfl (hb hby at_1) gk) ?_
  show Go _ _ _ _ s₁ (mkF m 3 #[.val (.int p0), .val (.int p1), .val (.int p2), .val (.int p3), .unset, .unset, .unset, .unset, .unset] [(.int (2147483647 : Int32)), (.int p0)])
  refine Go.by (fun _ gk => XS.iand X0.here hx rfl (hb hby at_3) rfl gk) ?_
  show Go _ _ _ _ s₁ (mkF m 4 #[.val (.int p0), .val (.int p1), .val (.int p2), .val (.int p3), .unset, .unset, .unset, .unset, .unset] [(.int (p0 &&& (2147483647 : Int32)))])
  refine Go.by (fun _ gk => XT.bipushV X0.here hx rfl (7 : Int32) (hb hby at_4) (by decide) gk) ?_
  show Go _ _ _ _ s₁ (mkF m 6 #[.val (.int p0), .val (.int p1), .val (.int p2), .val (.int p3), .unset, .unset, .unset, .unset, .unset] [(.int (7 : Int32)), (.int (p0 &&& (2147483647 : Int32)))])
  refine Go.by (fun _ gk => XS.irem X0.here hx rfl (hb hby at_6) rfl (by decide) gk) ?_
  show Go _ _ _ _ s₁ (mkF m 7 #[.val (.int p0), .val (.int p1), .val (.int p2), .val (.int p3), .unset, .unset, .unset, .unset, .unset] [(.int ((p0 &&& (2147483647 : Int32)) - (p0 &&& (2147483647 : Int32)) / (7 : Int32) * (7 : Int32)))])
  refine Go.by (fun _ gk => XS.istore X0.here hx rfl (hb hby at_7) rfl (l' := #[.val (.int p0), .val (.int p1), .val (.int p2), .val (.int p3), .val (.int ((p0 &&& (2147483647 : Int32)) - (p0 &&& (2147483647 : Int32)) / (7 : Int32) * (7 : Int32))), .unset, .unset, .unset, .unset]) rfl gk) ?_
  show Go _ _ _ _ s₁ (mkF m 9 #[.val (.int p0), .val (.int p1), .val (.int p2), .val (.int p3), .val (.int ((p0 &&& (2147483647 : Int32)) - (p0 &&& (2147483647 : Int32)) / (7 : Int32) * (7 : Int32))), .unset, .unset, .unset, .unset] [])
  obtain ⟨k, h_k⟩ : ∃ z, z = ((p0 &&& (2147483647 : Int32)) - (p0 &&& (2147483647 : Int32)) / (7 : Int32) * (7 : Int32)) := ⟨_, rfl⟩
  rw [← h_k]
  show Go _ _ _ _ s₁ (mkF m 9 #[.val (.int p0), .val (.int p1), .val (.int p2), .val (.int p3), .val (.int k), .unset, .unset, .unset, .unset] [])
  rcases own_mod7 h_k with rfl | rfl | rfl | rfl | rfl | rfl | rfl
  · show Go _ _ _ _ s₁ (mkF m 9 #[.val (.int p0), .val (.int p1), .val (.int p2), .val (.int p3), .val (.int (0 : Int32)), .unset, .unset, .unset, .unset] [])
    refine Go.by (fun _ gk => XT.iconstV X0.here hx rfl (2 : Int32) (hb hby at_9) (by decide) gk) ?_
    show Go _ _ _ _ s₁ (mkF m 10 #[.val (.int p0), .val (.int p1), .val (.int p2), .val (.int p3), .val (.int (0 : Int32)), .unset, .unset, .unset, .unset] [(.int (2 : Int32))])
    obtain ⟨cs_, g1⟩ : ∃ z, z = h0.size := ⟨_, rfl⟩
    have ge_cs_ : n0 ≤ cs_ := Nat.le_trans Z0 (Nat.le_of_eq g1.symm)
    have sz_cs_ : h0.size ≤ cs_ := Nat.le_trans (Keep.refl h0 []).1 (Nat.le_of_eq g1.symm)
    obtain ⟨T1, h1, k1, X1, e1, E1, A1, Ea1, st1⟩ := newPE X0 hx hZ (hw _ (List.mem_of_getElem? (i := 1) rfl)) e0 (g := (mkF m 10 #[.val (.int p0), .val (.int p1), .val (.int p2), .val (.int p3), .val (.int (0 : Int32)), .unset, .unset, .unset, .unset] [(.int (2 : Int32))])) rfl (hb hby at_10) rfl (by decide) (cap := 2) (by decide) (by decide) (by decide) (by decide) (ad := "[C") rfl
    rw [← g1] at A1 Ea1 st1
    have C2 : CHr Z own_EL s.vm h0 s.vm h1 := C0.trans (CHr.ext E1 C0.1)
    have Sf3 : Safe Z own_EL s.vm h1 cs_ := Safe.ext E1 C0.1 (Safe.new (Nat.le_of_eq g1.symm))
    have V_cs_ : Arv Z h1 cs_ k1 .char (2 : Int32) [(.int (0 : Int32)), (.int (0 : Int32))] (.int (0 : Int32)) := (Arv.new A1 (by decide)).pad (pad_rep [] (.int (0 : Int32)) 2)
    refine Go.by st1 ?_
    show Go _ _ _ _ T1 (mkF m 12 #[.val (.int p0), .val (.int p1), .val (.int p2), .val (.int p3), .val (.int (0 : Int32)), .unset, .unset, .unset, .unset] [(.ref cs_)])
    refine Go.by (fun _ gk => XS.astore X1.here hx rfl (hb hby at_12) rfl rfl (l' := #[.val (.int p0), .val (.int p1), .val (.int p2), .val (.int p3), .val (.int (0 : Int32)), .val (.ref cs_), .unset, .unset, .unset]) rfl gk) ?_
    show Go _ _ _ _ T1 (mkF m 14 #[.val (.int p0), .val (.int p1), .val (.int p2), .val (.int p3), .val (.int (0 : Int32)), .val (.ref cs_), .unset, .unset, .unset] [])
    refine Go.by (fun _ gk => XS.aload X1.here hx rfl (hb hby at_14) rfl rfl gk) ?_
    show Go _ _ _ _ T1 (mkF m 16 #[.val (.int p0), .val (.int p1), .val (.int p2), .val (.int p3), .val (.int (0 : Int32)), .val (.ref cs_), .unset, .unset, .unset] [(.ref cs_)])
    refine Go.by (fun _ gk => XT.iconstV X1.here hx rfl (0 : Int32) (hb hby at_16) (by decide) gk) ?_
    show Go _ _ _ _ T1 (mkF m 17 #[.val (.int p0), .val (.int p1), .val (.int p2), .val (.int p3), .val (.int (0 : Int32)), .val (.ref cs_), .unset, .unset, .unset] [(.int (0 : Int32)), (.ref cs_)])
    refine Go.by (fun _ gk => XS.iloadN X1.here hx rfl (hb hby at_17) rfl gk) ?_
    show Go _ _ _ _ T1 (mkF m 18 #[.val (.int p0), .val (.int p1), .val (.int p2), .val (.int p3), .val (.int (0 : Int32)), .val (.ref cs_), .unset, .unset, .unset] [(.int p1), (.int (0 : Int32)), (.ref cs_)])
    refine Go.by (fun _ gk => XT.sipushV X1.here hx rfl (255 : Int32) (hb hby at_18) (by decide) gk) ?_
    show Go _ _ _ _ T1 (mkF m 21 #[.val (.int p0), .val (.int p1), .val (.int p2), .val (.int p3), .val (.int (0 : Int32)), .val (.ref cs_), .unset, .unset, .unset] [(.int (255 : Int32)), (.int p1), (.int (0 : Int32)), (.ref cs_)])
    refine Go.by (fun _ gk => XS.iand X1.here hx rfl (hb hby at_21) rfl gk) ?_
    show Go _ _ _ _ T1 (mkF m 22 #[.val (.int p0), .val (.int p1), .val (.int p2), .val (.int p3), .val (.int (0 : Int32)), .val (.ref cs_), .unset, .unset, .unset] [(.int (p1 &&& (255 : Int32))), (.int (0 : Int32)), (.ref cs_)])
    refine Go.by (fun _ gk => XT.i2c X1.here hx rfl (hb hby at_22) rfl gk) ?_
    show Go _ _ _ _ T1 (mkF m 23 #[.val (.int p0), .val (.int p1), .val (.int p2), .val (.int p3), .val (.int (0 : Int32)), .val (.ref cs_), .unset, .unset, .unset] [(.int ((p1 &&& (255 : Int32)).toUInt32.toUInt16.toUInt32.toInt32)), (.int (0 : Int32)), (.ref cs_)])
    rw [i2c_mask]
    show Go _ _ _ _ T1 (mkF m 23 #[.val (.int p0), .val (.int p1), .val (.int p2), .val (.int p3), .val (.int (0 : Int32)), .val (.ref cs_), .unset, .unset, .unset] [(.int (p1 &&& (255 : Int32))), (.int (0 : Int32)), (.ref cs_)])
    obtain ⟨cl4, Ar4, q4, S4, M4, H4, G4⟩ := id V_cs_
    have hin4 : ¬ ((0 : Int32) < 0 ∨ cl4.slots.size ≤ (0 : Int32).toNatClampNeg) := inb_of S4 ⟨by decide, by decide⟩
    obtain ⟨T4, h4, X4, e4, W4, st4⟩ := stC X1 hx hZ e1 Ar4 (j := (0 : Int32)) hin4 (g := (mkF m 23 #[.val (.int p0), .val (.int p1), .val (.int p2), .val (.int p3), .val (.int (0 : Int32)), .val (.ref cs_), .unset, .unset, .unset] [(.int (p1 &&& (255 : Int32))), (.int (0 : Int32)), (.ref cs_)])) rfl rfl (hb hby at_23)
    have C5 : CHr Z own_EL s.vm h0 s.vm h4 := C2.trans (CHr.wr W4 Sf3 C2.1)
    have Sf6 : Safe Z own_EL s.vm h4 cs_ := Safe.wr W4 Sf3 C2.1 Sf3
    have N4 := Fr.snoc X4 N0 ge_cs_
    have V4 : Arv Z h4 cs_ k1 .char (2 : Int32) [(.int (nar .char (p1 &&& (255 : Int32)))), (.int (0 : Int32))] (.int (0 : Int32)) := Arv.set Ar4 q4 S4 M4 H4 G4 (fits_nar_char _) W4 0 rfl (Nat.le_of_ble_eq_true rfl)
    refine Go.by st4 ?_
    show Go _ _ _ _ T4 (mkF m 24 #[.val (.int p0), .val (.int p1), .val (.int p2), .val (.int p3), .val (.int (0 : Int32)), .val (.ref cs_), .unset, .unset, .unset] [])
    rw [own_nc] at V4
    refine Go.by (fun _ gk => XS.aload X4.here hx rfl (hb hby at_24) rfl rfl gk) ?_
    show Go _ _ _ _ T4 (mkF m 26 #[.val (.int p0), .val (.int p1), .val (.int p2), .val (.int p3), .val (.int (0 : Int32)), .val (.ref cs_), .unset, .unset, .unset] [(.ref cs_)])
    refine Go.by (fun _ gk => XT.iconstV X4.here hx rfl (1 : Int32) (hb hby at_26) (by decide) gk) ?_
    show Go _ _ _ _ T4 (mkF m 27 #[.val (.int p0), .val (.int p1), .val (.int p2), .val (.int p3), .val (.int (0 : Int32)), .val (.ref cs_), .unset, .unset, .unset] [(.int (1 : Int32)), (.ref cs_)])
    refine Go.by (fun _ gk => XS.iloadN X4.here hx rfl (hb hby at_27) rfl gk) ?_
    show Go _ _ _ _ T4 (mkF m 28 #[.val (.int p0), .val (.int p1), .val (.int p2), .val (.int p3), .val (.int (0 : Int32)), .val (.ref cs_), .unset, .unset, .unset] [(.int p1), (.int (1 : Int32)), (.ref cs_)])
    refine Go.by (fun _ gk => XT.bipushV X4.here hx rfl (8 : Int32) (hb hby at_28) (by decide) gk) ?_
    show Go _ _ _ _ T4 (mkF m 30 #[.val (.int p0), .val (.int p1), .val (.int p2), .val (.int p3), .val (.int (0 : Int32)), .val (.ref cs_), .unset, .unset, .unset] [(.int (8 : Int32)), (.int p1), (.int (1 : Int32)), (.ref cs_)])
    refine Go.by (fun _ gk => XT.iushr X4.here hx rfl (hb hby at_30) rfl gk) ?_
    show Go _ _ _ _ T4 (mkF m 31 #[.val (.int p0), .val (.int p1), .val (.int p2), .val (.int p3), .val (.int (0 : Int32)), .val (.ref cs_), .unset, .unset, .unset] [(.int (XT.ushr p1 (8 : Int32))), (.int (1 : Int32)), (.ref cs_)])
    refine Go.by (fun _ gk => XT.sipushV X4.here hx rfl (255 : Int32) (hb hby at_31) (by decide) gk) ?_
    show Go _ _ _ _ T4 (mkF m 34 #[.val (.int p0), .val (.int p1), .val (.int p2), .val (.int p3), .val (.int (0 : Int32)), .val (.ref cs_), .unset, .unset, .unset] [(.int (255 : Int32)), (.int (XT.ushr p1 (8 : Int32))), (.int (1 : Int32)), (.ref cs_)])
    refine Go.by (fun _ gk => XS.iand X4.here hx rfl (hb hby at_34) rfl gk) ?_
    show Go _ _ _ _ T4 (mkF m 35 #[.val (.int p0), .val (.int p1), .val (.int p2), .val (.int p3), .val (.int (0 : Int32)), .val (.ref cs_), .unset, .unset, .unset] [(.int ((XT.ushr p1 (8 : Int32)) &&& (255 : Int32))), (.int (1 : Int32)), (.ref cs_)])
    refine Go.by (fun _ gk => XT.i2c X4.here hx rfl (hb hby at_35) rfl gk) ?_
    show Go _ _ _ _ T4 (mkF m 36 #[.val (.int p0), .val (.int p1), .val (.int p2), .val (.int p3), .val (.int (0 : Int32)), .val (.ref cs_), .unset, .unset, .unset] [(.int (((XT.ushr p1 (8 : Int32)) &&& (255 : Int32)).toUInt32.toUInt16.toUInt32.toInt32)), (.int (1 : Int32)), (.ref cs_)])
    rw [i2c_mask]
    show Go _ _ _ _ T4 (mkF m 36 #[.val (.int p0), .val (.int p1), .val (.int p2), .val (.int p3), .val (.int (0 : Int32)), .val (.ref cs_), .unset, .unset, .unset] [(.int ((XT.ushr p1 (8 : Int32)) &&& (255 : Int32))), (.int (1 : Int32)), (.ref cs_)])
    obtain ⟨cl7, Ar7, q7, S7, M7, H7, G7⟩ := id V4
    have hin7 : ¬ ((1 : Int32) < 0 ∨ cl7.slots.size ≤ (1 : Int32).toNatClampNeg) := inb_of S7 ⟨by decide, by decide⟩
    obtain ⟨T7, h7, X7, e7, W7, st7⟩ := stC X4 hx hZ e4 Ar7 (j := (1 : Int32)) hin7 (g := (mkF m 36 #[.val (.int p0), .val (.int p1), .val (.int p2), .val (.int p3), .val (.int (0 : Int32)), .val (.ref cs_), .unset, .unset, .unset] [(.int ((XT.ushr p1 (8 : Int32)) &&& (255 : Int32))), (.int (1 : Int32)), (.ref cs_)])) rfl rfl (hb hby at_36)
    have C8 : CHr Z own_EL s.vm h0 s.vm h7 := C5.trans (CHr.wr W7 Sf6 C5.1)
    have Sf9 : Safe Z own_EL s.vm h7 cs_ := Safe.wr W7 Sf6 C5.1 Sf6
    have N7 := Fr.snoc X7 N4 ge_cs_
    have V7 : Arv Z h7 cs_ k1 .char (2 : Int32) [(.int (p1 &&& (255 : Int32))), (.int (nar .char ((XT.ushr p1 (8 : Int32)) &&& (255 : Int32))))] (.int (0 : Int32)) := Arv.set Ar7 q7 S7 M7 H7 G7 (fits_nar_char _) W7 1 rfl (Nat.le_of_ble_eq_true rfl)
    refine Go.by st7 ?_
    show Go _ _ _ _ T7 (mkF m 37 #[.val (.int p0), .val (.int p1), .val (.int p2), .val (.int p3), .val (.int (0 : Int32)), .val (.ref cs_), .unset, .unset, .unset] [])
    rw [own_nc] at V7
    refine Go.by (fun _ gk => XS.iloadN X7.here hx rfl (hb hby at_37) rfl gk) ?_
    show Go _ _ _ _ T7 (mkF m 38 #[.val (.int p0), .val (.int p1), .val (.int p2), .val (.int p3), .val (.int (0 : Int32)), .val (.ref cs_), .unset, .unset, .unset] [(.int p3)])
    refine Go.by (fun _ gk => XT.iconstV X7.here hx rfl (1 : Int32) (hb hby at_38) (by decide) gk) ?_
    show Go _ _ _ _ T7 (mkF m 39 #[.val (.int p0), .val (.int p1), .val (.int p2), .val (.int p3), .val (.int (0 : Int32)), .val (.ref cs_), .unset, .unset, .unset] [(.int (1 : Int32)), (.int p3)])
    refine Go.by (fun _ gk => XS.iand X7.here hx rfl (hb hby at_39) rfl gk) ?_
    show Go _ _ _ _ T7 (mkF m 40 #[.val (.int p0), .val (.int p1), .val (.int p2), .val (.int p3), .val (.int (0 : Int32)), .val (.ref cs_), .unset, .unset, .unset] [(.int (p3 &&& (1 : Int32)))])
    by_cases hb10 : (p3 &&& (1 : Int32)) = 0
    · refine Go.by (fun _ gk => XS.ifYes X7.here hx rfl (pc0 := 40) (pc' := 55) rfl (hb hby at_40) rfl (XT.i0_eq_t hb10) (by decide) (by decide) gk) ?_
      show Go _ _ _ _ T7 (mkF m 55 #[.val (.int p0), .val (.int p1), .val (.int p2), .val (.int p3), .val (.int (0 : Int32)), .val (.ref cs_), .unset, .unset, .unset] [])
      have F12 : s.heap.size ≤ h1.size := Nat.le_trans hk0 E1.1
      have F13 : s.heap.size ≤ h4.size := Nat.le_trans F12 (Nat.le_of_eq (Wr.size W4).symm)
      have F14 : s.heap.size ≤ h7.size := Nat.le_trans F13 (Nat.le_of_eq (Wr.size W7).symm)
      have F15 : Exa Z h4 cs_ "[C" := Ea1.wr W4
      have F16 : Exa Z h7 cs_ "[C" := F15.wr W7
      obtain ⟨st, T11, h11, kq11, X11, e11, E11, hS11, hk11, hZ11, hown11, CH11, -, st11⟩ := ldcOH X7 hx hZ hown (hw _ (List.mem_of_getElem? (i := 65) rfl)) hSA e7 hS0 F14 hEL C8.1 (g := (mkF m 55 #[.val (.int p0), .val (.int p1), .val (.int p2), .val (.int p3), .val (.int (0 : Int32)), .val (.ref cs_), .unset, .unset, .unset] [])) rfl (hb hby at_55) (n := 0) (by decide) (by decide) (by decide) (by decide)
      have C17 : CHr Z own_EL s.vm h0 T11.vm h11 := C8.trans CH11
      have Sf18 : Safe Z own_EL T11.vm h11 cs_ := CH11.safe F16.lt Sf9
      refine Go.by st11 ?_
      show Go _ _ _ _ T11 (mkF m 57 #[.val (.int p0), .val (.int p1), .val (.int p2), .val (.int p3), .val (.int (0 : Int32)), .val (.ref cs_), .unset, .unset, .unset] [(.ref st)])
      refine Go.by (fun _ gk => XS.astore X11.here hx rfl (hb hby at_57) rfl rfl (l' := #[.val (.int p0), .val (.int p1), .val (.int p2), .val (.int p3), .val (.int (0 : Int32)), .val (.ref cs_), .val (.ref st), .unset, .unset]) rfl gk) ?_
      show Go _ _ _ _ T11 (mkF m 59 #[.val (.int p0), .val (.int p1), .val (.int p2), .val (.int p3), .val (.int (0 : Int32)), .val (.ref cs_), .val (.ref st), .unset, .unset] [])
      have F20 : n0 ≤ h1.size := Nat.le_trans Z0 E1.1
      have F21 : n0 ≤ h4.size := Nat.le_trans F20 (Nat.le_of_eq (Wr.size W4).symm)
      have F22 : n0 ≤ h7.size := Nat.le_trans F21 (Nat.le_of_eq (Wr.size W7).symm)
      have F23 : n0 ≤ h11.size := Nat.le_trans F22 E11.1
      obtain ⟨t, g19⟩ : ∃ z, z = h11.size := ⟨_, rfl⟩
      have ge_t : n0 ≤ t := Nat.le_trans F23 (Nat.le_of_eq g19.symm)
      have F24 : Keep h0 h1 [] := (Keep.refl h0 []).ext E1
      have F25 : Keep h0 h4 [] := F24.wr W4 (Or.inr sz_cs_)
      have F26 : Keep h0 h7 [] := F25.wr W7 (Or.inr sz_cs_)
      have F27 : Keep h0 h11 [] := F26.ext E11
      have sz_t : h0.size ≤ t := Nat.le_trans F27.1 (Nat.le_of_eq g19.symm)
      have F28 : Exa Z h11 cs_ "[C" := F16.ext E11
      have ne_cs__t : cs_ ≠ t := Nat.ne_of_lt (Nat.lt_of_lt_of_le F28.lt (Nat.le_of_eq g19.symm))
      obtain ⟨T19, h19, X19, e19, E19, A19, D19, -, st19⟩ := newO X11 hx hZ11 hown11 (hw _ (List.mem_of_getElem? (i := 31) rfl)) (hw _ (List.mem_of_getElem? (i := 32) rfl)) (hw _ (List.mem_of_getElem? (i := 33) rfl)) e11 (g := (mkF m 59 #[.val (.int p0), .val (.int p1), .val (.int p2), .val (.int p3), .val (.int (0 : Int32)), .val (.ref cs_), .val (.ref st), .unset, .unset] [])) rfl (hb hby at_59) (by decide) (by decide)
      rw [← g19] at A19 D19 st19
      have C29 : CHr Z own_EL s.vm h0 T11.vm h19 := C17.trans (CHr.ext E19 C17.1)
      have Sf30 : Safe Z own_EL T11.vm h19 cs_ := Safe.ext E19 C17.1 Sf18
      have Sf31 : Safe Z own_EL T11.vm h19 t := Safe.ext E19 C17.1 (Safe.new (Nat.le_of_eq g19.symm))
      have F_kind_t : Fld Z h19 t "com/example/attache/attache/query/Token" "kind" "Lcom/example/attache/attache/query/Token$Kind;" .null := D19 (Or.inr (hw _ (List.mem_of_getElem? (i := 51) rfl))) (ty := (.object "com/example/attache/attache/query/Token$Kind")) (by decide)
      have F_text_t : Fld Z h19 t "com/example/attache/attache/query/Token" "text" "Ljava/lang/String;" .null := D19 (Or.inr (hw _ (List.mem_of_getElem? (i := 53) rfl))) (ty := (.object "java/lang/String")) (by decide)
      have F_position_t : Fld Z h19 t "com/example/attache/attache/query/Token" "position" "I" (.int (0 : Int32)) := D19 (Or.inr (hw _ (List.mem_of_getElem? (i := 55) rfl))) (ty := .int) (by decide)
      refine Go.by st19 ?_
      show Go _ _ _ _ T19 (mkF m 62 #[.val (.int p0), .val (.int p1), .val (.int p2), .val (.int p3), .val (.int (0 : Int32)), .val (.ref cs_), .val (.ref st), .unset, .unset] [(.ref t)])
      refine Go.by (fun _ gk => XS.dup X19.here hx rfl (hb hby at_62) rfl rfl gk) ?_
      show Go _ _ _ _ T19 (mkF m 63 #[.val (.int p0), .val (.int p1), .val (.int p2), .val (.int p3), .val (.int (0 : Int32)), .val (.ref cs_), .val (.ref st), .unset, .unset] [(.ref t), (.ref t)])
      refine Go.by (fun _ gk => XS.iload X19.here hx rfl (hb hby at_63) rfl gk) ?_
      show Go _ _ _ _ T19 (mkF m 65 #[.val (.int p0), .val (.int p1), .val (.int p2), .val (.int p3), .val (.int (0 : Int32)), .val (.ref cs_), .val (.ref st), .unset, .unset] [(.int (0 : Int32)), (.ref t), (.ref t)])
      have F32 : Old Z n0 h1 := O0.ext E1
      have F33 : Old Z n0 h4 := F32.wr W4 ge_cs_
      have F34 : Old Z n0 h7 := F33.wr W7 ge_cs_
      have F35 : Old Z n0 h11 := F34.ext E11
      have F36 : Old Z n0 h19 := F35.ext E19
      have F37 : n0 ≤ h19.size := Nat.le_trans F23 E19.1
      obtain ⟨_, _, ⟨T38, L38, k38, n38⟩, -, X38, ⟨Lc38, hQ38, l38, y38, z38⟩, st38⟩ := Jvm.LawKit.callS X19 hx (y := (⟨"com/example/attache/attache/query/TokenIsParameterPinLaw", "kindOf", "(I)Lcom/example/attache/attache/query/Token$Kind;"⟩ : MethodName)) hown11 (mvT hZ11 (hw _ (List.mem_of_getElem? (i := 34) rfl))) (mvT hZ11 (hw _ (List.mem_of_getElem? (i := 35) rfl))) (mvT hZ11 (hw _ (List.mem_of_getElem? (i := 36) rfl))) (mvT hZ11 (hw _ (List.mem_of_getElem? (i := 37) rfl))) (by decide) (backOf (W := 2) (rmKind l Z a0 hw [] (0 : Int32) c_WORD c_WORD c_STRING c_NUMBER c_NAMED_PARAMETER c_POSITIONAL_PARAMETER c_SYMBOL c_END h19 n0 F37 F36 (Or.inl ⟨rfl, rfl⟩) S_c_WORD E_c_WORD O_c_WORD S_c_STRING E_c_STRING O_c_STRING S_c_NUMBER E_c_NUMBER O_c_NUMBER S_c_NAMED_PARAMETER E_c_NAMED_PARAMETER O_c_NAMED_PARAMETER S_c_POSITIONAL_PARAMETER E_c_POSITIONAL_PARAMETER O_c_POSITIONAL_PARAMETER S_c_SYMBOL E_c_SYMBOL O_c_SYMBOL S_c_END E_c_END O_c_END) hZ11 (hw _ (List.mem_of_getElem? (i := 37) rfl)) (hw _ (List.mem_of_getElem? (i := 36) rfl)) (by decide) (by decide)) (g := (mkF m 65 #[.val (.int p0), .val (.int p1), .val (.int p2), .val (.int p3), .val (.int (0 : Int32)), .val (.ref cs_), .val (.ref st), .unset, .unset] [(.int (0 : Int32)), (.ref t), (.ref t)])) rfl (by rw [hml]; rfl) (argsL := [(.int (0 : Int32))]) (rest := [(.ref t), (.ref t)]) (lenOf pd_153 rfl) rfl (by show 2 * 0 + _ ≤ _; exact Nat.le_of_eq rfl) (hb hby at_65) (fun _ _ => ⟨rfl, e19, (by decide : 4 + 0 ≤ _), (by decide : 9 + 0 ≤ _)⟩)
      dsimp only [Pt.U, Pt.locs, Pt.cells, Pt.slots] at X38 l38 y38 z38 st38 hQ38
      subst l38 y38 z38
      obtain ⟨rfl, N38q, e38⟩ := hQ38
      have N38 := Fr.app N7 N38q
      refine Go.by st38 ?_
      show Go _ _ _ _ T38 (mkF m 68 #[.val (.int p0), .val (.int p1), .val (.int p2), .val (.int p3), .val (.int (0 : Int32)), .val (.ref cs_), .val (.ref st), .unset, .unset] [(.ref c_WORD), (.ref t), (.ref t)])
      refine Go.by (fun _ gk => XS.aload X38.here hx rfl (hb hby at_68) rfl rfl gk) ?_
      show Go _ _ _ _ T38 (mkF m 70 #[.val (.int p0), .val (.int p1), .val (.int p2), .val (.int p3), .val (.int (0 : Int32)), .val (.ref cs_), .val (.ref st), .unset, .unset] [(.ref st), (.ref c_WORD), (.ref t), (.ref t)])
      refine Go.by (fun _ gk => XS.iloadN X38.here hx rfl (hb hby at_70) rfl gk) ?_
      show Go _ _ _ _ T38 (mkF m 71 #[.val (.int p0), .val (.int p1), .val (.int p2), .val (.int p3), .val (.int (0 : Int32)), .val (.ref cs_), .val (.ref st), .unset, .unset] [(.int p2), (.ref st), (.ref c_WORD), (.ref t), (.ref t)])
      obtain ⟨_, _, ⟨T39, L39, k39, n39⟩, -, X39, ⟨Lc39, hQ39, l39, y39, z39⟩, st39⟩ := X38.specialBack hx (y := (⟨"com/example/attache/attache/query/Token", "<init>", "(Lcom/example/attache/attache/query/Token$Kind;Ljava/lang/String;I)V"⟩ : MethodName)) rfl hown11 (mvT hZ11 (hw _ (List.mem_of_getElem? (i := 41) rfl))) (mvT hZ11 (hw _ (List.mem_of_getElem? (i := 42) rfl))) (mvT hZ11 (hw _ (List.mem_of_getElem? (i := 43) rfl))) (by decide) (backOf (W := 1) (rmToken l Z a0 hw [] t c_WORD st p2 h19 n0 F37 A19 F_kind_t F_text_t F_position_t ge_t) hZ11 (hw _ (List.mem_of_getElem? (i := 43) rfl)) (hw _ (List.mem_of_getElem? (i := 33) rfl)) (by decide) (by decide)) (g := (mkF m 71 #[.val (.int p0), .val (.int p1), .val (.int p2), .val (.int p3), .val (.int (0 : Int32)), .val (.ref cs_), .val (.ref st), .unset, .unset] [(.int p2), (.ref st), (.ref c_WORD), (.ref t), (.ref t)])) rfl (by rw [hml]; rfl) (Steps.refl _) (a := t) (argsL := [(.ref c_WORD), (.ref st), (.int p2)]) (rest := [(.ref t)]) (lenOf pd_154 rfl) rfl (by show 2 * 0 + _ ≤ _; exact Nat.le_of_eq rfl) (hb hby at_71) (fun _ _ => ⟨rfl, e38, (by decide : 4 + 0 ≤ _), (by decide : 9 + 0 ≤ _)⟩)
      dsimp only [Pt.U, Pt.locs, Pt.cells, Pt.slots] at X39 l39 y39 z39 st39 hQ39
      subst l39 y39 z39
      obtain ⟨rfl, N39q, K39, Q39_0, Q39_1⟩ := hQ39
      have N39 := Fr.app N38 N39q
      have C40 : CHr Z own_EL s.vm h0 T11.vm T39.heap := C29.trans (CHr.keep K39 (sfS Sf31 sf0) C29.1)
      have Sf41 : Safe Z own_EL T11.vm T39.heap cs_ := Safe.keep K39 (sfS Sf31 sf0) C29.1 Sf30
      have Sf42 : Safe Z own_EL T11.vm T39.heap t := Safe.keep K39 (sfS Sf31 sf0) C29.1 Sf31
      refine Go.to st39 ?_
      show Go _ _ _ _ T39 (mkF m 74 #[.val (.int p0), .val (.int p1), .val (.int p2), .val (.int p3), .val (.int (0 : Int32)), .val (.ref cs_), .val (.ref st), .unset, .unset] [(.ref t)])
      refine Go.by (fun _ gk => XS.astore X39.here hx rfl (hb hby at_74) rfl rfl (l' := #[.val (.int p0), .val (.int p1), .val (.int p2), .val (.int p3), .val (.int (0 : Int32)), .val (.ref cs_), .val (.ref st), .val (.ref t), .unset]) rfl gk) ?_
      show Go _ _ _ _ T39 (mkF m 76 #[.val (.int p0), .val (.int p1), .val (.int p2), .val (.int p3), .val (.int (0 : Int32)), .val (.ref cs_), .val (.ref st), .val (.ref t), .unset] [])
      refine Go.by (fun _ gk => XS.iload X39.here hx rfl (hb hby at_76) rfl gk) ?_
      show Go _ _ _ _ T39 (mkF m 78 #[.val (.int p0), .val (.int p1), .val (.int p2), .val (.int p3), .val (.int (0 : Int32)), .val (.ref cs_), .val (.ref st), .val (.ref t), .unset] [(.int (0 : Int32))])
      refine Go.by (fun _ gk => XT.iconstV X39.here hx rfl (3 : Int32) (hb hby at_78) (by decide) gk) ?_
      show Go _ _ _ _ T39 (mkF m 79 #[.val (.int p0), .val (.int p1), .val (.int p2), .val (.int p3), .val (.int (0 : Int32)), .val (.ref cs_), .val (.ref st), .val (.ref t), .unset] [(.int (3 : Int32)), (.int (0 : Int32))])
      refine Go.by (fun _ gk => XS.icmpNo X39.here hx rfl (hb hby at_79) rfl (XT.ii_eq_f (by decide)) gk) ?_
      show Go _ _ _ _ T39 (mkF m 82 #[.val (.int p0), .val (.int p1), .val (.int p2), .val (.int p3), .val (.int (0 : Int32)), .val (.ref cs_), .val (.ref st), .val (.ref t), .unset] [])
      refine Go.by (fun _ gk => XS.iload X39.here hx rfl (hb hby at_82) rfl gk) ?_
      show Go _ _ _ _ T39 (mkF m 84 #[.val (.int p0), .val (.int p1), .val (.int p2), .val (.int p3), .val (.int (0 : Int32)), .val (.ref cs_), .val (.ref st), .val (.ref t), .unset] [(.int (0 : Int32))])
      refine Go.by (fun _ gk => XT.iconstV X39.here hx rfl (4 : Int32) (hb hby at_84) (by decide) gk) ?_
      show Go _ _ _ _ T39 (mkF m 85 #[.val (.int p0), .val (.int p1), .val (.int p2), .val (.int p3), .val (.int (0 : Int32)), .val (.ref cs_), .val (.ref st), .val (.ref t), .unset] [(.int (4 : Int32)), (.int (0 : Int32))])
      refine Go.by (fun _ gk => XS.icmpYes X39.here hx rfl (pc0 := 85) (pc' := 92) rfl (hb hby at_85) rfl (XT.ii_ne_t (by decide)) (by decide) (by decide) gk) ?_
      show Go _ _ _ _ T39 (mkF m 92 #[.val (.int p0), .val (.int p1), .val (.int p2), .val (.int p3), .val (.int (0 : Int32)), .val (.ref cs_), .val (.ref st), .val (.ref t), .unset] [])
      refine Go.by (fun _ gk => XT.iconstV X39.here hx rfl (0 : Int32) (hb hby at_92) (by decide) gk) ?_
      show Go _ _ _ _ T39 (mkF m 93 #[.val (.int p0), .val (.int p1), .val (.int p2), .val (.int p3), .val (.int (0 : Int32)), .val (.ref cs_), .val (.ref st), .val (.ref t), .unset] [(.int (0 : Int32))])
      refine Go.by (fun _ gk => XS.istore X39.here hx rfl (hb hby at_93) rfl (l' := #[.val (.int p0), .val (.int p1), .val (.int p2), .val (.int p3), .val (.int (0 : Int32)), .val (.ref cs_), .val (.ref st), .val (.ref t), .val (.int (0 : Int32))]) rfl gk) ?_
      show Go _ _ _ _ T39 (mkF m 95 #[.val (.int p0), .val (.int p1), .val (.int p2), .val (.int p3), .val (.int (0 : Int32)), .val (.ref cs_), .val (.ref st), .val (.ref t), .val (.int (0 : Int32))] [])
      refine Go.by (fun _ gk => XS.aload X39.here hx rfl (hb hby at_95) rfl rfl gk) ?_
      show Go _ _ _ _ T39 (mkF m 97 #[.val (.int p0), .val (.int p1), .val (.int p2), .val (.int p3), .val (.int (0 : Int32)), .val (.ref cs_), .val (.ref st), .val (.ref t), .val (.int (0 : Int32))] [(.ref t)])
      have F43 : Old Z n0 T39.heap := F36.keep K39 (allS ge_t all0)
      have F44 : n0 ≤ T39.heap.size := Nat.le_trans F37 K39.1
      obtain ⟨cq45, kq45, q45a, q45b, q45c⟩ := isOf hZ11 rfl Q39_0
      obtain ⟨_, _, ⟨T45, L45, k45, n45⟩, -, X45, ⟨Lc45, hQ45, l45, y45, z45⟩, st45⟩ := X39.virtualBack hx (y := (⟨"com/example/attache/attache/query/Token", "isParameter", "()Z"⟩ : MethodName)) (z := (⟨"com/example/attache/attache/query/Token", "isParameter", "()Z"⟩ : MethodName)) hown11 (mvT hZ11 (hw _ (List.mem_of_getElem? (i := 56) rfl))) (mvT hZ11 (hw _ (List.mem_of_getElem? (i := 57) rfl))) (notFace_of_selects (args := #[]) (mvT hZ11 (hw _ (List.mem_of_getElem? (i := 59) rfl)))) (mvT hZ11 (hw _ (List.mem_of_getElem? (i := 59) rfl))) (mvT hZ11 (hw _ (List.mem_of_getElem? (i := 58) rfl))) (by decide) (backOf (W := 0) (rmIsP l Z a0 hw [] t c_WORD (0 : Int32) c_WORD c_STRING c_NUMBER c_NAMED_PARAMETER c_POSITIONAL_PARAMETER c_SYMBOL c_END T39.heap n0 F44 F43 Q39_1 (Or.inl ⟨rfl, rfl⟩) S_c_WORD E_c_WORD O_c_WORD S_c_STRING E_c_STRING O_c_STRING S_c_NUMBER E_c_NUMBER O_c_NUMBER S_c_NAMED_PARAMETER E_c_NAMED_PARAMETER O_c_NAMED_PARAMETER S_c_POSITIONAL_PARAMETER E_c_POSITIONAL_PARAMETER O_c_POSITIONAL_PARAMETER S_c_SYMBOL E_c_SYMBOL O_c_SYMBOL S_c_END E_c_END O_c_END) hZ11 (hw _ (List.mem_of_getElem? (i := 60) rfl)) (hw _ (List.mem_of_getElem? (i := 33) rfl)) (by decide) (by decide)) q45a q45c (g := (mkF m 97 #[.val (.int p0), .val (.int p1), .val (.int p2), .val (.int p3), .val (.int (0 : Int32)), .val (.ref cs_), .val (.ref st), .val (.ref t), .val (.int (0 : Int32))] [(.ref t)])) rfl (by rw [hml]; rfl) (Steps.refl _) (argsL := []) (rest := []) (lenOf pd_155 rfl) rfl (by show 2 * 0 + _ ≤ _; exact Nat.le_of_eq rfl) (hb hby at_97) (fun _ _ => ⟨rfl, rfl, (by decide : 4 + 0 ≤ _), (by decide : 9 + 0 ≤ _)⟩)
      dsimp only [Pt.U, Pt.locs, Pt.cells, Pt.slots] at X45 l45 y45 z45 st45 hQ45
      subst l45 y45 z45
      obtain ⟨rfl, N45q, e45⟩ := hQ45
      have N45 := Fr.app N39 N45q
      refine Go.to st45 ?_
      show Go _ _ _ _ T45 (mkF m 100 #[.val (.int p0), .val (.int p1), .val (.int p2), .val (.int p3), .val (.int (0 : Int32)), .val (.ref cs_), .val (.ref st), .val (.ref t), .val (.int (0 : Int32))] [(.int (0 : Int32))])
      refine Go.by (fun _ gk => XS.iload X45.here hx rfl (hb hby at_100) rfl gk) ?_
      show Go _ _ _ _ T45 (mkF m 102 #[.val (.int p0), .val (.int p1), .val (.int p2), .val (.int p3), .val (.int (0 : Int32)), .val (.ref cs_), .val (.ref st), .val (.ref t), .val (.int (0 : Int32))] [(.int (0 : Int32)), (.int (0 : Int32))])
      refine Go.by (fun _ gk => XS.icmpNo X45.here hx rfl (hb hby at_102) rfl (XT.ii_ne_f rfl) gk) ?_
      show Go _ _ _ _ T45 (mkF m 105 #[.val (.int p0), .val (.int p1), .val (.int p2), .val (.int p3), .val (.int (0 : Int32)), .val (.ref cs_), .val (.ref st), .val (.ref t), .val (.int (0 : Int32))] [])
      refine Go.by (fun _ gk => XT.iconstV X45.here hx rfl (1 : Int32) (hb hby at_105) (by decide) gk) ?_
      show Go _ _ _ _ T45 (mkF m 106 #[.val (.int p0), .val (.int p1), .val (.int p2), .val (.int p3), .val (.int (0 : Int32)), .val (.ref cs_), .val (.ref st), .val (.ref t), .val (.int (0 : Int32))] [(.int (1 : Int32))])
      refine Go.by (fun _ gk => XS.goto X45.here hx rfl (pc0 := 106) (pc' := 110) rfl (hb hby at_106) (by decide) (by decide) gk) ?_
      show Go _ _ _ _ T45 (mkF m 110 #[.val (.int p0), .val (.int p1), .val (.int p2), .val (.int p3), .val (.int (0 : Int32)), .val (.ref cs_), .val (.ref st), .val (.ref t), .val (.int (0 : Int32))] [(.int (1 : Int32))])
      have F46 : kq11 ≤ h19.size := Nat.le_trans hk11 E19.1
      have F47 : kq11 ≤ T39.heap.size := Nat.le_trans F46 K39.1
      exact Go.retIW X45 hx Bd.notSynchronized hS11 (by rw [e45]; exact F47) hZ11 hEL (by rw [hh, e45]; exact C40) Bd.returns rfl (by simp) (hb hby at_110) (by rw [e45]; exact ⟨rfl, N45⟩) (by decide) (by decide)
    · refine Go.by (fun _ gk => XS.ifNo X7.here hx rfl (hb hby at_40) rfl (XT.i0_eq_f hb10) gk) ?_
      show Go _ _ _ _ T7 (mkF m 43 #[.val (.int p0), .val (.int p1), .val (.int p2), .val (.int p3), .val (.int (0 : Int32)), .val (.ref cs_), .unset, .unset, .unset] [])
      have F49 : n0 ≤ h1.size := Nat.le_trans Z0 E1.1
      have F50 : n0 ≤ h4.size := Nat.le_trans F49 (Nat.le_of_eq (Wr.size W4).symm)
      have F51 : n0 ≤ h7.size := Nat.le_trans F50 (Nat.le_of_eq (Wr.size W7).symm)
      obtain ⟨st, g48⟩ : ∃ z, z = h7.size := ⟨_, rfl⟩
      have ge_st : n0 ≤ st := Nat.le_trans F51 (Nat.le_of_eq g48.symm)
      have F52 : Keep h0 h1 [] := (Keep.refl h0 []).ext E1
      have F53 : Keep h0 h4 [] := F52.wr W4 (Or.inr sz_cs_)
      have F54 : Keep h0 h7 [] := F53.wr W7 (Or.inr sz_cs_)
      have sz_st : h0.size ≤ st := Nat.le_trans F54.1 (Nat.le_of_eq g48.symm)
      have F55 : Exa Z h4 cs_ "[C" := Ea1.wr W4
      have F56 : Exa Z h7 cs_ "[C" := F55.wr W7
      have ne_cs__st : cs_ ≠ st := Nat.ne_of_lt (Nat.lt_of_lt_of_le F56.lt (Nat.le_of_eq g48.symm))
      obtain ⟨T48, h48, X48, e48, E48, A48, D48, -, st48⟩ := newO X7 hx hZ hown (hw _ (List.mem_of_getElem? (i := 2) rfl)) (hw _ (List.mem_of_getElem? (i := 3) rfl)) (hw _ (List.mem_of_getElem? (i := 4) rfl)) e7 (g := (mkF m 43 #[.val (.int p0), .val (.int p1), .val (.int p2), .val (.int p3), .val (.int (0 : Int32)), .val (.ref cs_), .unset, .unset, .unset] [])) rfl (hb hby at_43) (by decide) (by decide)
      rw [← g48] at A48 D48 st48
      have C57 : CHr Z own_EL s.vm h0 s.vm h48 := C8.trans (CHr.ext E48 C8.1)
      have Sf58 : Safe Z own_EL s.vm h48 cs_ := Safe.ext E48 C8.1 Sf9
      have Sf59 : Safe Z own_EL s.vm h48 st := Safe.ext E48 C8.1 (Safe.new (Nat.le_of_eq g48.symm))
      have F_coder_st : Fld Z h48 st "java/lang/String" "coder" "B" (.int (0 : Int32)) := D48 (Or.inr (hw _ (List.mem_of_getElem? (i := 28) rfl))) (ty := .byte) (by decide)
      have F_value_st : Fld Z h48 st "java/lang/String" "value" "[B" .null := D48 (Or.inr (hw _ (List.mem_of_getElem? (i := 30) rfl))) (ty := (.array .byte)) (by decide)
      refine Go.by st48 ?_
      show Go _ _ _ _ T48 (mkF m 46 #[.val (.int p0), .val (.int p1), .val (.int p2), .val (.int p3), .val (.int (0 : Int32)), .val (.ref cs_), .unset, .unset, .unset] [(.ref st)])
      refine Go.by (fun _ gk => XS.dup X48.here hx rfl (hb hby at_46) rfl rfl gk) ?_
      show Go _ _ _ _ T48 (mkF m 47 #[.val (.int p0), .val (.int p1), .val (.int p2), .val (.int p3), .val (.int (0 : Int32)), .val (.ref cs_), .unset, .unset, .unset] [(.ref st), (.ref st)])
      refine Go.by (fun _ gk => XS.aload X48.here hx rfl (hb hby at_47) rfl rfl gk) ?_
      show Go _ _ _ _ T48 (mkF m 49 #[.val (.int p0), .val (.int p1), .val (.int p2), .val (.int p3), .val (.int (0 : Int32)), .val (.ref cs_), .unset, .unset, .unset] [(.ref cs_), (.ref st), (.ref st)])
      have F60 : Old Z n0 h1 := O0.ext E1
      have F61 : Old Z n0 h4 := F60.wr W4 ge_cs_
      have F62 : Old Z n0 h7 := F61.wr W7 ge_cs_
      have F63 : Old Z n0 h48 := F62.ext E48
      have F64 : Arv Z h48 cs_ k1 .char (2 : Int32) [(.int (p1 &&& (255 : Int32))), (.int ((XT.ushr p1 (8 : Int32)) &&& (255 : Int32)))] (.int (0 : Int32)) := V7.ext E48
      have F65 : n0 ≤ h48.size := Nat.le_trans F51 E48.1
      have F66 : Keep h0 h48 [] := F54.ext E48
      have F67 : Exa Z h48 cs_ "[C" := F56.ext E48
      obtain ⟨_, _, ⟨T68, L68, k68, n68⟩, -, X68, ⟨Lc68, hQ68, l68, y68, z68⟩, st68⟩ := X48.specialBack hx (y := (⟨"java/lang/String", "<init>", "([C)V"⟩ : MethodName)) rfl hown (mvT hZ (hw _ (List.mem_of_getElem? (i := 5) rfl))) (mvT hZ (hw _ (List.mem_of_getElem? (i := 6) rfl))) (mvT hZ (hw _ (List.mem_of_getElem? (i := 7) rfl))) (by decide) (backOf (W := 1) (rmS1_2 l Z a0 hw [] st cs_ k1 (p1 &&& (255 : Int32)) ((XT.ushr p1 (8 : Int32)) &&& (255 : Int32)) cs h48 n0 F65 F63 A48 F_value_st F_coder_st ge_st F64 (own_255 _) (own_255 _) S_cs n_cs) hZ (hw _ (List.mem_of_getElem? (i := 7) rfl)) (hw _ (List.mem_of_getElem? (i := 4) rfl)) (by decide) (by decide)) (g := (mkF m 49 #[.val (.int p0), .val (.int p1), .val (.int p2), .val (.int p3), .val (.int (0 : Int32)), .val (.ref cs_), .unset, .unset, .unset] [(.ref cs_), (.ref st), (.ref st)])) rfl (by rw [hml]; rfl) (Steps.refl _) (a := st) (argsL := [(.ref cs_)]) (rest := [(.ref st)]) (lenOf pd_156 rfl) rfl (by show 2 * 0 + _ ≤ _; exact Nat.le_of_eq rfl) (hb hby at_49) (fun _ _ => ⟨rfl, e48, (by decide : 2 + 1 ≤ _), (by decide : 6 + 2 ≤ _)⟩)
      dsimp only [Pt.U, Pt.locs, Pt.cells, Pt.slots] at X68 l68 y68 z68 st68 hQ68
      subst l68 y68 z68
      obtain ⟨b_68, kb_68, rfl, N68q, K68, Q68_0, Q68_1, Q68_2, Q68_3, Q68_4⟩ := hQ68
      have N68 := Fr.app N7 N68q
      have C69 : CHr Z own_EL s.vm h0 s.vm T68.heap := C57.trans (CHr.keep K68 (sfS Sf59 sf0) C57.1)
      have Sf70 : Safe Z own_EL s.vm T68.heap cs_ := Safe.keep K68 (sfS Sf59 sf0) C57.1 Sf58
      have Sf71 : Safe Z own_EL s.vm T68.heap st := Safe.keep K68 (sfS Sf59 sf0) C57.1 Sf59
      refine Go.to st68 ?_
      show Go _ _ _ _ T68 (mkF m 52 #[.val (.int p0), .val (.int p1), .val (.int p2), .val (.int p3), .val (.int (0 : Int32)), .val (.ref cs_), .unset, .unset, .unset] [(.ref st)])
      have ge_b_68 : n0 ≤ b_68 := Nat.le_trans F65 Q68_4
      have sz_b_68 : h0.size ≤ b_68 := Nat.le_trans F66.1 Q68_4
      have ne_cs__b_68 : cs_ ≠ b_68 := Nat.ne_of_lt (Nat.lt_of_lt_of_le F64.lt Q68_4)
      have ne_st_b_68 : st ≠ b_68 := Nat.ne_of_lt (Nat.lt_of_lt_of_le A48.lt Q68_4)
      refine Go.by (fun _ gk => XS.goto X68.here hx rfl (pc0 := 52) (pc' := 57) rfl (hb hby at_52) (by decide) (by decide) gk) ?_
      show Go _ _ _ _ T68 (mkF m 57 #[.val (.int p0), .val (.int p1), .val (.int p2), .val (.int p3), .val (.int (0 : Int32)), .val (.ref cs_), .unset, .unset, .unset] [(.ref st)])
      refine Go.by (fun _ gk => XS.astore X68.here hx rfl (hb hby at_57) rfl rfl (l' := #[.val (.int p0), .val (.int p1), .val (.int p2), .val (.int p3), .val (.int (0 : Int32)), .val (.ref cs_), .val (.ref st), .unset, .unset]) rfl gk) ?_
      show Go _ _ _ _ T68 (mkF m 59 #[.val (.int p0), .val (.int p1), .val (.int p2), .val (.int p3), .val (.int (0 : Int32)), .val (.ref cs_), .val (.ref st), .unset, .unset] [])
      have F73 : n0 ≤ T68.heap.size := Nat.le_trans F65 K68.1
      obtain ⟨t, g72⟩ : ∃ z, z = T68.heap.size := ⟨_, rfl⟩
      have ge_t : n0 ≤ t := Nat.le_trans F73 (Nat.le_of_eq g72.symm)
      have F74 : Keep h0 T68.heap [] := F66.trans K68 (allS (Or.inr sz_st) all0)
      have sz_t : h0.size ≤ t := Nat.le_trans F74.1 (Nat.le_of_eq g72.symm)
      have ne_b_68_t : b_68 ≠ t := Nat.ne_of_lt (Nat.lt_of_lt_of_le Q68_3.lt (Nat.le_of_eq g72.symm))
      have F75 : Exa Z T68.heap cs_ "[C" := F67.keep K68
      have ne_cs__t : cs_ ≠ t := Nat.ne_of_lt (Nat.lt_of_lt_of_le F75.lt (Nat.le_of_eq g72.symm))
      have ne_st_t : st ≠ t := Nat.ne_of_lt (Nat.lt_of_lt_of_le Q68_0.lt (Nat.le_of_eq g72.symm))
      obtain ⟨T72, h72, X72, e72, E72, A72, D72, -, st72⟩ := newO X68 hx hZ hown (hw _ (List.mem_of_getElem? (i := 31) rfl)) (hw _ (List.mem_of_getElem? (i := 32) rfl)) (hw _ (List.mem_of_getElem? (i := 33) rfl)) rfl (g := (mkF m 59 #[.val (.int p0), .val (.int p1), .val (.int p2), .val (.int p3), .val (.int (0 : Int32)), .val (.ref cs_), .val (.ref st), .unset, .unset] [])) rfl (hb hby at_59) (by decide) (by decide)
      rw [← g72] at A72 D72 st72
      have C76 : CHr Z own_EL s.vm h0 s.vm h72 := C69.trans (CHr.ext E72 C69.1)
      have Sf77 : Safe Z own_EL s.vm h72 cs_ := Safe.ext E72 C69.1 Sf70
      have Sf78 : Safe Z own_EL s.vm h72 st := Safe.ext E72 C69.1 Sf71
      have Sf79 : Safe Z own_EL s.vm h72 t := Safe.ext E72 C69.1 (Safe.new (Nat.le_of_eq g72.symm))
      have F_kind_t : Fld Z h72 t "com/example/attache/attache/query/Token" "kind" "Lcom/example/attache/attache/query/Token$Kind;" .null := D72 (Or.inr (hw _ (List.mem_of_getElem? (i := 51) rfl))) (ty := (.object "com/example/attache/attache/query/Token$Kind")) (by decide)
      have F_text_t : Fld Z h72 t "com/example/attache/attache/query/Token" "text" "Ljava/lang/String;" .null := D72 (Or.inr (hw _ (List.mem_of_getElem? (i := 53) rfl))) (ty := (.object "java/lang/String")) (by decide)
      have F_position_t : Fld Z h72 t "com/example/attache/attache/query/Token" "position" "I" (.int (0 : Int32)) := D72 (Or.inr (hw _ (List.mem_of_getElem? (i := 55) rfl))) (ty := .int) (by decide)
      refine Go.by st72 ?_
      show Go _ _ _ _ T72 (mkF m 62 #[.val (.int p0), .val (.int p1), .val (.int p2), .val (.int p3), .val (.int (0 : Int32)), .val (.ref cs_), .val (.ref st), .unset, .unset] [(.ref t)])
      refine Go.by (fun _ gk => XS.dup X72.here hx rfl (hb hby at_62) rfl rfl gk) ?_
      show Go _ _ _ _ T72 (mkF m 63 #[.val (.int p0), .val (.int p1), .val (.int p2), .val (.int p3), .val (.int (0 : Int32)), .val (.ref cs_), .val (.ref st), .unset, .unset] [(.ref t), (.ref t)])
      refine Go.by (fun _ gk => XS.iload X72.here hx rfl (hb hby at_63) rfl gk) ?_
      show Go _ _ _ _ T72 (mkF m 65 #[.val (.int p0), .val (.int p1), .val (.int p2), .val (.int p3), .val (.int (0 : Int32)), .val (.ref cs_), .val (.ref st), .unset, .unset] [(.int (0 : Int32)), (.ref t), (.ref t)])
      have F80 : Old Z n0 T68.heap := F63.keep K68 (allS ge_st all0)
      have F81 : Old Z n0 h72 := F80.ext E72
      have F82 : n0 ≤ h72.size := Nat.le_trans F73 E72.1
      obtain ⟨_, _, ⟨T83, L83, k83, n83⟩, -, X83, ⟨Lc83, hQ83, l83, y83, z83⟩, st83⟩ := Jvm.LawKit.callS X72 hx (y := (⟨"com/example/attache/attache/query/TokenIsParameterPinLaw", "kindOf", "(I)Lcom/example/attache/attache/query/Token$Kind;"⟩ : MethodName)) hown (mvT hZ (hw _ (List.mem_of_getElem? (i := 34) rfl))) (mvT hZ (hw _ (List.mem_of_getElem? (i := 35) rfl))) (mvT hZ (hw _ (List.mem_of_getElem? (i := 36) rfl))) (mvT hZ (hw _ (List.mem_of_getElem? (i := 37) rfl))) (by decide) (backOf (W := 2) (rmKind l Z a0 hw [] (0 : Int32) c_WORD c_WORD c_STRING c_NUMBER c_NAMED_PARAMETER c_POSITIONAL_PARAMETER c_SYMBOL c_END h72 n0 F82 F81 (Or.inl ⟨rfl, rfl⟩) S_c_WORD E_c_WORD O_c_WORD S_c_STRING E_c_STRING O_c_STRING S_c_NUMBER E_c_NUMBER O_c_NUMBER S_c_NAMED_PARAMETER E_c_NAMED_PARAMETER O_c_NAMED_PARAMETER S_c_POSITIONAL_PARAMETER E_c_POSITIONAL_PARAMETER O_c_POSITIONAL_PARAMETER S_c_SYMBOL E_c_SYMBOL O_c_SYMBOL S_c_END E_c_END O_c_END) hZ (hw _ (List.mem_of_getElem? (i := 37) rfl)) (hw _ (List.mem_of_getElem? (i := 36) rfl)) (by decide) (by decide)) (g := (mkF m 65 #[.val (.int p0), .val (.int p1), .val (.int p2), .val (.int p3), .val (.int (0 : Int32)), .val (.ref cs_), .val (.ref st), .unset, .unset] [(.int (0 : Int32)), (.ref t), (.ref t)])) rfl (by rw [hml]; rfl) (argsL := [(.int (0 : Int32))]) (rest := [(.ref t), (.ref t)]) (lenOf pd_153 rfl) rfl (by show 2 * 0 + _ ≤ _; exact Nat.le_of_eq rfl) (hb hby at_65) (fun _ _ => ⟨rfl, e72, (by decide : 4 + 0 ≤ _), (by decide : 11 + 0 ≤ _)⟩)
      dsimp only [Pt.U, Pt.locs, Pt.cells, Pt.slots] at X83 l83 y83 z83 st83 hQ83
      subst l83 y83 z83
      obtain ⟨rfl, N83q, e83⟩ := hQ83
      have N83 := Fr.app N68 N83q
      refine Go.by st83 ?_
      show Go _ _ _ _ T83 (mkF m 68 #[.val (.int p0), .val (.int p1), .val (.int p2), .val (.int p3), .val (.int (0 : Int32)), .val (.ref cs_), .val (.ref st), .unset, .unset] [(.ref c_WORD), (.ref t), (.ref t)])
      refine Go.by (fun _ gk => XS.aload X83.here hx rfl (hb hby at_68) rfl rfl gk) ?_
      show Go _ _ _ _ T83 (mkF m 70 #[.val (.int p0), .val (.int p1), .val (.int p2), .val (.int p3), .val (.int (0 : Int32)), .val (.ref cs_), .val (.ref st), .unset, .unset] [(.ref st), (.ref c_WORD), (.ref t), (.ref t)])
      refine Go.by (fun _ gk => XS.iloadN X83.here hx rfl (hb hby at_70) rfl gk) ?_
      show Go _ _ _ _ T83 (mkF m 71 #[.val (.int p0), .val (.int p1), .val (.int p2), .val (.int p3), .val (.int (0 : Int32)), .val (.ref cs_), .val (.ref st), .unset, .unset] [(.int p2), (.ref st), (.ref c_WORD), (.ref t), (.ref t)])
      obtain ⟨_, _, ⟨T84, L84, k84, n84⟩, -, X84, ⟨Lc84, hQ84, l84, y84, z84⟩, st84⟩ := X83.specialBack hx (y := (⟨"com/example/attache/attache/query/Token", "<init>", "(Lcom/example/attache/attache/query/Token$Kind;Ljava/lang/String;I)V"⟩ : MethodName)) rfl hown (mvT hZ (hw _ (List.mem_of_getElem? (i := 41) rfl))) (mvT hZ (hw _ (List.mem_of_getElem? (i := 42) rfl))) (mvT hZ (hw _ (List.mem_of_getElem? (i := 43) rfl))) (by decide) (backOf (W := 1) (rmToken l Z a0 hw [] t c_WORD st p2 h72 n0 F82 A72 F_kind_t F_text_t F_position_t ge_t) hZ (hw _ (List.mem_of_getElem? (i := 43) rfl)) (hw _ (List.mem_of_getElem? (i := 33) rfl)) (by decide) (by decide)) (g := (mkF m 71 #[.val (.int p0), .val (.int p1), .val (.int p2), .val (.int p3), .val (.int (0 : Int32)), .val (.ref cs_), .val (.ref st), .unset, .unset] [(.int p2), (.ref st), (.ref c_WORD), (.ref t), (.ref t)])) rfl (by rw [hml]; rfl) (Steps.refl _) (a := t) (argsL := [(.ref c_WORD), (.ref st), (.int p2)]) (rest := [(.ref t)]) (lenOf pd_154 rfl) rfl (by show 2 * 0 + _ ≤ _; exact Nat.le_of_eq rfl) (hb hby at_71) (fun _ _ => ⟨rfl, e83, (by decide : 4 + 0 ≤ _), (by decide : 11 + 0 ≤ _)⟩)
      dsimp only [Pt.U, Pt.locs, Pt.cells, Pt.slots] at X84 l84 y84 z84 st84 hQ84
      subst l84 y84 z84
      obtain ⟨rfl, N84q, K84, Q84_0, Q84_1⟩ := hQ84
      have N84 := Fr.app N83 N84q
      have C85 : CHr Z own_EL s.vm h0 s.vm T84.heap := C76.trans (CHr.keep K84 (sfS Sf79 sf0) C76.1)
      have Sf86 : Safe Z own_EL s.vm T84.heap cs_ := Safe.keep K84 (sfS Sf79 sf0) C76.1 Sf77
      have Sf87 : Safe Z own_EL s.vm T84.heap st := Safe.keep K84 (sfS Sf79 sf0) C76.1 Sf78
      have Sf88 : Safe Z own_EL s.vm T84.heap t := Safe.keep K84 (sfS Sf79 sf0) C76.1 Sf79
      refine Go.to st84 ?_
      show Go _ _ _ _ T84 (mkF m 74 #[.val (.int p0), .val (.int p1), .val (.int p2), .val (.int p3), .val (.int (0 : Int32)), .val (.ref cs_), .val (.ref st), .unset, .unset] [(.ref t)])
      refine Go.by (fun _ gk => XS.astore X84.here hx rfl (hb hby at_74) rfl rfl (l' := #[.val (.int p0), .val (.int p1), .val (.int p2), .val (.int p3), .val (.int (0 : Int32)), .val (.ref cs_), .val (.ref st), .val (.ref t), .unset]) rfl gk) ?_
      show Go _ _ _ _ T84 (mkF m 76 #[.val (.int p0), .val (.int p1), .val (.int p2), .val (.int p3), .val (.int (0 : Int32)), .val (.ref cs_), .val (.ref st), .val (.ref t), .unset] [])
      refine Go.by (fun _ gk => XS.iload X84.here hx rfl (hb hby at_76) rfl gk) ?_
      show Go _ _ _ _ T84 (mkF m 78 #[.val (.int p0), .val (.int p1), .val (.int p2), .val (.int p3), .val (.int (0 : Int32)), .val (.ref cs_), .val (.ref st), .val (.ref t), .unset] [(.int (0 : Int32))])
      refine Go.by (fun _ gk => XT.iconstV X84.here hx rfl (3 : Int32) (hb hby at_78) (by decide) gk) ?_
      show Go _ _ _ _ T84 (mkF m 79 #[.val (.int p0), .val (.int p1), .val (.int p2), .val (.int p3), .val (.int (0 : Int32)), .val (.ref cs_), .val (.ref st), .val (.ref t), .unset] [(.int (3 : Int32)), (.int (0 : Int32))])
      refine Go.by (fun _ gk => XS.icmpNo X84.here hx rfl (hb hby at_79) rfl (XT.ii_eq_f (by decide)) gk) ?_
      show Go _ _ _ _ T84 (mkF m 82 #[.val (.int p0), .val (.int p1), .val (.int p2), .val (.int p3), .val (.int (0 : Int32)), .val (.ref cs_), .val (.ref st), .val (.ref t), .unset] [])
      refine Go.by (fun _ gk => XS.iload X84.here hx rfl (hb hby at_82) rfl gk) ?_
      show Go _ _ _ _ T84 (mkF m 84 #[.val (.int p0), .val (.int p1), .val (.int p2), .val (.int p3), .val (.int (0 : Int32)), .val (.ref cs_), .val (.ref st), .val (.ref t), .unset] [(.int (0 : Int32))])
      refine Go.by (fun _ gk => XT.iconstV X84.here hx rfl (4 : Int32) (hb hby at_84) (by decide) gk) ?_
      show Go _ _ _ _ T84 (mkF m 85 #[.val (.int p0), .val (.int p1), .val (.int p2), .val (.int p3), .val (.int (0 : Int32)), .val (.ref cs_), .val (.ref st), .val (.ref t), .unset] [(.int (4 : Int32)), (.int (0 : Int32))])
      refine Go.by (fun _ gk => XS.icmpYes X84.here hx rfl (pc0 := 85) (pc' := 92) rfl (hb hby at_85) rfl (XT.ii_ne_t (by decide)) (by decide) (by decide) gk) ?_
      show Go _ _ _ _ T84 (mkF m 92 #[.val (.int p0), .val (.int p1), .val (.int p2), .val (.int p3), .val (.int (0 : Int32)), .val (.ref cs_), .val (.ref st), .val (.ref t), .unset] [])
      refine Go.by (fun _ gk => XT.iconstV X84.here hx rfl (0 : Int32) (hb hby at_92) (by decide) gk) ?_
      show Go _ _ _ _ T84 (mkF m 93 #[.val (.int p0), .val (.int p1), .val (.int p2), .val (.int p3), .val (.int (0 : Int32)), .val (.ref cs_), .val (.ref st), .val (.ref t), .unset] [(.int (0 : Int32))])
      refine Go.by (fun _ gk => XS.istore X84.here hx rfl (hb hby at_93) rfl (l' := #[.val (.int p0), .val (.int p1), .val (.int p2), .val (.int p3), .val (.int (0 : Int32)), .val (.ref cs_), .val (.ref st), .val (.ref t), .val (.int (0 : Int32))]) rfl gk) ?_
      show Go _ _ _ _ T84 (mkF m 95 #[.val (.int p0), .val (.int p1), .val (.int p2), .val (.int p3), .val (.int (0 : Int32)), .val (.ref cs_), .val (.ref st), .val (.ref t), .val (.int (0 : Int32))] [])
      refine Go.by (fun _ gk => XS.aload X84.here hx rfl (hb hby at_95) rfl rfl gk) ?_
      show Go _ _ _ _ T84 (mkF m 97 #[.val (.int p0), .val (.int p1), .val (.int p2), .val (.int p3), .val (.int (0 : Int32)), .val (.ref cs_), .val (.ref st), .val (.ref t), .val (.int (0 : Int32))] [(.ref t)])
      have F89 : Old Z n0 T84.heap := F81.keep K84 (allS ge_t all0)
      have F90 : n0 ≤ T84.heap.size := Nat.le_trans F82 K84.1
      obtain ⟨cq91, kq91, q91a, q91b, q91c⟩ := isOf hZ rfl Q84_0
      obtain ⟨_, _, ⟨T91, L91, k91, n91⟩, -, X91, ⟨Lc91, hQ91, l91, y91, z91⟩, st91⟩ := X84.virtualBack hx (y := (⟨"com/example/attache/attache/query/Token", "isParameter", "()Z"⟩ : MethodName)) (z := (⟨"com/example/attache/attache/query/Token", "isParameter", "()Z"⟩ : MethodName)) hown (mvT hZ (hw _ (List.mem_of_getElem? (i := 56) rfl))) (mvT hZ (hw _ (List.mem_of_getElem? (i := 57) rfl))) (notFace_of_selects (args := #[]) (mvT hZ (hw _ (List.mem_of_getElem? (i := 59) rfl)))) (mvT hZ (hw _ (List.mem_of_getElem? (i := 59) rfl))) (mvT hZ (hw _ (List.mem_of_getElem? (i := 58) rfl))) (by decide) (backOf (W := 0) (rmIsP l Z a0 hw [] t c_WORD (0 : Int32) c_WORD c_STRING c_NUMBER c_NAMED_PARAMETER c_POSITIONAL_PARAMETER c_SYMBOL c_END T84.heap n0 F90 F89 Q84_1 (Or.inl ⟨rfl, rfl⟩) S_c_WORD E_c_WORD O_c_WORD S_c_STRING E_c_STRING O_c_STRING S_c_NUMBER E_c_NUMBER O_c_NUMBER S_c_NAMED_PARAMETER E_c_NAMED_PARAMETER O_c_NAMED_PARAMETER S_c_POSITIONAL_PARAMETER E_c_POSITIONAL_PARAMETER O_c_POSITIONAL_PARAMETER S_c_SYMBOL E_c_SYMBOL O_c_SYMBOL S_c_END E_c_END O_c_END) hZ (hw _ (List.mem_of_getElem? (i := 60) rfl)) (hw _ (List.mem_of_getElem? (i := 33) rfl)) (by decide) (by decide)) q91a q91c (g := (mkF m 97 #[.val (.int p0), .val (.int p1), .val (.int p2), .val (.int p3), .val (.int (0 : Int32)), .val (.ref cs_), .val (.ref st), .val (.ref t), .val (.int (0 : Int32))] [(.ref t)])) rfl (by rw [hml]; rfl) (Steps.refl _) (argsL := []) (rest := []) (lenOf pd_155 rfl) rfl (by show 2 * 0 + _ ≤ _; exact Nat.le_of_eq rfl) (hb hby at_97) (fun _ _ => ⟨rfl, rfl, (by decide : 4 + 0 ≤ _), (by decide : 11 + 0 ≤ _)⟩)
      dsimp only [Pt.U, Pt.locs, Pt.cells, Pt.slots] at X91 l91 y91 z91 st91 hQ91
      subst l91 y91 z91
      obtain ⟨rfl, N91q, e91⟩ := hQ91
      have N91 := Fr.app N84 N91q
      refine Go.to st91 ?_
      show Go _ _ _ _ T91 (mkF m 100 #[.val (.int p0), .val (.int p1), .val (.int p2), .val (.int p3), .val (.int (0 : Int32)), .val (.ref cs_), .val (.ref st), .val (.ref t), .val (.int (0 : Int32))] [(.int (0 : Int32))])
      refine Go.by (fun _ gk => XS.iload X91.here hx rfl (hb hby at_100) rfl gk) ?_
      show Go _ _ _ _ T91 (mkF m 102 #[.val (.int p0), .val (.int p1), .val (.int p2), .val (.int p3), .val (.int (0 : Int32)), .val (.ref cs_), .val (.ref st), .val (.ref t), .val (.int (0 : Int32))] [(.int (0 : Int32)), (.int (0 : Int32))])
      refine Go.by (fun _ gk => XS.icmpNo X91.here hx rfl (hb hby at_102) rfl (XT.ii_ne_f rfl) gk) ?_
      show Go _ _ _ _ T91 (mkF m 105 #[.val (.int p0), .val (.int p1), .val (.int p2), .val (.int p3), .val (.int (0 : Int32)), .val (.ref cs_), .val (.ref st), .val (.ref t), .val (.int (0 : Int32))] [])
      refine Go.by (fun _ gk => XT.iconstV X91.here hx rfl (1 : Int32) (hb hby at_105) (by decide) gk) ?_
      show Go _ _ _ _ T91 (mkF m 106 #[.val (.int p0), .val (.int p1), .val (.int p2), .val (.int p3), .val (.int (0 : Int32)), .val (.ref cs_), .val (.ref st), .val (.ref t), .val (.int (0 : Int32))] [(.int (1 : Int32))])
      refine Go.by (fun _ gk => XS.goto X91.here hx rfl (pc0 := 106) (pc' := 110) rfl (hb hby at_106) (by decide) (by decide) gk) ?_
      show Go _ _ _ _ T91 (mkF m 110 #[.val (.int p0), .val (.int p1), .val (.int p2), .val (.int p3), .val (.int (0 : Int32)), .val (.ref cs_), .val (.ref st), .val (.ref t), .val (.int (0 : Int32))] [(.int (1 : Int32))])
      have F92 : s.heap.size ≤ h1.size := Nat.le_trans hk0 E1.1
      have F93 : s.heap.size ≤ h4.size := Nat.le_trans F92 (Nat.le_of_eq (Wr.size W4).symm)
      have F94 : s.heap.size ≤ h7.size := Nat.le_trans F93 (Nat.le_of_eq (Wr.size W7).symm)
      have F95 : s.heap.size ≤ h48.size := Nat.le_trans F94 E48.1
      have F96 : s.heap.size ≤ T68.heap.size := Nat.le_trans F95 K68.1
      have F97 : s.heap.size ≤ h72.size := Nat.le_trans F96 E72.1
      have F98 : s.heap.size ≤ T84.heap.size := Nat.le_trans F97 K84.1
      exact Go.retIW X91 hx Bd.notSynchronized hS0 (by rw [e91]; exact F98) hZ hEL (by rw [hh, e91]; exact C85) Bd.returns rfl (by simp) (hb hby at_110) (by rw [e91]; exact ⟨rfl, N91⟩) (by decide) (by decide)
  · show Go _ _ _ _ s₁ (mkF m 9 #[.val (.int p0), .val (.int p1), .val (.int p2), .val (.int p3), .val (.int (1 : Int32)), .unset, .unset, .unset, .unset] [])
    refine Go.by (fun _ gk => XT.iconstV X0.here hx rfl (2 : Int32) (hb hby at_9) (by decide) gk) ?_
    show Go _ _ _ _ s₁ (mkF m 10 #[.val (.int p0), .val (.int p1), .val (.int p2), .val (.int p3), .val (.int (1 : Int32)), .unset, .unset, .unset, .unset] [(.int (2 : Int32))])
    obtain ⟨cs_, g99⟩ : ∃ z, z = h0.size := ⟨_, rfl⟩
    have ge_cs_ : n0 ≤ cs_ := Nat.le_trans Z0 (Nat.le_of_eq g99.symm)
    have sz_cs_ : h0.size ≤ cs_ := Nat.le_trans (Keep.refl h0 []).1 (Nat.le_of_eq g99.symm)
    obtain ⟨T99, h99, k99, X99, e99, E99, A99, Ea99, st99⟩ := newPE X0 hx hZ (hw _ (List.mem_of_getElem? (i := 1) rfl)) e0 (g := (mkF m 10 #[.val (.int p0), .val (.int p1), .val (.int p2), .val (.int p3), .val (.int (1 : Int32)), .unset, .unset, .unset, .unset] [(.int (2 : Int32))])) rfl (hb hby at_10) rfl (by decide) (cap := 2) (by decide) (by decide) (by decide) (by decide) (ad := "[C") rfl
    rw [← g99] at A99 Ea99 st99
    have C100 : CHr Z own_EL s.vm h0 s.vm h99 := C0.trans (CHr.ext E99 C0.1)
    have Sf101 : Safe Z own_EL s.vm h99 cs_ := Safe.ext E99 C0.1 (Safe.new (Nat.le_of_eq g99.symm))
    have V_cs_ : Arv Z h99 cs_ k99 .char (2 : Int32) [(.int (0 : Int32)), (.int (0 : Int32))] (.int (0 : Int32)) := (Arv.new A99 (by decide)).pad (pad_rep [] (.int (0 : Int32)) 2)
    refine Go.by st99 ?_
    show Go _ _ _ _ T99 (mkF m 12 #[.val (.int p0), .val (.int p1), .val (.int p2), .val (.int p3), .val (.int (1 : Int32)), .unset, .unset, .unset, .unset] [(.ref cs_)])
    refine Go.by (fun _ gk => XS.astore X99.here hx rfl (hb hby at_12) rfl rfl (l' := #[.val (.int p0), .val (.int p1), .val (.int p2), .val (.int p3), .val (.int (1 : Int32)), .val (.ref cs_), .unset, .unset, .unset]) rfl gk) ?_
    show Go _ _ _ _ T99 (mkF m 14 #[.val (.int p0), .val (.int p1), .val (.int p2), .val (.int p3), .val (.int (1 : Int32)), .val (.ref cs_), .unset, .unset, .unset] [])
    refine Go.by (fun _ gk => XS.aload X99.here hx rfl (hb hby at_14) rfl rfl gk) ?_
    show Go _ _ _ _ T99 (mkF m 16 #[.val (.int p0), .val (.int p1), .val (.int p2), .val (.int p3), .val (.int (1 : Int32)), .val (.ref cs_), .unset, .unset, .unset] [(.ref cs_)])
    refine Go.by (fun _ gk => XT.iconstV X99.here hx rfl (0 : Int32) (hb hby at_16) (by decide) gk) ?_
    show Go _ _ _ _ T99 (mkF m 17 #[.val (.int p0), .val (.int p1), .val (.int p2), .val (.int p3), .val (.int (1 : Int32)), .val (.ref cs_), .unset, .unset, .unset] [(.int (0 : Int32)), (.ref cs_)])
    refine Go.by (fun _ gk => XS.iloadN X99.here hx rfl (hb hby at_17) rfl gk) ?_
    show Go _ _ _ _ T99 (mkF m 18 #[.val (.int p0), .val (.int p1), .val (.int p2), .val (.int p3), .val (.int (1 : Int32)), .val (.ref cs_), .unset, .unset, .unset] [(.int p1), (.int (0 : Int32)), (.ref cs_)])
    refine Go.by (fun _ gk => XT.sipushV X99.here hx rfl (255 : Int32) (hb hby at_18) (by decide) gk) ?_
    show Go _ _ _ _ T99 (mkF m 21 #[.val (.int p0), .val (.int p1), .val (.int p2), .val (.int p3), .val (.int (1 : Int32)), .val (.ref cs_), .unset, .unset, .unset] [(.int (255 : Int32)), (.int p1), (.int (0 : Int32)), (.ref cs_)])
    refine Go.by (fun _ gk => XS.iand X99.here hx rfl (hb hby at_21) rfl gk) ?_
    show Go _ _ _ _ T99 (mkF m 22 #[.val (.int p0), .val (.int p1), .val (.int p2), .val (.int p3), .val (.int (1 : Int32)), .val (.ref cs_), .unset, .unset, .unset] [(.int (p1 &&& (255 : Int32))), (.int (0 : Int32)), (.ref cs_)])
    refine Go.by (fun _ gk => XT.i2c X99.here hx rfl (hb hby at_22) rfl gk) ?_
    show Go _ _ _ _ T99 (mkF m 23 #[.val (.int p0), .val (.int p1), .val (.int p2), .val (.int p3), .val (.int (1 : Int32)), .val (.ref cs_), .unset, .unset, .unset] [(.int ((p1 &&& (255 : Int32)).toUInt32.toUInt16.toUInt32.toInt32)), (.int (0 : Int32)), (.ref cs_)])
    rw [i2c_mask]
    show Go _ _ _ _ T99 (mkF m 23 #[.val (.int p0), .val (.int p1), .val (.int p2), .val (.int p3), .val (.int (1 : Int32)), .val (.ref cs_), .unset, .unset, .unset] [(.int (p1 &&& (255 : Int32))), (.int (0 : Int32)), (.ref cs_)])
    obtain ⟨cl102, Ar102, q102, S102, M102, H102, G102⟩ := id V_cs_
    have hin102 : ¬ ((0 : Int32) < 0 ∨ cl102.slots.size ≤ (0 : Int32).toNatClampNeg) := inb_of S102 ⟨by decide, by decide⟩
    obtain ⟨T102, h102, X102, e102, W102, st102⟩ := stC X99 hx hZ e99 Ar102 (j := (0 : Int32)) hin102 (g := (mkF m 23 #[.val (.int p0), .val (.int p1), .val (.int p2), .val (.int p3), .val (.int (1 : Int32)), .val (.ref cs_), .unset, .unset, .unset] [(.int (p1 &&& (255 : Int32))), (.int (0 : Int32)), (.ref cs_)])) rfl rfl (hb hby at_23)
    have C103 : CHr Z own_EL s.vm h0 s.vm h102 := C100.trans (CHr.wr W102 Sf101 C100.1)
    have Sf104 : Safe Z own_EL s.vm h102 cs_ := Safe.wr W102 Sf101 C100.1 Sf101
    have N102 := Fr.snoc X102 N0 ge_cs_
    have V102 : Arv Z h102 cs_ k99 .char (2 : Int32) [(.int (nar .char (p1 &&& (255 : Int32)))), (.int (0 : Int32))] (.int (0 : Int32)) := Arv.set Ar102 q102 S102 M102 H102 G102 (fits_nar_char _) W102 0 rfl (Nat.le_of_ble_eq_true rfl)
    refine Go.by st102 ?_
    show Go _ _ _ _ T102 (mkF m 24 #[.val (.int p0), .val (.int p1), .val (.int p2), .val (.int p3), .val (.int (1 : Int32)), .val (.ref cs_), .unset, .unset, .unset] [])
    rw [own_nc] at V102
    refine Go.by (fun _ gk => XS.aload X102.here hx rfl (hb hby at_24) rfl rfl gk) ?_
    show Go _ _ _ _ T102 (mkF m 26 #[.val (.int p0), .val (.int p1), .val (.int p2), .val (.int p3), .val (.int (1 : Int32)), .val (.ref cs_), .unset, .unset, .unset] [(.ref cs_)])
    refine Go.by (fun _ gk => XT.iconstV X102.here hx rfl (1 : Int32) (hb hby at_26) (by decide) gk) ?_
    show Go _ _ _ _ T102 (mkF m 27 #[.val (.int p0), .val (.int p1), .val (.int p2), .val (.int p3), .val (.int (1 : Int32)), .val (.ref cs_), .unset, .unset, .unset] [(.int (1 : Int32)), (.ref cs_)])
    refine Go.by (fun _ gk => XS.iloadN X102.here hx rfl (hb hby at_27) rfl gk) ?_
    show Go _ _ _ _ T102 (mkF m 28 #[.val (.int p0), .val (.int p1), .val (.int p2), .val (.int p3), .val (.int (1 : Int32)), .val (.ref cs_), .unset, .unset, .unset] [(.int p1), (.int (1 : Int32)), (.ref cs_)])
    refine Go.by (fun _ gk => XT.bipushV X102.here hx rfl (8 : Int32) (hb hby at_28) (by decide) gk) ?_
    show Go _ _ _ _ T102 (mkF m 30 #[.val (.int p0), .val (.int p1), .val (.int p2), .val (.int p3), .val (.int (1 : Int32)), .val (.ref cs_), .unset, .unset, .unset] [(.int (8 : Int32)), (.int p1), (.int (1 : Int32)), (.ref cs_)])
    refine Go.by (fun _ gk => XT.iushr X102.here hx rfl (hb hby at_30) rfl gk) ?_
    show Go _ _ _ _ T102 (mkF m 31 #[.val (.int p0), .val (.int p1), .val (.int p2), .val (.int p3), .val (.int (1 : Int32)), .val (.ref cs_), .unset, .unset, .unset] [(.int (XT.ushr p1 (8 : Int32))), (.int (1 : Int32)), (.ref cs_)])
    refine Go.by (fun _ gk => XT.sipushV X102.here hx rfl (255 : Int32) (hb hby at_31) (by decide) gk) ?_
    show Go _ _ _ _ T102 (mkF m 34 #[.val (.int p0), .val (.int p1), .val (.int p2), .val (.int p3), .val (.int (1 : Int32)), .val (.ref cs_), .unset, .unset, .unset] [(.int (255 : Int32)), (.int (XT.ushr p1 (8 : Int32))), (.int (1 : Int32)), (.ref cs_)])
    refine Go.by (fun _ gk => XS.iand X102.here hx rfl (hb hby at_34) rfl gk) ?_
    show Go _ _ _ _ T102 (mkF m 35 #[.val (.int p0), .val (.int p1), .val (.int p2), .val (.int p3), .val (.int (1 : Int32)), .val (.ref cs_), .unset, .unset, .unset] [(.int ((XT.ushr p1 (8 : Int32)) &&& (255 : Int32))), (.int (1 : Int32)), (.ref cs_)])
    refine Go.by (fun _ gk => XT.i2c X102.here hx rfl (hb hby at_35) rfl gk) ?_
    show Go _ _ _ _ T102 (mkF m 36 #[.val (.int p0), .val (.int p1), .val (.int p2), .val (.int p3), .val (.int (1 : Int32)), .val (.ref cs_), .unset, .unset, .unset] [(.int (((XT.ushr p1 (8 : Int32)) &&& (255 : Int32)).toUInt32.toUInt16.toUInt32.toInt32)), (.int (1 : Int32)), (.ref cs_)])
    rw [i2c_mask]
    show Go _ _ _ _ T102 (mkF m 36 #[.val (.int p0), .val (.int p1), .val (.int p2), .val (.int p3), .val (.int (1 : Int32)), .val (.ref cs_), .unset, .unset, .unset] [(.int ((XT.ushr p1 (8 : Int32)) &&& (255 : Int32))), (.int (1 : Int32)), (.ref cs_)])
    obtain ⟨cl105, Ar105, q105, S105, M105, H105, G105⟩ := id V102
    have hin105 : ¬ ((1 : Int32) < 0 ∨ cl105.slots.size ≤ (1 : Int32).toNatClampNeg) := inb_of S105 ⟨by decide, by decide⟩
    obtain ⟨T105, h105, X105, e105, W105, st105⟩ := stC X102 hx hZ e102 Ar105 (j := (1 : Int32)) hin105 (g := (mkF m 36 #[.val (.int p0), .val (.int p1), .val (.int p2), .val (.int p3), .val (.int (1 : Int32)), .val (.ref cs_), .unset, .unset, .unset] [(.int ((XT.ushr p1 (8 : Int32)) &&& (255 : Int32))), (.int (1 : Int32)), (.ref cs_)])) rfl rfl (hb hby at_36)
    have C106 : CHr Z own_EL s.vm h0 s.vm h105 := C103.trans (CHr.wr W105 Sf104 C103.1)
    have Sf107 : Safe Z own_EL s.vm h105 cs_ := Safe.wr W105 Sf104 C103.1 Sf104
    have N105 := Fr.snoc X105 N102 ge_cs_
    have V105 : Arv Z h105 cs_ k99 .char (2 : Int32) [(.int (p1 &&& (255 : Int32))), (.int (nar .char ((XT.ushr p1 (8 : Int32)) &&& (255 : Int32))))] (.int (0 : Int32)) := Arv.set Ar105 q105 S105 M105 H105 G105 (fits_nar_char _) W105 1 rfl (Nat.le_of_ble_eq_true rfl)
    refine Go.by st105 ?_
    show Go _ _ _ _ T105 (mkF m 37 #[.val (.int p0), .val (.int p1), .val (.int p2), .val (.int p3), .val (.int (1 : Int32)), .val (.ref cs_), .unset, .unset, .unset] [])
    rw [own_nc] at V105
    refine Go.by (fun _ gk => XS.iloadN X105.here hx rfl (hb hby at_37) rfl gk) ?_
    show Go _ _ _ _ T105 (mkF m 38 #[.val (.int p0), .val (.int p1), .val (.int p2), .val (.int p3), .val (.int (1 : Int32)), .val (.ref cs_), .unset, .unset, .unset] [(.int p3)])
    refine Go.by (fun _ gk => XT.iconstV X105.here hx rfl (1 : Int32) (hb hby at_38) (by decide) gk) ?_
    show Go _ _ _ _ T105 (mkF m 39 #[.val (.int p0), .val (.int p1), .val (.int p2), .val (.int p3), .val (.int (1 : Int32)), .val (.ref cs_), .unset, .unset, .unset] [(.int (1 : Int32)), (.int p3)])
    refine Go.by (fun _ gk => XS.iand X105.here hx rfl (hb hby at_39) rfl gk) ?_
    show Go _ _ _ _ T105 (mkF m 40 #[.val (.int p0), .val (.int p1), .val (.int p2), .val (.int p3), .val (.int (1 : Int32)), .val (.ref cs_), .unset, .unset, .unset] [(.int (p3 &&& (1 : Int32)))])
    by_cases hb108 : (p3 &&& (1 : Int32)) = 0
    · refine Go.by (fun _ gk => XS.ifYes X105.here hx rfl (pc0 := 40) (pc' := 55) rfl (hb hby at_40) rfl (XT.i0_eq_t hb108) (by decide) (by decide) gk) ?_
      show Go _ _ _ _ T105 (mkF m 55 #[.val (.int p0), .val (.int p1), .val (.int p2), .val (.int p3), .val (.int (1 : Int32)), .val (.ref cs_), .unset, .unset, .unset] [])
      have F110 : s.heap.size ≤ h99.size := Nat.le_trans hk0 E99.1
      have F111 : s.heap.size ≤ h102.size := Nat.le_trans F110 (Nat.le_of_eq (Wr.size W102).symm)
      have F112 : s.heap.size ≤ h105.size := Nat.le_trans F111 (Nat.le_of_eq (Wr.size W105).symm)
      have F113 : Exa Z h102 cs_ "[C" := Ea99.wr W102
      have F114 : Exa Z h105 cs_ "[C" := F113.wr W105
      obtain ⟨st, T109, h109, kq109, X109, e109, E109, hS109, hk109, hZ109, hown109, CH109, -, st109⟩ := ldcOH X105 hx hZ hown (hw _ (List.mem_of_getElem? (i := 65) rfl)) hSA e105 hS0 F112 hEL C106.1 (g := (mkF m 55 #[.val (.int p0), .val (.int p1), .val (.int p2), .val (.int p3), .val (.int (1 : Int32)), .val (.ref cs_), .unset, .unset, .unset] [])) rfl (hb hby at_55) (n := 0) (by decide) (by decide) (by decide) (by decide)
      have C115 : CHr Z own_EL s.vm h0 T109.vm h109 := C106.trans CH109
      have Sf116 : Safe Z own_EL T109.vm h109 cs_ := CH109.safe F114.lt Sf107
      refine Go.by st109 ?_
      show Go _ _ _ _ T109 (mkF m 57 #[.val (.int p0), .val (.int p1), .val (.int p2), .val (.int p3), .val (.int (1 : Int32)), .val (.ref cs_), .unset, .unset, .unset] [(.ref st)])
      refine Go.by (fun _ gk => XS.astore X109.here hx rfl (hb hby at_57) rfl rfl (l' := #[.val (.int p0), .val (.int p1), .val (.int p2), .val (.int p3), .val (.int (1 : Int32)), .val (.ref cs_), .val (.ref st), .unset, .unset]) rfl gk) ?_
      show Go _ _ _ _ T109 (mkF m 59 #[.val (.int p0), .val (.int p1), .val (.int p2), .val (.int p3), .val (.int (1 : Int32)), .val (.ref cs_), .val (.ref st), .unset, .unset] [])
      have F118 : n0 ≤ h99.size := Nat.le_trans Z0 E99.1
      have F119 : n0 ≤ h102.size := Nat.le_trans F118 (Nat.le_of_eq (Wr.size W102).symm)
      have F120 : n0 ≤ h105.size := Nat.le_trans F119 (Nat.le_of_eq (Wr.size W105).symm)
      have F121 : n0 ≤ h109.size := Nat.le_trans F120 E109.1
      obtain ⟨t, g117⟩ : ∃ z, z = h109.size := ⟨_, rfl⟩
      have ge_t : n0 ≤ t := Nat.le_trans F121 (Nat.le_of_eq g117.symm)
      have F122 : Keep h0 h99 [] := (Keep.refl h0 []).ext E99
      have F123 : Keep h0 h102 [] := F122.wr W102 (Or.inr sz_cs_)
      have F124 : Keep h0 h105 [] := F123.wr W105 (Or.inr sz_cs_)
      have F125 : Keep h0 h109 [] := F124.ext E109
      have sz_t : h0.size ≤ t := Nat.le_trans F125.1 (Nat.le_of_eq g117.symm)
      have F126 : Exa Z h109 cs_ "[C" := F114.ext E109
      have ne_cs__t : cs_ ≠ t := Nat.ne_of_lt (Nat.lt_of_lt_of_le F126.lt (Nat.le_of_eq g117.symm))
      obtain ⟨T117, h117, X117, e117, E117, A117, D117, -, st117⟩ := newO X109 hx hZ109 hown109 (hw _ (List.mem_of_getElem? (i := 31) rfl)) (hw _ (List.mem_of_getElem? (i := 32) rfl)) (hw _ (List.mem_of_getElem? (i := 33) rfl)) e109 (g := (mkF m 59 #[.val (.int p0), .val (.int p1), .val (.int p2), .val (.int p3), .val (.int (1 : Int32)), .val (.ref cs_), .val (.ref st), .unset, .unset] [])) rfl (hb hby at_59) (by decide) (by decide)
      rw [← g117] at A117 D117 st117
      have C127 : CHr Z own_EL s.vm h0 T109.vm h117 := C115.trans (CHr.ext E117 C115.1)
      have Sf128 : Safe Z own_EL T109.vm h117 cs_ := Safe.ext E117 C115.1 Sf116
      have Sf129 : Safe Z own_EL T109.vm h117 t := Safe.ext E117 C115.1 (Safe.new (Nat.le_of_eq g117.symm))
      have F_kind_t : Fld Z h117 t "com/example/attache/attache/query/Token" "kind" "Lcom/example/attache/attache/query/Token$Kind;" .null := D117 (Or.inr (hw _ (List.mem_of_getElem? (i := 51) rfl))) (ty := (.object "com/example/attache/attache/query/Token$Kind")) (by decide)
      have F_text_t : Fld Z h117 t "com/example/attache/attache/query/Token" "text" "Ljava/lang/String;" .null := D117 (Or.inr (hw _ (List.mem_of_getElem? (i := 53) rfl))) (ty := (.object "java/lang/String")) (by decide)
      have F_position_t : Fld Z h117 t "com/example/attache/attache/query/Token" "position" "I" (.int (0 : Int32)) := D117 (Or.inr (hw _ (List.mem_of_getElem? (i := 55) rfl))) (ty := .int) (by decide)
      refine Go.by st117 ?_
      show Go _ _ _ _ T117 (mkF m 62 #[.val (.int p0), .val (.int p1), .val (.int p2), .val (.int p3), .val (.int (1 : Int32)), .val (.ref cs_), .val (.ref st), .unset, .unset] [(.ref t)])
      refine Go.by (fun _ gk => XS.dup X117.here hx rfl (hb hby at_62) rfl rfl gk) ?_
      show Go _ _ _ _ T117 (mkF m 63 #[.val (.int p0), .val (.int p1), .val (.int p2), .val (.int p3), .val (.int (1 : Int32)), .val (.ref cs_), .val (.ref st), .unset, .unset] [(.ref t), (.ref t)])
      refine Go.by (fun _ gk => XS.iload X117.here hx rfl (hb hby at_63) rfl gk) ?_
      show Go _ _ _ _ T117 (mkF m 65 #[.val (.int p0), .val (.int p1), .val (.int p2), .val (.int p3), .val (.int (1 : Int32)), .val (.ref cs_), .val (.ref st), .unset, .unset] [(.int (1 : Int32)), (.ref t), (.ref t)])
      have F130 : Old Z n0 h99 := O0.ext E99
      have F131 : Old Z n0 h102 := F130.wr W102 ge_cs_
      have F132 : Old Z n0 h105 := F131.wr W105 ge_cs_
      have F133 : Old Z n0 h109 := F132.ext E109
      have F134 : Old Z n0 h117 := F133.ext E117
      have F135 : n0 ≤ h117.size := Nat.le_trans F121 E117.1
      obtain ⟨_, _, ⟨T136, L136, k136, n136⟩, -, X136, ⟨Lc136, hQ136, l136, y136, z136⟩, st136⟩ := Jvm.LawKit.callS X117 hx (y := (⟨"com/example/attache/attache/query/TokenIsParameterPinLaw", "kindOf", "(I)Lcom/example/attache/attache/query/Token$Kind;"⟩ : MethodName)) hown109 (mvT hZ109 (hw _ (List.mem_of_getElem? (i := 34) rfl))) (mvT hZ109 (hw _ (List.mem_of_getElem? (i := 35) rfl))) (mvT hZ109 (hw _ (List.mem_of_getElem? (i := 36) rfl))) (mvT hZ109 (hw _ (List.mem_of_getElem? (i := 37) rfl))) (by decide) (backOf (W := 2) (rmKind l Z a0 hw [] (1 : Int32) c_STRING c_WORD c_STRING c_NUMBER c_NAMED_PARAMETER c_POSITIONAL_PARAMETER c_SYMBOL c_END h117 n0 F135 F134 (Or.inr (Or.inl ⟨rfl, rfl⟩)) S_c_WORD E_c_WORD O_c_WORD S_c_STRING E_c_STRING O_c_STRING S_c_NUMBER E_c_NUMBER O_c_NUMBER S_c_NAMED_PARAMETER E_c_NAMED_PARAMETER O_c_NAMED_PARAMETER S_c_POSITIONAL_PARAMETER E_c_POSITIONAL_PARAMETER O_c_POSITIONAL_PARAMETER S_c_SYMBOL E_c_SYMBOL O_c_SYMBOL S_c_END E_c_END O_c_END) hZ109 (hw _ (List.mem_of_getElem? (i := 37) rfl)) (hw _ (List.mem_of_getElem? (i := 36) rfl)) (by decide) (by decide)) (g := (mkF m 65 #[.val (.int p0), .val (.int p1), .val (.int p2), .val (.int p3), .val (.int (1 : Int32)), .val (.ref cs_), .val (.ref st), .unset, .unset] [(.int (1 : Int32)), (.ref t), (.ref t)])) rfl (by rw [hml]; rfl) (argsL := [(.int (1 : Int32))]) (rest := [(.ref t), (.ref t)]) (lenOf pd_153 rfl) rfl (by show 2 * 0 + _ ≤ _; exact Nat.le_of_eq rfl) (hb hby at_65) (fun _ _ => ⟨rfl, e117, (by decide : 4 + 0 ≤ _), (by decide : 9 + 0 ≤ _)⟩)
      dsimp only [Pt.U, Pt.locs, Pt.cells, Pt.slots] at X136 l136 y136 z136 st136 hQ136
      subst l136 y136 z136
      obtain ⟨rfl, N136q, e136⟩ := hQ136
      have N136 := Fr.app N105 N136q
      refine Go.by st136 ?_
      show Go _ _ _ _ T136 (mkF m 68 #[.val (.int p0), .val (.int p1), .val (.int p2), .val (.int p3), .val (.int (1 : Int32)), .val (.ref cs_), .val (.ref st), .unset, .unset] [(.ref c_STRING), (.ref t), (.ref t)])
      refine Go.by (fun _ gk => XS.aload X136.here hx rfl (hb hby at_68) rfl rfl gk) ?_
      show Go _ _ _ _ T136 (mkF m 70 #[.val (.int p0), .val (.int p1), .val (.int p2), .val (.int p3), .val (.int (1 : Int32)), .val (.ref cs_), .val (.ref st), .unset, .unset] [(.ref st), (.ref c_STRING), (.ref t), (.ref t)])
      refine Go.by (fun _ gk => XS.iloadN X136.here hx rfl (hb hby at_70) rfl gk) ?_
      show Go _ _ _ _ T136 (mkF m 71 #[.val (.int p0), .val (.int p1), .val (.int p2), .val (.int p3), .val (.int (1 : Int32)), .val (.ref cs_), .val (.ref st), .unset, .unset] [(.int p2), (.ref st), (.ref c_STRING), (.ref t), (.ref t)])
      obtain ⟨_, _, ⟨T137, L137, k137, n137⟩, -, X137, ⟨Lc137, hQ137, l137, y137, z137⟩, st137⟩ := X136.specialBack hx (y := (⟨"com/example/attache/attache/query/Token", "<init>", "(Lcom/example/attache/attache/query/Token$Kind;Ljava/lang/String;I)V"⟩ : MethodName)) rfl hown109 (mvT hZ109 (hw _ (List.mem_of_getElem? (i := 41) rfl))) (mvT hZ109 (hw _ (List.mem_of_getElem? (i := 42) rfl))) (mvT hZ109 (hw _ (List.mem_of_getElem? (i := 43) rfl))) (by decide) (backOf (W := 1) (rmToken l Z a0 hw [] t c_STRING st p2 h117 n0 F135 A117 F_kind_t F_text_t F_position_t ge_t) hZ109 (hw _ (List.mem_of_getElem? (i := 43) rfl)) (hw _ (List.mem_of_getElem? (i := 33) rfl)) (by decide) (by decide)) (g := (mkF m 71 #[.val (.int p0), .val (.int p1), .val (.int p2), .val (.int p3), .val (.int (1 : Int32)), .val (.ref cs_), .val (.ref st), .unset, .unset] [(.int p2), (.ref st), (.ref c_STRING), (.ref t), (.ref t)])) rfl (by rw [hml]; rfl) (Steps.refl _) (a := t) (argsL := [(.ref c_STRING), (.ref st), (.int p2)]) (rest := [(.ref t)]) (lenOf pd_154 rfl) rfl (by show 2 * 0 + _ ≤ _; exact Nat.le_of_eq rfl) (hb hby at_71) (fun _ _ => ⟨rfl, e136, (by decide : 4 + 0 ≤ _), (by decide : 9 + 0 ≤ _)⟩)
      dsimp only [Pt.U, Pt.locs, Pt.cells, Pt.slots] at X137 l137 y137 z137 st137 hQ137
      subst l137 y137 z137
      obtain ⟨rfl, N137q, K137, Q137_0, Q137_1⟩ := hQ137
      have N137 := Fr.app N136 N137q
      have C138 : CHr Z own_EL s.vm h0 T109.vm T137.heap := C127.trans (CHr.keep K137 (sfS Sf129 sf0) C127.1)
      have Sf139 : Safe Z own_EL T109.vm T137.heap cs_ := Safe.keep K137 (sfS Sf129 sf0) C127.1 Sf128
      have Sf140 : Safe Z own_EL T109.vm T137.heap t := Safe.keep K137 (sfS Sf129 sf0) C127.1 Sf129
      refine Go.to st137 ?_
      show Go _ _ _ _ T137 (mkF m 74 #[.val (.int p0), .val (.int p1), .val (.int p2), .val (.int p3), .val (.int (1 : Int32)), .val (.ref cs_), .val (.ref st), .unset, .unset] [(.ref t)])
      refine Go.by (fun _ gk => XS.astore X137.here hx rfl (hb hby at_74) rfl rfl (l' := #[.val (.int p0), .val (.int p1), .val (.int p2), .val (.int p3), .val (.int (1 : Int32)), .val (.ref cs_), .val (.ref st), .val (.ref t), .unset]) rfl gk) ?_
      show Go _ _ _ _ T137 (mkF m 76 #[.val (.int p0), .val (.int p1), .val (.int p2), .val (.int p3), .val (.int (1 : Int32)), .val (.ref cs_), .val (.ref st), .val (.ref t), .unset] [])
      refine Go.by (fun _ gk => XS.iload X137.here hx rfl (hb hby at_76) rfl gk) ?_
      show Go _ _ _ _ T137 (mkF m 78 #[.val (.int p0), .val (.int p1), .val (.int p2), .val (.int p3), .val (.int (1 : Int32)), .val (.ref cs_), .val (.ref st), .val (.ref t), .unset] [(.int (1 : Int32))])
      refine Go.by (fun _ gk => XT.iconstV X137.here hx rfl (3 : Int32) (hb hby at_78) (by decide) gk) ?_
      show Go _ _ _ _ T137 (mkF m 79 #[.val (.int p0), .val (.int p1), .val (.int p2), .val (.int p3), .val (.int (1 : Int32)), .val (.ref cs_), .val (.ref st), .val (.ref t), .unset] [(.int (3 : Int32)), (.int (1 : Int32))])
      refine Go.by (fun _ gk => XS.icmpNo X137.here hx rfl (hb hby at_79) rfl (XT.ii_eq_f (by decide)) gk) ?_
      show Go _ _ _ _ T137 (mkF m 82 #[.val (.int p0), .val (.int p1), .val (.int p2), .val (.int p3), .val (.int (1 : Int32)), .val (.ref cs_), .val (.ref st), .val (.ref t), .unset] [])
      refine Go.by (fun _ gk => XS.iload X137.here hx rfl (hb hby at_82) rfl gk) ?_
      show Go _ _ _ _ T137 (mkF m 84 #[.val (.int p0), .val (.int p1), .val (.int p2), .val (.int p3), .val (.int (1 : Int32)), .val (.ref cs_), .val (.ref st), .val (.ref t), .unset] [(.int (1 : Int32))])
      refine Go.by (fun _ gk => XT.iconstV X137.here hx rfl (4 : Int32) (hb hby at_84) (by decide) gk) ?_
      show Go _ _ _ _ T137 (mkF m 85 #[.val (.int p0), .val (.int p1), .val (.int p2), .val (.int p3), .val (.int (1 : Int32)), .val (.ref cs_), .val (.ref st), .val (.ref t), .unset] [(.int (4 : Int32)), (.int (1 : Int32))])
      refine Go.by (fun _ gk => XS.icmpYes X137.here hx rfl (pc0 := 85) (pc' := 92) rfl (hb hby at_85) rfl (XT.ii_ne_t (by decide)) (by decide) (by decide) gk) ?_
      show Go _ _ _ _ T137 (mkF m 92 #[.val (.int p0), .val (.int p1), .val (.int p2), .val (.int p3), .val (.int (1 : Int32)), .val (.ref cs_), .val (.ref st), .val (.ref t), .unset] [])
      refine Go.by (fun _ gk => XT.iconstV X137.here hx rfl (0 : Int32) (hb hby at_92) (by decide) gk) ?_
      show Go _ _ _ _ T137 (mkF m 93 #[.val (.int p0), .val (.int p1), .val (.int p2), .val (.int p3), .val (.int (1 : Int32)), .val (.ref cs_), .val (.ref st), .val (.ref t), .unset] [(.int (0 : Int32))])
      refine Go.by (fun _ gk => XS.istore X137.here hx rfl (hb hby at_93) rfl (l' := #[.val (.int p0), .val (.int p1), .val (.int p2), .val (.int p3), .val (.int (1 : Int32)), .val (.ref cs_), .val (.ref st), .val (.ref t), .val (.int (0 : Int32))]) rfl gk) ?_
      show Go _ _ _ _ T137 (mkF m 95 #[.val (.int p0), .val (.int p1), .val (.int p2), .val (.int p3), .val (.int (1 : Int32)), .val (.ref cs_), .val (.ref st), .val (.ref t), .val (.int (0 : Int32))] [])
      refine Go.by (fun _ gk => XS.aload X137.here hx rfl (hb hby at_95) rfl rfl gk) ?_
      show Go _ _ _ _ T137 (mkF m 97 #[.val (.int p0), .val (.int p1), .val (.int p2), .val (.int p3), .val (.int (1 : Int32)), .val (.ref cs_), .val (.ref st), .val (.ref t), .val (.int (0 : Int32))] [(.ref t)])
      have F141 : Old Z n0 T137.heap := F134.keep K137 (allS ge_t all0)
      have F142 : n0 ≤ T137.heap.size := Nat.le_trans F135 K137.1
      obtain ⟨cq143, kq143, q143a, q143b, q143c⟩ := isOf hZ109 rfl Q137_0
      obtain ⟨_, _, ⟨T143, L143, k143, n143⟩, -, X143, ⟨Lc143, hQ143, l143, y143, z143⟩, st143⟩ := X137.virtualBack hx (y := (⟨"com/example/attache/attache/query/Token", "isParameter", "()Z"⟩ : MethodName)) (z := (⟨"com/example/attache/attache/query/Token", "isParameter", "()Z"⟩ : MethodName)) hown109 (mvT hZ109 (hw _ (List.mem_of_getElem? (i := 56) rfl))) (mvT hZ109 (hw _ (List.mem_of_getElem? (i := 57) rfl))) (notFace_of_selects (args := #[]) (mvT hZ109 (hw _ (List.mem_of_getElem? (i := 59) rfl)))) (mvT hZ109 (hw _ (List.mem_of_getElem? (i := 59) rfl))) (mvT hZ109 (hw _ (List.mem_of_getElem? (i := 58) rfl))) (by decide) (backOf (W := 0) (rmIsP l Z a0 hw [] t c_STRING (0 : Int32) c_WORD c_STRING c_NUMBER c_NAMED_PARAMETER c_POSITIONAL_PARAMETER c_SYMBOL c_END T137.heap n0 F142 F141 Q137_1 (Or.inr (Or.inl ⟨rfl, rfl⟩)) S_c_WORD E_c_WORD O_c_WORD S_c_STRING E_c_STRING O_c_STRING S_c_NUMBER E_c_NUMBER O_c_NUMBER S_c_NAMED_PARAMETER E_c_NAMED_PARAMETER O_c_NAMED_PARAMETER S_c_POSITIONAL_PARAMETER E_c_POSITIONAL_PARAMETER O_c_POSITIONAL_PARAMETER S_c_SYMBOL E_c_SYMBOL O_c_SYMBOL S_c_END E_c_END O_c_END) hZ109 (hw _ (List.mem_of_getElem? (i := 60) rfl)) (hw _ (List.mem_of_getElem? (i := 33) rfl)) (by decide) (by decide)) q143a q143c (g := (mkF m 97 #[.val (.int p0), .val (.int p1), .val (.int p2), .val (.int p3), .val (.int (1 : Int32)), .val (.ref cs_), .val (.ref st), .val (.ref t), .val (.int (0 : Int32))] [(.ref t)])) rfl (by rw [hml]; rfl) (Steps.refl _) (argsL := []) (rest := []) (lenOf pd_155 rfl) rfl (by show 2 * 0 + _ ≤ _; exact Nat.le_of_eq rfl) (hb hby at_97) (fun _ _ => ⟨rfl, rfl, (by decide : 4 + 0 ≤ _), (by decide : 9 + 0 ≤ _)⟩)
      dsimp only [Pt.U, Pt.locs, Pt.cells, Pt.slots] at X143 l143 y143 z143 st143 hQ143
      subst l143 y143 z143
      obtain ⟨rfl, N143q, e143⟩ := hQ143
      have N143 := Fr.app N137 N143q
      refine Go.to st143 ?_
      show Go _ _ _ _ T143 (mkF m 100 #[.val (.int p0), .val (.int p1), .val (.int p2), .val (.int p3), .val (.int (1 : Int32)), .val (.ref cs_), .val (.ref st), .val (.ref t), .val (.int (0 : Int32))] [(.int (0 : Int32))])
      refine Go.by (fun _ gk => XS.iload X143.here hx rfl (hb hby at_100) rfl gk) ?_
      show Go _ _ _ _ T143 (mkF m 102 #[.val (.int p0), .val (.int p1), .val (.int p2), .val (.int p3), .val (.int (1 : Int32)), .val (.ref cs_), .val (.ref st), .val (.ref t), .val (.int (0 : Int32))] [(.int (0 : Int32)), (.int (0 : Int32))])
      refine Go.by (fun _ gk => XS.icmpNo X143.here hx rfl (hb hby at_102) rfl (XT.ii_ne_f rfl) gk) ?_
      show Go _ _ _ _ T143 (mkF m 105 #[.val (.int p0), .val (.int p1), .val (.int p2), .val (.int p3), .val (.int (1 : Int32)), .val (.ref cs_), .val (.ref st), .val (.ref t), .val (.int (0 : Int32))] [])
      refine Go.by (fun _ gk => XT.iconstV X143.here hx rfl (1 : Int32) (hb hby at_105) (by decide) gk) ?_
      show Go _ _ _ _ T143 (mkF m 106 #[.val (.int p0), .val (.int p1), .val (.int p2), .val (.int p3), .val (.int (1 : Int32)), .val (.ref cs_), .val (.ref st), .val (.ref t), .val (.int (0 : Int32))] [(.int (1 : Int32))])
      refine Go.by (fun _ gk => XS.goto X143.here hx rfl (pc0 := 106) (pc' := 110) rfl (hb hby at_106) (by decide) (by decide) gk) ?_
      show Go _ _ _ _ T143 (mkF m 110 #[.val (.int p0), .val (.int p1), .val (.int p2), .val (.int p3), .val (.int (1 : Int32)), .val (.ref cs_), .val (.ref st), .val (.ref t), .val (.int (0 : Int32))] [(.int (1 : Int32))])
      have F144 : kq109 ≤ h117.size := Nat.le_trans hk109 E117.1
      have F145 : kq109 ≤ T137.heap.size := Nat.le_trans F144 K137.1
      exact Go.retIW X143 hx Bd.notSynchronized hS109 (by rw [e143]; exact F145) hZ109 hEL (by rw [hh, e143]; exact C138) Bd.returns rfl (by simp) (hb hby at_110) (by rw [e143]; exact ⟨rfl, N143⟩) (by decide) (by decide)
    · refine Go.by (fun _ gk => XS.ifNo X105.here hx rfl (hb hby at_40) rfl (XT.i0_eq_f hb108) gk) ?_
      show Go _ _ _ _ T105 (mkF m 43 #[.val (.int p0), .val (.int p1), .val (.int p2), .val (.int p3), .val (.int (1 : Int32)), .val (.ref cs_), .unset, .unset, .unset] [])
      have F147 : n0 ≤ h99.size := Nat.le_trans Z0 E99.1
      have F148 : n0 ≤ h102.size := Nat.le_trans F147 (Nat.le_of_eq (Wr.size W102).symm)
      have F149 : n0 ≤ h105.size := Nat.le_trans F148 (Nat.le_of_eq (Wr.size W105).symm)
      obtain ⟨st, g146⟩ : ∃ z, z = h105.size := ⟨_, rfl⟩
      have ge_st : n0 ≤ st := Nat.le_trans F149 (Nat.le_of_eq g146.symm)
      have F150 : Keep h0 h99 [] := (Keep.refl h0 []).ext E99
      have F151 : Keep h0 h102 [] := F150.wr W102 (Or.inr sz_cs_)
      have F152 : Keep h0 h105 [] := F151.wr W105 (Or.inr sz_cs_)
      have sz_st : h0.size ≤ st := Nat.le_trans F152.1 (Nat.le_of_eq g146.symm)
      have F153 : Exa Z h102 cs_ "[C" := Ea99.wr W102
      have F154 : Exa Z h105 cs_ "[C" := F153.wr W105
      have ne_cs__st : cs_ ≠ st := Nat.ne_of_lt (Nat.lt_of_lt_of_le F154.lt (Nat.le_of_eq g146.symm))
      obtain ⟨T146, h146, X146, e146, E146, A146, D146, -, st146⟩ := newO X105 hx hZ hown (hw _ (List.mem_of_getElem? (i := 2) rfl)) (hw _ (List.mem_of_getElem? (i := 3) rfl)) (hw _ (List.mem_of_getElem? (i := 4) rfl)) e105 (g := (mkF m 43 #[.val (.int p0), .val (.int p1), .val (.int p2), .val (.int p3), .val (.int (1 : Int32)), .val (.ref cs_), .unset, .unset, .unset] [])) rfl (hb hby at_43) (by decide) (by decide)
      rw [← g146] at A146 D146 st146
      have C155 : CHr Z own_EL s.vm h0 s.vm h146 := C106.trans (CHr.ext E146 C106.1)
      have Sf156 : Safe Z own_EL s.vm h146 cs_ := Safe.ext E146 C106.1 Sf107
      have Sf157 : Safe Z own_EL s.vm h146 st := Safe.ext E146 C106.1 (Safe.new (Nat.le_of_eq g146.symm))
      have F_coder_st : Fld Z h146 st "java/lang/String" "coder" "B" (.int (0 : Int32)) := D146 (Or.inr (hw _ (List.mem_of_getElem? (i := 28) rfl))) (ty := .byte) (by decide)
      have F_value_st : Fld Z h146 st "java/lang/String" "value" "[B" .null := D146 (Or.inr (hw _ (List.mem_of_getElem? (i := 30) rfl))) (ty := (.array .byte)) (by decide)
      refine Go.by st146 ?_
      show Go _ _ _ _ T146 (mkF m 46 #[.val (.int p0), .val (.int p1), .val (.int p2), .val (.int p3), .val (.int (1 : Int32)), .val (.ref cs_), .unset, .unset, .unset] [(.ref st)])
      refine Go.by (fun _ gk => XS.dup X146.here hx rfl (hb hby at_46) rfl rfl gk) ?_
      show Go _ _ _ _ T146 (mkF m 47 #[.val (.int p0), .val (.int p1), .val (.int p2), .val (.int p3), .val (.int (1 : Int32)), .val (.ref cs_), .unset, .unset, .unset] [(.ref st), (.ref st)])
      refine Go.by (fun _ gk => XS.aload X146.here hx rfl (hb hby at_47) rfl rfl gk) ?_
      show Go _ _ _ _ T146 (mkF m 49 #[.val (.int p0), .val (.int p1), .val (.int p2), .val (.int p3), .val (.int (1 : Int32)), .val (.ref cs_), .unset, .unset, .unset] [(.ref cs_), (.ref st), (.ref st)])
      have F158 : Old Z n0 h99 := O0.ext E99
      have F159 : Old Z n0 h102 := F158.wr W102 ge_cs_
      have F160 : Old Z n0 h105 := F159.wr W105 ge_cs_
      have F161 : Old Z n0 h146 := F160.ext E146
      have F162 : Arv Z h146 cs_ k99 .char (2 : Int32) [(.int (p1 &&& (255 : Int32))), (.int ((XT.ushr p1 (8 : Int32)) &&& (255 : Int32)))] (.int (0 : Int32)) := V105.ext E146
      have F163 : n0 ≤ h146.size := Nat.le_trans F149 E146.1
      have F164 : Keep h0 h146 [] := F152.ext E146
      have F165 : Exa Z h146 cs_ "[C" := F154.ext E146
      obtain ⟨_, _, ⟨T166, L166, k166, n166⟩, -, X166, ⟨Lc166, hQ166, l166, y166, z166⟩, st166⟩ := X146.specialBack hx (y := (⟨"java/lang/String", "<init>", "([C)V"⟩ : MethodName)) rfl hown (mvT hZ (hw _ (List.mem_of_getElem? (i := 5) rfl))) (mvT hZ (hw _ (List.mem_of_getElem? (i := 6) rfl))) (mvT hZ (hw _ (List.mem_of_getElem? (i := 7) rfl))) (by decide) (backOf (W := 1) (rmS1_2 l Z a0 hw [] st cs_ k99 (p1 &&& (255 : Int32)) ((XT.ushr p1 (8 : Int32)) &&& (255 : Int32)) cs h146 n0 F163 F161 A146 F_value_st F_coder_st ge_st F162 (own_255 _) (own_255 _) S_cs n_cs) hZ (hw _ (List.mem_of_getElem? (i := 7) rfl)) (hw _ (List.mem_of_getElem? (i := 4) rfl)) (by decide) (by decide)) (g := (mkF m 49 #[.val (.int p0), .val (.int p1), .val (.int p2), .val (.int p3), .val (.int (1 : Int32)), .val (.ref cs_), .unset, .unset, .unset] [(.ref cs_), (.ref st), (.ref st)])) rfl (by rw [hml]; rfl) (Steps.refl _) (a := st) (argsL := [(.ref cs_)]) (rest := [(.ref st)]) (lenOf pd_156 rfl) rfl (by show 2 * 0 + _ ≤ _; exact Nat.le_of_eq rfl) (hb hby at_49) (fun _ _ => ⟨rfl, e146, (by decide : 2 + 1 ≤ _), (by decide : 6 + 2 ≤ _)⟩)
      dsimp only [Pt.U, Pt.locs, Pt.cells, Pt.slots] at X166 l166 y166 z166 st166 hQ166
      subst l166 y166 z166
      obtain ⟨b_166, kb_166, rfl, N166q, K166, Q166_0, Q166_1, Q166_2, Q166_3, Q166_4⟩ := hQ166
      have N166 := Fr.app N105 N166q
      have C167 : CHr Z own_EL s.vm h0 s.vm T166.heap := C155.trans (CHr.keep K166 (sfS Sf157 sf0) C155.1)
      have Sf168 : Safe Z own_EL s.vm T166.heap cs_ := Safe.keep K166 (sfS Sf157 sf0) C155.1 Sf156
      have Sf169 : Safe Z own_EL s.vm T166.heap st := Safe.keep K166 (sfS Sf157 sf0) C155.1 Sf157
      refine Go.to st166 ?_
      show Go _ _ _ _ T166 (mkF m 52 #[.val (.int p0), .val (.int p1), .val (.int p2), .val (.int p3), .val (.int (1 : Int32)), .val (.ref cs_), .unset, .unset, .unset] [(.ref st)])
      have ge_b_166 : n0 ≤ b_166 := Nat.le_trans F163 Q166_4
      have sz_b_166 : h0.size ≤ b_166 := Nat.le_trans F164.1 Q166_4
      have ne_cs__b_166 : cs_ ≠ b_166 := Nat.ne_of_lt (Nat.lt_of_lt_of_le F162.lt Q166_4)
      have ne_st_b_166 : st ≠ b_166 := Nat.ne_of_lt (Nat.lt_of_lt_of_le A146.lt Q166_4)
      refine Go.by (fun _ gk => XS.goto X166.here hx rfl (pc0 := 52) (pc' := 57) rfl (hb hby at_52) (by decide) (by decide) gk) ?_
      show Go _ _ _ _ T166 (mkF m 57 #[.val (.int p0), .val (.int p1), .val (.int p2), .val (.int p3), .val (.int (1 : Int32)), .val (.ref cs_), .unset, .unset, .unset] [(.ref st)])
      refine Go.by (fun _ gk => XS.astore X166.here hx rfl (hb hby at_57) rfl rfl (l' := #[.val (.int p0), .val (.int p1), .val (.int p2), .val (.int p3), .val (.int (1 : Int32)), .val (.ref cs_), .val (.ref st), .unset, .unset]) rfl gk) ?_
      show Go _ _ _ _ T166 (mkF m 59 #[.val (.int p0), .val (.int p1), .val (.int p2), .val (.int p3), .val (.int (1 : Int32)), .val (.ref cs_), .val (.ref st), .unset, .unset] [])
      have F171 : n0 ≤ T166.heap.size := Nat.le_trans F163 K166.1
      obtain ⟨t, g170⟩ : ∃ z, z = T166.heap.size := ⟨_, rfl⟩
      have ge_t : n0 ≤ t := Nat.le_trans F171 (Nat.le_of_eq g170.symm)
      have F172 : Keep h0 T166.heap [] := F164.trans K166 (allS (Or.inr sz_st) all0)
      have sz_t : h0.size ≤ t := Nat.le_trans F172.1 (Nat.le_of_eq g170.symm)
      have ne_b_166_t : b_166 ≠ t := Nat.ne_of_lt (Nat.lt_of_lt_of_le Q166_3.lt (Nat.le_of_eq g170.symm))
      have F173 : Exa Z T166.heap cs_ "[C" := F165.keep K166
      have ne_cs__t : cs_ ≠ t := Nat.ne_of_lt (Nat.lt_of_lt_of_le F173.lt (Nat.le_of_eq g170.symm))
      have ne_st_t : st ≠ t := Nat.ne_of_lt (Nat.lt_of_lt_of_le Q166_0.lt (Nat.le_of_eq g170.symm))
      obtain ⟨T170, h170, X170, e170, E170, A170, D170, -, st170⟩ := newO X166 hx hZ hown (hw _ (List.mem_of_getElem? (i := 31) rfl)) (hw _ (List.mem_of_getElem? (i := 32) rfl)) (hw _ (List.mem_of_getElem? (i := 33) rfl)) rfl (g := (mkF m 59 #[.val (.int p0), .val (.int p1), .val (.int p2), .val (.int p3), .val (.int (1 : Int32)), .val (.ref cs_), .val (.ref st), .unset, .unset] [])) rfl (hb hby at_59) (by decide) (by decide)
      rw [← g170] at A170 D170 st170
      have C174 : CHr Z own_EL s.vm h0 s.vm h170 := C167.trans (CHr.ext E170 C167.1)
      have Sf175 : Safe Z own_EL s.vm h170 cs_ := Safe.ext E170 C167.1 Sf168
      have Sf176 : Safe Z own_EL s.vm h170 st := Safe.ext E170 C167.1 Sf169
      have Sf177 : Safe Z own_EL s.vm h170 t := Safe.ext E170 C167.1 (Safe.new (Nat.le_of_eq g170.symm))
      have F_kind_t : Fld Z h170 t "com/example/attache/attache/query/Token" "kind" "Lcom/example/attache/attache/query/Token$Kind;" .null := D170 (Or.inr (hw _ (List.mem_of_getElem? (i := 51) rfl))) (ty := (.object "com/example/attache/attache/query/Token$Kind")) (by decide)
      have F_text_t : Fld Z h170 t "com/example/attache/attache/query/Token" "text" "Ljava/lang/String;" .null := D170 (Or.inr (hw _ (List.mem_of_getElem? (i := 53) rfl))) (ty := (.object "java/lang/String")) (by decide)
      have F_position_t : Fld Z h170 t "com/example/attache/attache/query/Token" "position" "I" (.int (0 : Int32)) := D170 (Or.inr (hw _ (List.mem_of_getElem? (i := 55) rfl))) (ty := .int) (by decide)
      refine Go.by st170 ?_
      show Go _ _ _ _ T170 (mkF m 62 #[.val (.int p0), .val (.int p1), .val (.int p2), .val (.int p3), .val (.int (1 : Int32)), .val (.ref cs_), .val (.ref st), .unset, .unset] [(.ref t)])
      refine Go.by (fun _ gk => XS.dup X170.here hx rfl (hb hby at_62) rfl rfl gk) ?_
      show Go _ _ _ _ T170 (mkF m 63 #[.val (.int p0), .val (.int p1), .val (.int p2), .val (.int p3), .val (.int (1 : Int32)), .val (.ref cs_), .val (.ref st), .unset, .unset] [(.ref t), (.ref t)])
      refine Go.by (fun _ gk => XS.iload X170.here hx rfl (hb hby at_63) rfl gk) ?_
      show Go _ _ _ _ T170 (mkF m 65 #[.val (.int p0), .val (.int p1), .val (.int p2), .val (.int p3), .val (.int (1 : Int32)), .val (.ref cs_), .val (.ref st), .unset, .unset] [(.int (1 : Int32)), (.ref t), (.ref t)])
      have F178 : Old Z n0 T166.heap := F161.keep K166 (allS ge_st all0)
      have F179 : Old Z n0 h170 := F178.ext E170
      have F180 : n0 ≤ h170.size := Nat.le_trans F171 E170.1
      obtain ⟨_, _, ⟨T181, L181, k181, n181⟩, -, X181, ⟨Lc181, hQ181, l181, y181, z181⟩, st181⟩ := Jvm.LawKit.callS X170 hx (y := (⟨"com/example/attache/attache/query/TokenIsParameterPinLaw", "kindOf", "(I)Lcom/example/attache/attache/query/Token$Kind;"⟩ : MethodName)) hown (mvT hZ (hw _ (List.mem_of_getElem? (i := 34) rfl))) (mvT hZ (hw _ (List.mem_of_getElem? (i := 35) rfl))) (mvT hZ (hw _ (List.mem_of_getElem? (i := 36) rfl))) (mvT hZ (hw _ (List.mem_of_getElem? (i := 37) rfl))) (by decide) (backOf (W := 2) (rmKind l Z a0 hw [] (1 : Int32) c_STRING c_WORD c_STRING c_NUMBER c_NAMED_PARAMETER c_POSITIONAL_PARAMETER c_SYMBOL c_END h170 n0 F180 F179 (Or.inr (Or.inl ⟨rfl, rfl⟩)) S_c_WORD E_c_WORD O_c_WORD S_c_STRING E_c_STRING O_c_STRING S_c_NUMBER E_c_NUMBER O_c_NUMBER S_c_NAMED_PARAMETER E_c_NAMED_PARAMETER O_c_NAMED_PARAMETER S_c_POSITIONAL_PARAMETER E_c_POSITIONAL_PARAMETER O_c_POSITIONAL_PARAMETER S_c_SYMBOL E_c_SYMBOL O_c_SYMBOL S_c_END E_c_END O_c_END) hZ (hw _ (List.mem_of_getElem? (i := 37) rfl)) (hw _ (List.mem_of_getElem? (i := 36) rfl)) (by decide) (by decide)) (g := (mkF m 65 #[.val (.int p0), .val (.int p1), .val (.int p2), .val (.int p3), .val (.int (1 : Int32)), .val (.ref cs_), .val (.ref st), .unset, .unset] [(.int (1 : Int32)), (.ref t), (.ref t)])) rfl (by rw [hml]; rfl) (argsL := [(.int (1 : Int32))]) (rest := [(.ref t), (.ref t)]) (lenOf pd_153 rfl) rfl (by show 2 * 0 + _ ≤ _; exact Nat.le_of_eq rfl) (hb hby at_65) (fun _ _ => ⟨rfl, e170, (by decide : 4 + 0 ≤ _), (by decide : 11 + 0 ≤ _)⟩)
      dsimp only [Pt.U, Pt.locs, Pt.cells, Pt.slots] at X181 l181 y181 z181 st181 hQ181
      subst l181 y181 z181
      obtain ⟨rfl, N181q, e181⟩ := hQ181
      have N181 := Fr.app N166 N181q
      refine Go.by st181 ?_
      show Go _ _ _ _ T181 (mkF m 68 #[.val (.int p0), .val (.int p1), .val (.int p2), .val (.int p3), .val (.int (1 : Int32)), .val (.ref cs_), .val (.ref st), .unset, .unset] [(.ref c_STRING), (.ref t), (.ref t)])
      refine Go.by (fun _ gk => XS.aload X181.here hx rfl (hb hby at_68) rfl rfl gk) ?_
      show Go _ _ _ _ T181 (mkF m 70 #[.val (.int p0), .val (.int p1), .val (.int p2), .val (.int p3), .val (.int (1 : Int32)), .val (.ref cs_), .val (.ref st), .unset, .unset] [(.ref st), (.ref c_STRING), (.ref t), (.ref t)])
      refine Go.by (fun _ gk => XS.iloadN X181.here hx rfl (hb hby at_70) rfl gk) ?_
      show Go _ _ _ _ T181 (mkF m 71 #[.val (.int p0), .val (.int p1), .val (.int p2), .val (.int p3), .val (.int (1 : Int32)), .val (.ref cs_), .val (.ref st), .unset, .unset] [(.int p2), (.ref st), (.ref c_STRING), (.ref t), (.ref t)])
      obtain ⟨_, _, ⟨T182, L182, k182, n182⟩, -, X182, ⟨Lc182, hQ182, l182, y182, z182⟩, st182⟩ := X181.specialBack hx (y := (⟨"com/example/attache/attache/query/Token", "<init>", "(Lcom/example/attache/attache/query/Token$Kind;Ljava/lang/String;I)V"⟩ : MethodName)) rfl hown (mvT hZ (hw _ (List.mem_of_getElem? (i := 41) rfl))) (mvT hZ (hw _ (List.mem_of_getElem? (i := 42) rfl))) (mvT hZ (hw _ (List.mem_of_getElem? (i := 43) rfl))) (by decide) (backOf (W := 1) (rmToken l Z a0 hw [] t c_STRING st p2 h170 n0 F180 A170 F_kind_t F_text_t F_position_t ge_t) hZ (hw _ (List.mem_of_getElem? (i := 43) rfl)) (hw _ (List.mem_of_getElem? (i := 33) rfl)) (by decide) (by decide)) (g := (mkF m 71 #[.val (.int p0), .val (.int p1), .val (.int p2), .val (.int p3), .val (.int (1 : Int32)), .val (.ref cs_), .val (.ref st), .unset, .unset] [(.int p2), (.ref st), (.ref c_STRING), (.ref t), (.ref t)])) rfl (by rw [hml]; rfl) (Steps.refl _) (a := t) (argsL := [(.ref c_STRING), (.ref st), (.int p2)]) (rest := [(.ref t)]) (lenOf pd_154 rfl) rfl (by show 2 * 0 + _ ≤ _; exact Nat.le_of_eq rfl) (hb hby at_71) (fun _ _ => ⟨rfl, e181, (by decide : 4 + 0 ≤ _), (by decide : 11 + 0 ≤ _)⟩)
      dsimp only [Pt.U, Pt.locs, Pt.cells, Pt.slots] at X182 l182 y182 z182 st182 hQ182
      subst l182 y182 z182
      obtain ⟨rfl, N182q, K182, Q182_0, Q182_1⟩ := hQ182
      have N182 := Fr.app N181 N182q
      have C183 : CHr Z own_EL s.vm h0 s.vm T182.heap := C174.trans (CHr.keep K182 (sfS Sf177 sf0) C174.1)
      have Sf184 : Safe Z own_EL s.vm T182.heap cs_ := Safe.keep K182 (sfS Sf177 sf0) C174.1 Sf175
      have Sf185 : Safe Z own_EL s.vm T182.heap st := Safe.keep K182 (sfS Sf177 sf0) C174.1 Sf176
      have Sf186 : Safe Z own_EL s.vm T182.heap t := Safe.keep K182 (sfS Sf177 sf0) C174.1 Sf177
      refine Go.to st182 ?_
      show Go _ _ _ _ T182 (mkF m 74 #[.val (.int p0), .val (.int p1), .val (.int p2), .val (.int p3), .val (.int (1 : Int32)), .val (.ref cs_), .val (.ref st), .unset, .unset] [(.ref t)])
      refine Go.by (fun _ gk => XS.astore X182.here hx rfl (hb hby at_74) rfl rfl (l' := #[.val (.int p0), .val (.int p1), .val (.int p2), .val (.int p3), .val (.int (1 : Int32)), .val (.ref cs_), .val (.ref st), .val (.ref t), .unset]) rfl gk) ?_
      show Go _ _ _ _ T182 (mkF m 76 #[.val (.int p0), .val (.int p1), .val (.int p2), .val (.int p3), .val (.int (1 : Int32)), .val (.ref cs_), .val (.ref st), .val (.ref t), .unset] [])
      refine Go.by (fun _ gk => XS.iload X182.here hx rfl (hb hby at_76) rfl gk) ?_
      show Go _ _ _ _ T182 (mkF m 78 #[.val (.int p0), .val (.int p1), .val (.int p2), .val (.int p3), .val (.int (1 : Int32)), .val (.ref cs_), .val (.ref st), .val (.ref t), .unset] [(.int (1 : Int32))])
      refine Go.by (fun _ gk => XT.iconstV X182.here hx rfl (3 : Int32) (hb hby at_78) (by decide) gk) ?_
      show Go _ _ _ _ T182 (mkF m 79 #[.val (.int p0), .val (.int p1), .val (.int p2), .val (.int p3), .val (.int (1 : Int32)), .val (.ref cs_), .val (.ref st), .val (.ref t), .unset] [(.int (3 : Int32)), (.int (1 : Int32))])
      refine Go.by (fun _ gk => XS.icmpNo X182.here hx rfl (hb hby at_79) rfl (XT.ii_eq_f (by decide)) gk) ?_
      show Go _ _ _ _ T182 (mkF m 82 #[.val (.int p0), .val (.int p1), .val (.int p2), .val (.int p3), .val (.int (1 : Int32)), .val (.ref cs_), .val (.ref st), .val (.ref t), .unset] [])
      refine Go.by (fun _ gk => XS.iload X182.here hx rfl (hb hby at_82) rfl gk) ?_
      show Go _ _ _ _ T182 (mkF m 84 #[.val (.int p0), .val (.int p1), .val (.int p2), .val (.int p3), .val (.int (1 : Int32)), .val (.ref cs_), .val (.ref st), .val (.ref t), .unset] [(.int (1 : Int32))])
      refine Go.by (fun _ gk => XT.iconstV X182.here hx rfl (4 : Int32) (hb hby at_84) (by decide) gk) ?_
      show Go _ _ _ _ T182 (mkF m 85 #[.val (.int p0), .val (.int p1), .val (.int p2), .val (.int p3), .val (.int (1 : Int32)), .val (.ref cs_), .val (.ref st), .val (.ref t), .unset] [(.int (4 : Int32)), (.int (1 : Int32))])
      refine Go.by (fun _ gk => XS.icmpYes X182.here hx rfl (pc0 := 85) (pc' := 92) rfl (hb hby at_85) rfl (XT.ii_ne_t (by decide)) (by decide) (by decide) gk) ?_
      show Go _ _ _ _ T182 (mkF m 92 #[.val (.int p0), .val (.int p1), .val (.int p2), .val (.int p3), .val (.int (1 : Int32)), .val (.ref cs_), .val (.ref st), .val (.ref t), .unset] [])
      refine Go.by (fun _ gk => XT.iconstV X182.here hx rfl (0 : Int32) (hb hby at_92) (by decide) gk) ?_
      show Go _ _ _ _ T182 (mkF m 93 #[.val (.int p0), .val (.int p1), .val (.int p2), .val (.int p3), .val (.int (1 : Int32)), .val (.ref cs_), .val (.ref st), .val (.ref t), .unset] [(.int (0 : Int32))])
      refine Go.by (fun _ gk => XS.istore X182.here hx rfl (hb hby at_93) rfl (l' := #[.val (.int p0), .val (.int p1), .val (.int p2), .val (.int p3), .val (.int (1 : Int32)), .val (.ref cs_), .val (.ref st), .val (.ref t), .val (.int (0 : Int32))]) rfl gk) ?_
      show Go _ _ _ _ T182 (mkF m 95 #[.val (.int p0), .val (.int p1), .val (.int p2), .val (.int p3), .val (.int (1 : Int32)), .val (.ref cs_), .val (.ref st), .val (.ref t), .val (.int (0 : Int32))] [])
      refine Go.by (fun _ gk => XS.aload X182.here hx rfl (hb hby at_95) rfl rfl gk) ?_
      show Go _ _ _ _ T182 (mkF m 97 #[.val (.int p0), .val (.int p1), .val (.int p2), .val (.int p3), .val (.int (1 : Int32)), .val (.ref cs_), .val (.ref st), .val (.ref t), .val (.int (0 : Int32))] [(.ref t)])
      have F187 : Old Z n0 T182.heap := F179.keep K182 (allS ge_t all0)
      have F188 : n0 ≤ T182.heap.size := Nat.le_trans F180 K182.1
      obtain ⟨cq189, kq189, q189a, q189b, q189c⟩ := isOf hZ rfl Q182_0
      obtain ⟨_, _, ⟨T189, L189, k189, n189⟩, -, X189, ⟨Lc189, hQ189, l189, y189, z189⟩, st189⟩ := X182.virtualBack hx (y := (⟨"com/example/attache/attache/query/Token", "isParameter", "()Z"⟩ : MethodName)) (z := (⟨"com/example/attache/attache/query/Token", "isParameter", "()Z"⟩ : MethodName)) hown (mvT hZ (hw _ (List.mem_of_getElem? (i := 56) rfl))) (mvT hZ (hw _ (List.mem_of_getElem? (i := 57) rfl))) (notFace_of_selects (args := #[]) (mvT hZ (hw _ (List.mem_of_getElem? (i := 59) rfl)))) (mvT hZ (hw _ (List.mem_of_getElem? (i := 59) rfl))) (mvT hZ (hw _ (List.mem_of_getElem? (i := 58) rfl))) (by decide) (backOf (W := 0) (rmIsP l Z a0 hw [] t c_STRING (0 : Int32) c_WORD c_STRING c_NUMBER c_NAMED_PARAMETER c_POSITIONAL_PARAMETER c_SYMBOL c_END T182.heap n0 F188 F187 Q182_1 (Or.inr (Or.inl ⟨rfl, rfl⟩)) S_c_WORD E_c_WORD O_c_WORD S_c_STRING E_c_STRING O_c_STRING S_c_NUMBER E_c_NUMBER O_c_NUMBER S_c_NAMED_PARAMETER E_c_NAMED_PARAMETER O_c_NAMED_PARAMETER S_c_POSITIONAL_PARAMETER E_c_POSITIONAL_PARAMETER O_c_POSITIONAL_PARAMETER S_c_SYMBOL E_c_SYMBOL O_c_SYMBOL S_c_END E_c_END O_c_END) hZ (hw _ (List.mem_of_getElem? (i := 60) rfl)) (hw _ (List.mem_of_getElem? (i := 33) rfl)) (by decide) (by decide)) q189a q189c (g := (mkF m 97 #[.val (.int p0), .val (.int p1), .val (.int p2), .val (.int p3), .val (.int (1 : Int32)), .val (.ref cs_), .val (.ref st), .val (.ref t), .val (.int (0 : Int32))] [(.ref t)])) rfl (by rw [hml]; rfl) (Steps.refl _) (argsL := []) (rest := []) (lenOf pd_155 rfl) rfl (by show 2 * 0 + _ ≤ _; exact Nat.le_of_eq rfl) (hb hby at_97) (fun _ _ => ⟨rfl, rfl, (by decide : 4 + 0 ≤ _), (by decide : 11 + 0 ≤ _)⟩)
      dsimp only [Pt.U, Pt.locs, Pt.cells, Pt.slots] at X189 l189 y189 z189 st189 hQ189
      subst l189 y189 z189
      obtain ⟨rfl, N189q, e189⟩ := hQ189
      have N189 := Fr.app N182 N189q
      refine Go.to st189 ?_
      show Go _ _ _ _ T189 (mkF m 100 #[.val (.int p0), .val (.int p1), .val (.int p2), .val (.int p3), .val (.int (1 : Int32)), .val (.ref cs_), .val (.ref st), .val (.ref t), .val (.int (0 : Int32))] [(.int (0 : Int32))])
      refine Go.by (fun _ gk => XS.iload X189.here hx rfl (hb hby at_100) rfl gk) ?_
      show Go _ _ _ _ T189 (mkF m 102 #[.val (.int p0), .val (.int p1), .val (.int p2), .val (.int p3), .val (.int (1 : Int32)), .val (.ref cs_), .val (.ref st), .val (.ref t), .val (.int (0 : Int32))] [(.int (0 : Int32)), (.int (0 : Int32))])
      refine Go.by (fun _ gk => XS.icmpNo X189.here hx rfl (hb hby at_102) rfl (XT.ii_ne_f rfl) gk) ?_
      show Go _ _ _ _ T189 (mkF m 105 #[.val (.int p0), .val (.int p1), .val (.int p2), .val (.int p3), .val (.int (1 : Int32)), .val (.ref cs_), .val (.ref st), .val (.ref t), .val (.int (0 : Int32))] [])
      refine Go.by (fun _ gk => XT.iconstV X189.here hx rfl (1 : Int32) (hb hby at_105) (by decide) gk) ?_
      show Go _ _ _ _ T189 (mkF m 106 #[.val (.int p0), .val (.int p1), .val (.int p2), .val (.int p3), .val (.int (1 : Int32)), .val (.ref cs_), .val (.ref st), .val (.ref t), .val (.int (0 : Int32))] [(.int (1 : Int32))])
      refine Go.by (fun _ gk => XS.goto X189.here hx rfl (pc0 := 106) (pc' := 110) rfl (hb hby at_106) (by decide) (by decide) gk) ?_
      show Go _ _ _ _ T189 (mkF m 110 #[.val (.int p0), .val (.int p1), .val (.int p2), .val (.int p3), .val (.int (1 : Int32)), .val (.ref cs_), .val (.ref st), .val (.ref t), .val (.int (0 : Int32))] [(.int (1 : Int32))])
      have F190 : s.heap.size ≤ h99.size := Nat.le_trans hk0 E99.1
      have F191 : s.heap.size ≤ h102.size := Nat.le_trans F190 (Nat.le_of_eq (Wr.size W102).symm)
      have F192 : s.heap.size ≤ h105.size := Nat.le_trans F191 (Nat.le_of_eq (Wr.size W105).symm)
      have F193 : s.heap.size ≤ h146.size := Nat.le_trans F192 E146.1
      have F194 : s.heap.size ≤ T166.heap.size := Nat.le_trans F193 K166.1
      have F195 : s.heap.size ≤ h170.size := Nat.le_trans F194 E170.1
      have F196 : s.heap.size ≤ T182.heap.size := Nat.le_trans F195 K182.1
      exact Go.retIW X189 hx Bd.notSynchronized hS0 (by rw [e189]; exact F196) hZ hEL (by rw [hh, e189]; exact C183) Bd.returns rfl (by simp) (hb hby at_110) (by rw [e189]; exact ⟨rfl, N189⟩) (by decide) (by decide)
  · show Go _ _ _ _ s₁ (mkF m 9 #[.val (.int p0), .val (.int p1), .val (.int p2), .val (.int p3), .val (.int (2 : Int32)), .unset, .unset, .unset, .unset] [])
    refine Go.by (fun _ gk => XT.iconstV X0.here hx rfl (2 : Int32) (hb hby at_9) (by decide) gk) ?_
    show Go _ _ _ _ s₁ (mkF m 10 #[.val (.int p0), .val (.int p1), .val (.int p2), .val (.int p3), .val (.int (2 : Int32)), .unset, .unset, .unset, .unset] [(.int (2 : Int32))])
    obtain ⟨cs_, g197⟩ : ∃ z, z = h0.size := ⟨_, rfl⟩
    have ge_cs_ : n0 ≤ cs_ := Nat.le_trans Z0 (Nat.le_of_eq g197.symm)
    have sz_cs_ : h0.size ≤ cs_ := Nat.le_trans (Keep.refl h0 []).1 (Nat.le_of_eq g197.symm)
    obtain ⟨T197, h197, k197, X197, e197, E197, A197, Ea197, st197⟩ := newPE X0 hx hZ (hw _ (List.mem_of_getElem? (i := 1) rfl)) e0 (g := (mkF m 10 #[.val (.int p0), .val (.int p1), .val (.int p2), .val (.int p3), .val (.int (2 : Int32)), .unset, .unset, .unset, .unset] [(.int (2 : Int32))])) rfl (hb hby at_10) rfl (by decide) (cap := 2) (by decide) (by decide) (by decide) (by decide) (ad := "[C") rfl
    rw [← g197] at A197 Ea197 st197
    have C198 : CHr Z own_EL s.vm h0 s.vm h197 := C0.trans (CHr.ext E197 C0.1)
    have Sf199 : Safe Z own_EL s.vm h197 cs_ := Safe.ext E197 C0.1 (Safe.new (Nat.le_of_eq g197.symm))
    have V_cs_ : Arv Z h197 cs_ k197 .char (2 : Int32) [(.int (0 : Int32)), (.int (0 : Int32))] (.int (0 : Int32)) := (Arv.new A197 (by decide)).pad (pad_rep [] (.int (0 : Int32)) 2)
    refine Go.by st197 ?_
    show Go _ _ _ _ T197 (mkF m 12 #[.val (.int p0), .val (.int p1), .val (.int p2), .val (.int p3), .val (.int (2 : Int32)), .unset, .unset, .unset, .unset] [(.ref cs_)])
    refine Go.by (fun _ gk => XS.astore X197.here hx rfl (hb hby at_12) rfl rfl (l' := #[.val (.int p0), .val (.int p1), .val (.int p2), .val (.int p3), .val (.int (2 : Int32)), .val (.ref cs_), .unset, .unset, .unset]) rfl gk) ?_
    show Go _ _ _ _ T197 (mkF m 14 #[.val (.int p0), .val (.int p1), .val (.int p2), .val (.int p3), .val (.int (2 : Int32)), .val (.ref cs_), .unset, .unset, .unset] [])
    refine Go.by (fun _ gk => XS.aload X197.here hx rfl (hb hby at_14) rfl rfl gk) ?_
    show Go _ _ _ _ T197 (mkF m 16 #[.val (.int p0), .val (.int p1), .val (.int p2), .val (.int p3), .val (.int (2 : Int32)), .val (.ref cs_), .unset, .unset, .unset] [(.ref cs_)])
    refine Go.by (fun _ gk => XT.iconstV X197.here hx rfl (0 : Int32) (hb hby at_16) (by decide) gk) ?_
    show Go _ _ _ _ T197 (mkF m 17 #[.val (.int p0), .val (.int p1), .val (.int p2), .val (.int p3), .val (.int (2 : Int32)), .val (.ref cs_), .unset, .unset, .unset] [(.int (0 : Int32)), (.ref cs_)])
    refine Go.by (fun _ gk => XS.iloadN X197.here hx rfl (hb hby at_17) rfl gk) ?_
    show Go _ _ _ _ T197 (mkF m 18 #[.val (.int p0), .val (.int p1), .val (.int p2), .val (.int p3), .val (.int (2 : Int32)), .val (.ref cs_), .unset, .unset, .unset] [(.int p1), (.int (0 : Int32)), (.ref cs_)])
    refine Go.by (fun _ gk => XT.sipushV X197.here hx rfl (255 : Int32) (hb hby at_18) (by decide) gk) ?_
    show Go _ _ _ _ T197 (mkF m 21 #[.val (.int p0), .val (.int p1), .val (.int p2), .val (.int p3), .val (.int (2 : Int32)), .val (.ref cs_), .unset, .unset, .unset] [(.int (255 : Int32)), (.int p1), (.int (0 : Int32)), (.ref cs_)])
    refine Go.by (fun _ gk => XS.iand X197.here hx rfl (hb hby at_21) rfl gk) ?_
    show Go _ _ _ _ T197 (mkF m 22 #[.val (.int p0), .val (.int p1), .val (.int p2), .val (.int p3), .val (.int (2 : Int32)), .val (.ref cs_), .unset, .unset, .unset] [(.int (p1 &&& (255 : Int32))), (.int (0 : Int32)), (.ref cs_)])
    refine Go.by (fun _ gk => XT.i2c X197.here hx rfl (hb hby at_22) rfl gk) ?_
    show Go _ _ _ _ T197 (mkF m 23 #[.val (.int p0), .val (.int p1), .val (.int p2), .val (.int p3), .val (.int (2 : Int32)), .val (.ref cs_), .unset, .unset, .unset] [(.int ((p1 &&& (255 : Int32)).toUInt32.toUInt16.toUInt32.toInt32)), (.int (0 : Int32)), (.ref cs_)])
    rw [i2c_mask]
    show Go _ _ _ _ T197 (mkF m 23 #[.val (.int p0), .val (.int p1), .val (.int p2), .val (.int p3), .val (.int (2 : Int32)), .val (.ref cs_), .unset, .unset, .unset] [(.int (p1 &&& (255 : Int32))), (.int (0 : Int32)), (.ref cs_)])
    obtain ⟨cl200, Ar200, q200, S200, M200, H200, G200⟩ := id V_cs_
    have hin200 : ¬ ((0 : Int32) < 0 ∨ cl200.slots.size ≤ (0 : Int32).toNatClampNeg) := inb_of S200 ⟨by decide, by decide⟩
    obtain ⟨T200, h200, X200, e200, W200, st200⟩ := stC X197 hx hZ e197 Ar200 (j := (0 : Int32)) hin200 (g := (mkF m 23 #[.val (.int p0), .val (.int p1), .val (.int p2), .val (.int p3), .val (.int (2 : Int32)), .val (.ref cs_), .unset, .unset, .unset] [(.int (p1 &&& (255 : Int32))), (.int (0 : Int32)), (.ref cs_)])) rfl rfl (hb hby at_23)
    have C201 : CHr Z own_EL s.vm h0 s.vm h200 := C198.trans (CHr.wr W200 Sf199 C198.1)
    have Sf202 : Safe Z own_EL s.vm h200 cs_ := Safe.wr W200 Sf199 C198.1 Sf199
    have N200 := Fr.snoc X200 N0 ge_cs_
    have V200 : Arv Z h200 cs_ k197 .char (2 : Int32) [(.int (nar .char (p1 &&& (255 : Int32)))), (.int (0 : Int32))] (.int (0 : Int32)) := Arv.set Ar200 q200 S200 M200 H200 G200 (fits_nar_char _) W200 0 rfl (Nat.le_of_ble_eq_true rfl)
    refine Go.by st200 ?_
    show Go _ _ _ _ T200 (mkF m 24 #[.val (.int p0), .val (.int p1), .val (.int p2), .val (.int p3), .val (.int (2 : Int32)), .val (.ref cs_), .unset, .unset, .unset] [])
    rw [own_nc] at V200
    refine Go.by (fun _ gk => XS.aload X200.here hx rfl (hb hby at_24) rfl rfl gk) ?_
    show Go _ _ _ _ T200 (mkF m 26 #[.val (.int p0), .val (.int p1), .val (.int p2), .val (.int p3), .val (.int (2 : Int32)), .val (.ref cs_), .unset, .unset, .unset] [(.ref cs_)])
    refine Go.by (fun _ gk => XT.iconstV X200.here hx rfl (1 : Int32) (hb hby at_26) (by decide) gk) ?_
    show Go _ _ _ _ T200 (mkF m 27 #[.val (.int p0), .val (.int p1), .val (.int p2), .val (.int p3), .val (.int (2 : Int32)), .val (.ref cs_), .unset, .unset, .unset] [(.int (1 : Int32)), (.ref cs_)])
    refine Go.by (fun _ gk => XS.iloadN X200.here hx rfl (hb hby at_27) rfl gk) ?_
    show Go _ _ _ _ T200 (mkF m 28 #[.val (.int p0), .val (.int p1), .val (.int p2), .val (.int p3), .val (.int (2 : Int32)), .val (.ref cs_), .unset, .unset, .unset] [(.int p1), (.int (1 : Int32)), (.ref cs_)])
    refine Go.by (fun _ gk => XT.bipushV X200.here hx rfl (8 : Int32) (hb hby at_28) (by decide) gk) ?_
    show Go _ _ _ _ T200 (mkF m 30 #[.val (.int p0), .val (.int p1), .val (.int p2), .val (.int p3), .val (.int (2 : Int32)), .val (.ref cs_), .unset, .unset, .unset] [(.int (8 : Int32)), (.int p1), (.int (1 : Int32)), (.ref cs_)])
    refine Go.by (fun _ gk => XT.iushr X200.here hx rfl (hb hby at_30) rfl gk) ?_
    show Go _ _ _ _ T200 (mkF m 31 #[.val (.int p0), .val (.int p1), .val (.int p2), .val (.int p3), .val (.int (2 : Int32)), .val (.ref cs_), .unset, .unset, .unset] [(.int (XT.ushr p1 (8 : Int32))), (.int (1 : Int32)), (.ref cs_)])
    refine Go.by (fun _ gk => XT.sipushV X200.here hx rfl (255 : Int32) (hb hby at_31) (by decide) gk) ?_
    show Go _ _ _ _ T200 (mkF m 34 #[.val (.int p0), .val (.int p1), .val (.int p2), .val (.int p3), .val (.int (2 : Int32)), .val (.ref cs_), .unset, .unset, .unset] [(.int (255 : Int32)), (.int (XT.ushr p1 (8 : Int32))), (.int (1 : Int32)), (.ref cs_)])
    refine Go.by (fun _ gk => XS.iand X200.here hx rfl (hb hby at_34) rfl gk) ?_
    show Go _ _ _ _ T200 (mkF m 35 #[.val (.int p0), .val (.int p1), .val (.int p2), .val (.int p3), .val (.int (2 : Int32)), .val (.ref cs_), .unset, .unset, .unset] [(.int ((XT.ushr p1 (8 : Int32)) &&& (255 : Int32))), (.int (1 : Int32)), (.ref cs_)])
    refine Go.by (fun _ gk => XT.i2c X200.here hx rfl (hb hby at_35) rfl gk) ?_
    show Go _ _ _ _ T200 (mkF m 36 #[.val (.int p0), .val (.int p1), .val (.int p2), .val (.int p3), .val (.int (2 : Int32)), .val (.ref cs_), .unset, .unset, .unset] [(.int (((XT.ushr p1 (8 : Int32)) &&& (255 : Int32)).toUInt32.toUInt16.toUInt32.toInt32)), (.int (1 : Int32)), (.ref cs_)])
    rw [i2c_mask]
    show Go _ _ _ _ T200 (mkF m 36 #[.val (.int p0), .val (.int p1), .val (.int p2), .val (.int p3), .val (.int (2 : Int32)), .val (.ref cs_), .unset, .unset, .unset] [(.int ((XT.ushr p1 (8 : Int32)) &&& (255 : Int32))), (.int (1 : Int32)), (.ref cs_)])
    obtain ⟨cl203, Ar203, q203, S203, M203, H203, G203⟩ := id V200
    have hin203 : ¬ ((1 : Int32) < 0 ∨ cl203.slots.size ≤ (1 : Int32).toNatClampNeg) := inb_of S203 ⟨by decide, by decide⟩
    obtain ⟨T203, h203, X203, e203, W203, st203⟩ := stC X200 hx hZ e200 Ar203 (j := (1 : Int32)) hin203 (g := (mkF m 36 #[.val (.int p0), .val (.int p1), .val (.int p2), .val (.int p3), .val (.int (2 : Int32)), .val (.ref cs_), .unset, .unset, .unset] [(.int ((XT.ushr p1 (8 : Int32)) &&& (255 : Int32))), (.int (1 : Int32)), (.ref cs_)])) rfl rfl (hb hby at_36)
    have C204 : CHr Z own_EL s.vm h0 s.vm h203 := C201.trans (CHr.wr W203 Sf202 C201.1)
    have Sf205 : Safe Z own_EL s.vm h203 cs_ := Safe.wr W203 Sf202 C201.1 Sf202
    have N203 := Fr.snoc X203 N200 ge_cs_
    have V203 : Arv Z h203 cs_ k197 .char (2 : Int32) [(.int (p1 &&& (255 : Int32))), (.int (nar .char ((XT.ushr p1 (8 : Int32)) &&& (255 : Int32))))] (.int (0 : Int32)) := Arv.set Ar203 q203 S203 M203 H203 G203 (fits_nar_char _) W203 1 rfl (Nat.le_of_ble_eq_true rfl)
    refine Go.by st203 ?_
    show Go _ _ _ _ T203 (mkF m 37 #[.val (.int p0), .val (.int p1), .val (.int p2), .val (.int p3), .val (.int (2 : Int32)), .val (.ref cs_), .unset, .unset, .unset] [])
    rw [own_nc] at V203
    refine Go.by (fun _ gk => XS.iloadN X203.here hx rfl (hb hby at_37) rfl gk) ?_
    show Go _ _ _ _ T203 (mkF m 38 #[.val (.int p0), .val (.int p1), .val (.int p2), .val (.int p3), .val (.int (2 : Int32)), .val (.ref cs_), .unset, .unset, .unset] [(.int p3)])
    refine Go.by (fun _ gk => XT.iconstV X203.here hx rfl (1 : Int32) (hb hby at_38) (by decide) gk) ?_
    show Go _ _ _ _ T203 (mkF m 39 #[.val (.int p0), .val (.int p1), .val (.int p2), .val (.int p3), .val (.int (2 : Int32)), .val (.ref cs_), .unset, .unset, .unset] [(.int (1 : Int32)), (.int p3)])
    refine Go.by (fun _ gk => XS.iand X203.here hx rfl (hb hby at_39) rfl gk) ?_
    show Go _ _ _ _ T203 (mkF m 40 #[.val (.int p0), .val (.int p1), .val (.int p2), .val (.int p3), .val (.int (2 : Int32)), .val (.ref cs_), .unset, .unset, .unset] [(.int (p3 &&& (1 : Int32)))])
    by_cases hb206 : (p3 &&& (1 : Int32)) = 0
    · refine Go.by (fun _ gk => XS.ifYes X203.here hx rfl (pc0 := 40) (pc' := 55) rfl (hb hby at_40) rfl (XT.i0_eq_t hb206) (by decide) (by decide) gk) ?_
      show Go _ _ _ _ T203 (mkF m 55 #[.val (.int p0), .val (.int p1), .val (.int p2), .val (.int p3), .val (.int (2 : Int32)), .val (.ref cs_), .unset, .unset, .unset] [])
      have F208 : s.heap.size ≤ h197.size := Nat.le_trans hk0 E197.1
      have F209 : s.heap.size ≤ h200.size := Nat.le_trans F208 (Nat.le_of_eq (Wr.size W200).symm)
      have F210 : s.heap.size ≤ h203.size := Nat.le_trans F209 (Nat.le_of_eq (Wr.size W203).symm)
      have F211 : Exa Z h200 cs_ "[C" := Ea197.wr W200
      have F212 : Exa Z h203 cs_ "[C" := F211.wr W203
      obtain ⟨st, T207, h207, kq207, X207, e207, E207, hS207, hk207, hZ207, hown207, CH207, -, st207⟩ := ldcOH X203 hx hZ hown (hw _ (List.mem_of_getElem? (i := 65) rfl)) hSA e203 hS0 F210 hEL C204.1 (g := (mkF m 55 #[.val (.int p0), .val (.int p1), .val (.int p2), .val (.int p3), .val (.int (2 : Int32)), .val (.ref cs_), .unset, .unset, .unset] [])) rfl (hb hby at_55) (n := 0) (by decide) (by decide) (by decide) (by decide)
      have C213 : CHr Z own_EL s.vm h0 T207.vm h207 := C204.trans CH207
      have Sf214 : Safe Z own_EL T207.vm h207 cs_ := CH207.safe F212.lt Sf205
      refine Go.by st207 ?_
      show Go _ _ _ _ T207 (mkF m 57 #[.val (.int p0), .val (.int p1), .val (.int p2), .val (.int p3), .val (.int (2 : Int32)), .val (.ref cs_), .unset, .unset, .unset] [(.ref st)])
      refine Go.by (fun _ gk => XS.astore X207.here hx rfl (hb hby at_57) rfl rfl (l' := #[.val (.int p0), .val (.int p1), .val (.int p2), .val (.int p3), .val (.int (2 : Int32)), .val (.ref cs_), .val (.ref st), .unset, .unset]) rfl gk) ?_
      show Go _ _ _ _ T207 (mkF m 59 #[.val (.int p0), .val (.int p1), .val (.int p2), .val (.int p3), .val (.int (2 : Int32)), .val (.ref cs_), .val (.ref st), .unset, .unset] [])
      have F216 : n0 ≤ h197.size := Nat.le_trans Z0 E197.1
      have F217 : n0 ≤ h200.size := Nat.le_trans F216 (Nat.le_of_eq (Wr.size W200).symm)
      have F218 : n0 ≤ h203.size := Nat.le_trans F217 (Nat.le_of_eq (Wr.size W203).symm)
      have F219 : n0 ≤ h207.size := Nat.le_trans F218 E207.1
      obtain ⟨t, g215⟩ : ∃ z, z = h207.size := ⟨_, rfl⟩
      have ge_t : n0 ≤ t := Nat.le_trans F219 (Nat.le_of_eq g215.symm)
      have F220 : Keep h0 h197 [] := (Keep.refl h0 []).ext E197
      have F221 : Keep h0 h200 [] := F220.wr W200 (Or.inr sz_cs_)
      have F222 : Keep h0 h203 [] := F221.wr W203 (Or.inr sz_cs_)
      have F223 : Keep h0 h207 [] := F222.ext E207
      have sz_t : h0.size ≤ t := Nat.le_trans F223.1 (Nat.le_of_eq g215.symm)
      have F224 : Exa Z h207 cs_ "[C" := F212.ext E207
      have ne_cs__t : cs_ ≠ t := Nat.ne_of_lt (Nat.lt_of_lt_of_le F224.lt (Nat.le_of_eq g215.symm))
      obtain ⟨T215, h215, X215, e215, E215, A215, D215, -, st215⟩ := newO X207 hx hZ207 hown207 (hw _ (List.mem_of_getElem? (i := 31) rfl)) (hw _ (List.mem_of_getElem? (i := 32) rfl)) (hw _ (List.mem_of_getElem? (i := 33) rfl)) e207 (g := (mkF m 59 #[.val (.int p0), .val (.int p1), .val (.int p2), .val (.int p3), .val (.int (2 : Int32)), .val (.ref cs_), .val (.ref st), .unset, .unset] [])) rfl (hb hby at_59) (by decide) (by decide)
      rw [← g215] at A215 D215 st215
      have C225 : CHr Z own_EL s.vm h0 T207.vm h215 := C213.trans (CHr.ext E215 C213.1)
      have Sf226 : Safe Z own_EL T207.vm h215 cs_ := Safe.ext E215 C213.1 Sf214
      have Sf227 : Safe Z own_EL T207.vm h215 t := Safe.ext E215 C213.1 (Safe.new (Nat.le_of_eq g215.symm))
      have F_kind_t : Fld Z h215 t "com/example/attache/attache/query/Token" "kind" "Lcom/example/attache/attache/query/Token$Kind;" .null := D215 (Or.inr (hw _ (List.mem_of_getElem? (i := 51) rfl))) (ty := (.object "com/example/attache/attache/query/Token$Kind")) (by decide)
      have F_text_t : Fld Z h215 t "com/example/attache/attache/query/Token" "text" "Ljava/lang/String;" .null := D215 (Or.inr (hw _ (List.mem_of_getElem? (i := 53) rfl))) (ty := (.object "java/lang/String")) (by decide)
      have F_position_t : Fld Z h215 t "com/example/attache/attache/query/Token" "position" "I" (.int (0 : Int32)) := D215 (Or.inr (hw _ (List.mem_of_getElem? (i := 55) rfl))) (ty := .int) (by decide)
      refine Go.by st215 ?_
      show Go _ _ _ _ T215 (mkF m 62 #[.val (.int p0), .val (.int p1), .val (.int p2), .val (.int p3), .val (.int (2 : Int32)), .val (.ref cs_), .val (.ref st), .unset, .unset] [(.ref t)])
      refine Go.by (fun _ gk => XS.dup X215.here hx rfl (hb hby at_62) rfl rfl gk) ?_
      show Go _ _ _ _ T215 (mkF m 63 #[.val (.int p0), .val (.int p1), .val (.int p2), .val (.int p3), .val (.int (2 : Int32)), .val (.ref cs_), .val (.ref st), .unset, .unset] [(.ref t), (.ref t)])
      refine Go.by (fun _ gk => XS.iload X215.here hx rfl (hb hby at_63) rfl gk) ?_
      show Go _ _ _ _ T215 (mkF m 65 #[.val (.int p0), .val (.int p1), .val (.int p2), .val (.int p3), .val (.int (2 : Int32)), .val (.ref cs_), .val (.ref st), .unset, .unset] [(.int (2 : Int32)), (.ref t), (.ref t)])
      have F228 : Old Z n0 h197 := O0.ext E197
      have F229 : Old Z n0 h200 := F228.wr W200 ge_cs_
      have F230 : Old Z n0 h203 := F229.wr W203 ge_cs_
      have F231 : Old Z n0 h207 := F230.ext E207
      have F232 : Old Z n0 h215 := F231.ext E215
      have F233 : n0 ≤ h215.size := Nat.le_trans F219 E215.1
      obtain ⟨_, _, ⟨T234, L234, k234, n234⟩, -, X234, ⟨Lc234, hQ234, l234, y234, z234⟩, st234⟩ := Jvm.LawKit.callS X215 hx (y := (⟨"com/example/attache/attache/query/TokenIsParameterPinLaw", "kindOf", "(I)Lcom/example/attache/attache/query/Token$Kind;"⟩ : MethodName)) hown207 (mvT hZ207 (hw _ (List.mem_of_getElem? (i := 34) rfl))) (mvT hZ207 (hw _ (List.mem_of_getElem? (i := 35) rfl))) (mvT hZ207 (hw _ (List.mem_of_getElem? (i := 36) rfl))) (mvT hZ207 (hw _ (List.mem_of_getElem? (i := 37) rfl))) (by decide) (backOf (W := 2) (rmKind l Z a0 hw [] (2 : Int32) c_NUMBER c_WORD c_STRING c_NUMBER c_NAMED_PARAMETER c_POSITIONAL_PARAMETER c_SYMBOL c_END h215 n0 F233 F232 (Or.inr (Or.inr (Or.inl ⟨rfl, rfl⟩))) S_c_WORD E_c_WORD O_c_WORD S_c_STRING E_c_STRING O_c_STRING S_c_NUMBER E_c_NUMBER O_c_NUMBER S_c_NAMED_PARAMETER E_c_NAMED_PARAMETER O_c_NAMED_PARAMETER S_c_POSITIONAL_PARAMETER E_c_POSITIONAL_PARAMETER O_c_POSITIONAL_PARAMETER S_c_SYMBOL E_c_SYMBOL O_c_SYMBOL S_c_END E_c_END O_c_END) hZ207 (hw _ (List.mem_of_getElem? (i := 37) rfl)) (hw _ (List.mem_of_getElem? (i := 36) rfl)) (by decide) (by decide)) (g := (mkF m 65 #[.val (.int p0), .val (.int p1), .val (.int p2), .val (.int p3), .val (.int (2 : Int32)), .val (.ref cs_), .val (.ref st), .unset, .unset] [(.int (2 : Int32)), (.ref t), (.ref t)])) rfl (by rw [hml]; rfl) (argsL := [(.int (2 : Int32))]) (rest := [(.ref t), (.ref t)]) (lenOf pd_153 rfl) rfl (by show 2 * 0 + _ ≤ _; exact Nat.le_of_eq rfl) (hb hby at_65) (fun _ _ => ⟨rfl, e215, (by decide : 4 + 0 ≤ _), (by decide : 9 + 0 ≤ _)⟩)
      dsimp only [Pt.U, Pt.locs, Pt.cells, Pt.slots] at X234 l234 y234 z234 st234 hQ234
      subst l234 y234 z234
      obtain ⟨rfl, N234q, e234⟩ := hQ234
      have N234 := Fr.app N203 N234q
      refine Go.by st234 ?_
      show Go _ _ _ _ T234 (mkF m 68 #[.val (.int p0), .val (.int p1), .val (.int p2), .val (.int p3), .val (.int (2 : Int32)), .val (.ref cs_), .val (.ref st), .unset, .unset] [(.ref c_NUMBER), (.ref t), (.ref t)])
      refine Go.by (fun _ gk => XS.aload X234.here hx rfl (hb hby at_68) rfl rfl gk) ?_
      show Go _ _ _ _ T234 (mkF m 70 #[.val (.int p0), .val (.int p1), .val (.int p2), .val (.int p3), .val (.int (2 : Int32)), .val (.ref cs_), .val (.ref st), .unset, .unset] [(.ref st), (.ref c_NUMBER), (.ref t), (.ref t)])
      refine Go.by (fun _ gk => XS.iloadN X234.here hx rfl (hb hby at_70) rfl gk) ?_
      show Go _ _ _ _ T234 (mkF m 71 #[.val (.int p0), .val (.int p1), .val (.int p2), .val (.int p3), .val (.int (2 : Int32)), .val (.ref cs_), .val (.ref st), .unset, .unset] [(.int p2), (.ref st), (.ref c_NUMBER), (.ref t), (.ref t)])
      obtain ⟨_, _, ⟨T235, L235, k235, n235⟩, -, X235, ⟨Lc235, hQ235, l235, y235, z235⟩, st235⟩ := X234.specialBack hx (y := (⟨"com/example/attache/attache/query/Token", "<init>", "(Lcom/example/attache/attache/query/Token$Kind;Ljava/lang/String;I)V"⟩ : MethodName)) rfl hown207 (mvT hZ207 (hw _ (List.mem_of_getElem? (i := 41) rfl))) (mvT hZ207 (hw _ (List.mem_of_getElem? (i := 42) rfl))) (mvT hZ207 (hw _ (List.mem_of_getElem? (i := 43) rfl))) (by decide) (backOf (W := 1) (rmToken l Z a0 hw [] t c_NUMBER st p2 h215 n0 F233 A215 F_kind_t F_text_t F_position_t ge_t) hZ207 (hw _ (List.mem_of_getElem? (i := 43) rfl)) (hw _ (List.mem_of_getElem? (i := 33) rfl)) (by decide) (by decide)) (g := (mkF m 71 #[.val (.int p0), .val (.int p1), .val (.int p2), .val (.int p3), .val (.int (2 : Int32)), .val (.ref cs_), .val (.ref st), .unset, .unset] [(.int p2), (.ref st), (.ref c_NUMBER), (.ref t), (.ref t)])) rfl (by rw [hml]; rfl) (Steps.refl _) (a := t) (argsL := [(.ref c_NUMBER), (.ref st), (.int p2)]) (rest := [(.ref t)]) (lenOf pd_154 rfl) rfl (by show 2 * 0 + _ ≤ _; exact Nat.le_of_eq rfl) (hb hby at_71) (fun _ _ => ⟨rfl, e234, (by decide : 4 + 0 ≤ _), (by decide : 9 + 0 ≤ _)⟩)
      dsimp only [Pt.U, Pt.locs, Pt.cells, Pt.slots] at X235 l235 y235 z235 st235 hQ235
      subst l235 y235 z235
      obtain ⟨rfl, N235q, K235, Q235_0, Q235_1⟩ := hQ235
      have N235 := Fr.app N234 N235q
      have C236 : CHr Z own_EL s.vm h0 T207.vm T235.heap := C225.trans (CHr.keep K235 (sfS Sf227 sf0) C225.1)
      have Sf237 : Safe Z own_EL T207.vm T235.heap cs_ := Safe.keep K235 (sfS Sf227 sf0) C225.1 Sf226
      have Sf238 : Safe Z own_EL T207.vm T235.heap t := Safe.keep K235 (sfS Sf227 sf0) C225.1 Sf227
      refine Go.to st235 ?_
      show Go _ _ _ _ T235 (mkF m 74 #[.val (.int p0), .val (.int p1), .val (.int p2), .val (.int p3), .val (.int (2 : Int32)), .val (.ref cs_), .val (.ref st), .unset, .unset] [(.ref t)])
      refine Go.by (fun _ gk => XS.astore X235.here hx rfl (hb hby at_74) rfl rfl (l' := #[.val (.int p0), .val (.int p1), .val (.int p2), .val (.int p3), .val (.int (2 : Int32)), .val (.ref cs_), .val (.ref st), .val (.ref t), .unset]) rfl gk) ?_
      show Go _ _ _ _ T235 (mkF m 76 #[.val (.int p0), .val (.int p1), .val (.int p2), .val (.int p3), .val (.int (2 : Int32)), .val (.ref cs_), .val (.ref st), .val (.ref t), .unset] [])
      refine Go.by (fun _ gk => XS.iload X235.here hx rfl (hb hby at_76) rfl gk) ?_
      show Go _ _ _ _ T235 (mkF m 78 #[.val (.int p0), .val (.int p1), .val (.int p2), .val (.int p3), .val (.int (2 : Int32)), .val (.ref cs_), .val (.ref st), .val (.ref t), .unset] [(.int (2 : Int32))])
      refine Go.by (fun _ gk => XT.iconstV X235.here hx rfl (3 : Int32) (hb hby at_78) (by decide) gk) ?_
      show Go _ _ _ _ T235 (mkF m 79 #[.val (.int p0), .val (.int p1), .val (.int p2), .val (.int p3), .val (.int (2 : Int32)), .val (.ref cs_), .val (.ref st), .val (.ref t), .unset] [(.int (3 : Int32)), (.int (2 : Int32))])
      refine Go.by (fun _ gk => XS.icmpNo X235.here hx rfl (hb hby at_79) rfl (XT.ii_eq_f (by decide)) gk) ?_
      show Go _ _ _ _ T235 (mkF m 82 #[.val (.int p0), .val (.int p1), .val (.int p2), .val (.int p3), .val (.int (2 : Int32)), .val (.ref cs_), .val (.ref st), .val (.ref t), .unset] [])
      refine Go.by (fun _ gk => XS.iload X235.here hx rfl (hb hby at_82) rfl gk) ?_
      show Go _ _ _ _ T235 (mkF m 84 #[.val (.int p0), .val (.int p1), .val (.int p2), .val (.int p3), .val (.int (2 : Int32)), .val (.ref cs_), .val (.ref st), .val (.ref t), .unset] [(.int (2 : Int32))])
      refine Go.by (fun _ gk => XT.iconstV X235.here hx rfl (4 : Int32) (hb hby at_84) (by decide) gk) ?_
      show Go _ _ _ _ T235 (mkF m 85 #[.val (.int p0), .val (.int p1), .val (.int p2), .val (.int p3), .val (.int (2 : Int32)), .val (.ref cs_), .val (.ref st), .val (.ref t), .unset] [(.int (4 : Int32)), (.int (2 : Int32))])
      refine Go.by (fun _ gk => XS.icmpYes X235.here hx rfl (pc0 := 85) (pc' := 92) rfl (hb hby at_85) rfl (XT.ii_ne_t (by decide)) (by decide) (by decide) gk) ?_
      show Go _ _ _ _ T235 (mkF m 92 #[.val (.int p0), .val (.int p1), .val (.int p2), .val (.int p3), .val (.int (2 : Int32)), .val (.ref cs_), .val (.ref st), .val (.ref t), .unset] [])
      refine Go.by (fun _ gk => XT.iconstV X235.here hx rfl (0 : Int32) (hb hby at_92) (by decide) gk) ?_
      show Go _ _ _ _ T235 (mkF m 93 #[.val (.int p0), .val (.int p1), .val (.int p2), .val (.int p3), .val (.int (2 : Int32)), .val (.ref cs_), .val (.ref st), .val (.ref t), .unset] [(.int (0 : Int32))])
      refine Go.by (fun _ gk => XS.istore X235.here hx rfl (hb hby at_93) rfl (l' := #[.val (.int p0), .val (.int p1), .val (.int p2), .val (.int p3), .val (.int (2 : Int32)), .val (.ref cs_), .val (.ref st), .val (.ref t), .val (.int (0 : Int32))]) rfl gk) ?_
      show Go _ _ _ _ T235 (mkF m 95 #[.val (.int p0), .val (.int p1), .val (.int p2), .val (.int p3), .val (.int (2 : Int32)), .val (.ref cs_), .val (.ref st), .val (.ref t), .val (.int (0 : Int32))] [])
      refine Go.by (fun _ gk => XS.aload X235.here hx rfl (hb hby at_95) rfl rfl gk) ?_
      show Go _ _ _ _ T235 (mkF m 97 #[.val (.int p0), .val (.int p1), .val (.int p2), .val (.int p3), .val (.int (2 : Int32)), .val (.ref cs_), .val (.ref st), .val (.ref t), .val (.int (0 : Int32))] [(.ref t)])
      have F239 : Old Z n0 T235.heap := F232.keep K235 (allS ge_t all0)
      have F240 : n0 ≤ T235.heap.size := Nat.le_trans F233 K235.1
      obtain ⟨cq241, kq241, q241a, q241b, q241c⟩ := isOf hZ207 rfl Q235_0
      obtain ⟨_, _, ⟨T241, L241, k241, n241⟩, -, X241, ⟨Lc241, hQ241, l241, y241, z241⟩, st241⟩ := X235.virtualBack hx (y := (⟨"com/example/attache/attache/query/Token", "isParameter", "()Z"⟩ : MethodName)) (z := (⟨"com/example/attache/attache/query/Token", "isParameter", "()Z"⟩ : MethodName)) hown207 (mvT hZ207 (hw _ (List.mem_of_getElem? (i := 56) rfl))) (mvT hZ207 (hw _ (List.mem_of_getElem? (i := 57) rfl))) (notFace_of_selects (args := #[]) (mvT hZ207 (hw _ (List.mem_of_getElem? (i := 59) rfl)))) (mvT hZ207 (hw _ (List.mem_of_getElem? (i := 59) rfl))) (mvT hZ207 (hw _ (List.mem_of_getElem? (i := 58) rfl))) (by decide) (backOf (W := 0) (rmIsP l Z a0 hw [] t c_NUMBER (0 : Int32) c_WORD c_STRING c_NUMBER c_NAMED_PARAMETER c_POSITIONAL_PARAMETER c_SYMBOL c_END T235.heap n0 F240 F239 Q235_1 (Or.inr (Or.inr (Or.inl ⟨rfl, rfl⟩))) S_c_WORD E_c_WORD O_c_WORD S_c_STRING E_c_STRING O_c_STRING S_c_NUMBER E_c_NUMBER O_c_NUMBER S_c_NAMED_PARAMETER E_c_NAMED_PARAMETER O_c_NAMED_PARAMETER S_c_POSITIONAL_PARAMETER E_c_POSITIONAL_PARAMETER O_c_POSITIONAL_PARAMETER S_c_SYMBOL E_c_SYMBOL O_c_SYMBOL S_c_END E_c_END O_c_END) hZ207 (hw _ (List.mem_of_getElem? (i := 60) rfl)) (hw _ (List.mem_of_getElem? (i := 33) rfl)) (by decide) (by decide)) q241a q241c (g := (mkF m 97 #[.val (.int p0), .val (.int p1), .val (.int p2), .val (.int p3), .val (.int (2 : Int32)), .val (.ref cs_), .val (.ref st), .val (.ref t), .val (.int (0 : Int32))] [(.ref t)])) rfl (by rw [hml]; rfl) (Steps.refl _) (argsL := []) (rest := []) (lenOf pd_155 rfl) rfl (by show 2 * 0 + _ ≤ _; exact Nat.le_of_eq rfl) (hb hby at_97) (fun _ _ => ⟨rfl, rfl, (by decide : 4 + 0 ≤ _), (by decide : 9 + 0 ≤ _)⟩)
      dsimp only [Pt.U, Pt.locs, Pt.cells, Pt.slots] at X241 l241 y241 z241 st241 hQ241
      subst l241 y241 z241
      obtain ⟨rfl, N241q, e241⟩ := hQ241
      have N241 := Fr.app N235 N241q
      refine Go.to st241 ?_
      show Go _ _ _ _ T241 (mkF m 100 #[.val (.int p0), .val (.int p1), .val (.int p2), .val (.int p3), .val (.int (2 : Int32)), .val (.ref cs_), .val (.ref st), .val (.ref t), .val (.int (0 : Int32))] [(.int (0 : Int32))])
      refine Go.by (fun _ gk => XS.iload X241.here hx rfl (hb hby at_100) rfl gk) ?_
      show Go _ _ _ _ T241 (mkF m 102 #[.val (.int p0), .val (.int p1), .val (.int p2), .val (.int p3), .val (.int (2 : Int32)), .val (.ref cs_), .val (.ref st), .val (.ref t), .val (.int (0 : Int32))] [(.int (0 : Int32)), (.int (0 : Int32))])
      refine Go.by (fun _ gk => XS.icmpNo X241.here hx rfl (hb hby at_102) rfl (XT.ii_ne_f rfl) gk) ?_
      show Go _ _ _ _ T241 (mkF m 105 #[.val (.int p0), .val (.int p1), .val (.int p2), .val (.int p3), .val (.int (2 : Int32)), .val (.ref cs_), .val (.ref st), .val (.ref t), .val (.int (0 : Int32))] [])
      refine Go.by (fun _ gk => XT.iconstV X241.here hx rfl (1 : Int32) (hb hby at_105) (by decide) gk) ?_
      show Go _ _ _ _ T241 (mkF m 106 #[.val (.int p0), .val (.int p1), .val (.int p2), .val (.int p3), .val (.int (2 : Int32)), .val (.ref cs_), .val (.ref st), .val (.ref t), .val (.int (0 : Int32))] [(.int (1 : Int32))])
      refine Go.by (fun _ gk => XS.goto X241.here hx rfl (pc0 := 106) (pc' := 110) rfl (hb hby at_106) (by decide) (by decide) gk) ?_
      show Go _ _ _ _ T241 (mkF m 110 #[.val (.int p0), .val (.int p1), .val (.int p2), .val (.int p3), .val (.int (2 : Int32)), .val (.ref cs_), .val (.ref st), .val (.ref t), .val (.int (0 : Int32))] [(.int (1 : Int32))])
      have F242 : kq207 ≤ h215.size := Nat.le_trans hk207 E215.1
      have F243 : kq207 ≤ T235.heap.size := Nat.le_trans F242 K235.1
      exact Go.retIW X241 hx Bd.notSynchronized hS207 (by rw [e241]; exact F243) hZ207 hEL (by rw [hh, e241]; exact C236) Bd.returns rfl (by simp) (hb hby at_110) (by rw [e241]; exact ⟨rfl, N241⟩) (by decide) (by decide)
    · refine Go.by (fun _ gk => XS.ifNo X203.here hx rfl (hb hby at_40) rfl (XT.i0_eq_f hb206) gk) ?_
      show Go _ _ _ _ T203 (mkF m 43 #[.val (.int p0), .val (.int p1), .val (.int p2), .val (.int p3), .val (.int (2 : Int32)), .val (.ref cs_), .unset, .unset, .unset] [])
      have F245 : n0 ≤ h197.size := Nat.le_trans Z0 E197.1
      have F246 : n0 ≤ h200.size := Nat.le_trans F245 (Nat.le_of_eq (Wr.size W200).symm)
      have F247 : n0 ≤ h203.size := Nat.le_trans F246 (Nat.le_of_eq (Wr.size W203).symm)
      obtain ⟨st, g244⟩ : ∃ z, z = h203.size := ⟨_, rfl⟩
      have ge_st : n0 ≤ st := Nat.le_trans F247 (Nat.le_of_eq g244.symm)
      have F248 : Keep h0 h197 [] := (Keep.refl h0 []).ext E197
      have F249 : Keep h0 h200 [] := F248.wr W200 (Or.inr sz_cs_)
      have F250 : Keep h0 h203 [] := F249.wr W203 (Or.inr sz_cs_)
      have sz_st : h0.size ≤ st := Nat.le_trans F250.1 (Nat.le_of_eq g244.symm)
      have F251 : Exa Z h200 cs_ "[C" := Ea197.wr W200
      have F252 : Exa Z h203 cs_ "[C" := F251.wr W203
      have ne_cs__st : cs_ ≠ st := Nat.ne_of_lt (Nat.lt_of_lt_of_le F252.lt (Nat.le_of_eq g244.symm))
      obtain ⟨T244, h244, X244, e244, E244, A244, D244, -, st244⟩ := newO X203 hx hZ hown (hw _ (List.mem_of_getElem? (i := 2) rfl)) (hw _ (List.mem_of_getElem? (i := 3) rfl)) (hw _ (List.mem_of_getElem? (i := 4) rfl)) e203 (g := (mkF m 43 #[.val (.int p0), .val (.int p1), .val (.int p2), .val (.int p3), .val (.int (2 : Int32)), .val (.ref cs_), .unset, .unset, .unset] [])) rfl (hb hby at_43) (by decide) (by decide)
      rw [← g244] at A244 D244 st244
      have C253 : CHr Z own_EL s.vm h0 s.vm h244 := C204.trans (CHr.ext E244 C204.1)
      have Sf254 : Safe Z own_EL s.vm h244 cs_ := Safe.ext E244 C204.1 Sf205
      have Sf255 : Safe Z own_EL s.vm h244 st := Safe.ext E244 C204.1 (Safe.new (Nat.le_of_eq g244.symm))
      have F_coder_st : Fld Z h244 st "java/lang/String" "coder" "B" (.int (0 : Int32)) := D244 (Or.inr (hw _ (List.mem_of_getElem? (i := 28) rfl))) (ty := .byte) (by decide)
      have F_value_st : Fld Z h244 st "java/lang/String" "value" "[B" .null := D244 (Or.inr (hw _ (List.mem_of_getElem? (i := 30) rfl))) (ty := (.array .byte)) (by decide)
      refine Go.by st244 ?_
      show Go _ _ _ _ T244 (mkF m 46 #[.val (.int p0), .val (.int p1), .val (.int p2), .val (.int p3), .val (.int (2 : Int32)), .val (.ref cs_), .unset, .unset, .unset] [(.ref st)])
      refine Go.by (fun _ gk => XS.dup X244.here hx rfl (hb hby at_46) rfl rfl gk) ?_
      show Go _ _ _ _ T244 (mkF m 47 #[.val (.int p0), .val (.int p1), .val (.int p2), .val (.int p3), .val (.int (2 : Int32)), .val (.ref cs_), .unset, .unset, .unset] [(.ref st), (.ref st)])
      refine Go.by (fun _ gk => XS.aload X244.here hx rfl (hb hby at_47) rfl rfl gk) ?_
      show Go _ _ _ _ T244 (mkF m 49 #[.val (.int p0), .val (.int p1), .val (.int p2), .val (.int p3), .val (.int (2 : Int32)), .val (.ref cs_), .unset, .unset, .unset] [(.ref cs_), (.ref st), (.ref st)])
      have F256 : Old Z n0 h197 := O0.ext E197
      have F257 : Old Z n0 h200 := F256.wr W200 ge_cs_
      have F258 : Old Z n0 h203 := F257.wr W203 ge_cs_
      have F259 : Old Z n0 h244 := F258.ext E244
      have F260 : Arv Z h244 cs_ k197 .char (2 : Int32) [(.int (p1 &&& (255 : Int32))), (.int ((XT.ushr p1 (8 : Int32)) &&& (255 : Int32)))] (.int (0 : Int32)) := V203.ext E244
      have F261 : n0 ≤ h244.size := Nat.le_trans F247 E244.1
      have F262 : Keep h0 h244 [] := F250.ext E244
      have F263 : Exa Z h244 cs_ "[C" := F252.ext E244
      obtain ⟨_, _, ⟨T264, L264, k264, n264⟩, -, X264, ⟨Lc264, hQ264, l264, y264, z264⟩, st264⟩ := X244.specialBack hx (y := (⟨"java/lang/String", "<init>", "([C)V"⟩ : MethodName)) rfl hown (mvT hZ (hw _ (List.mem_of_getElem? (i := 5) rfl))) (mvT hZ (hw _ (List.mem_of_getElem? (i := 6) rfl))) (mvT hZ (hw _ (List.mem_of_getElem? (i := 7) rfl))) (by decide) (backOf (W := 1) (rmS1_2 l Z a0 hw [] st cs_ k197 (p1 &&& (255 : Int32)) ((XT.ushr p1 (8 : Int32)) &&& (255 : Int32)) cs h244 n0 F261 F259 A244 F_value_st F_coder_st ge_st F260 (own_255 _) (own_255 _) S_cs n_cs) hZ (hw _ (List.mem_of_getElem? (i := 7) rfl)) (hw _ (List.mem_of_getElem? (i := 4) rfl)) (by decide) (by decide)) (g := (mkF m 49 #[.val (.int p0), .val (.int p1), .val (.int p2), .val (.int p3), .val (.int (2 : Int32)), .val (.ref cs_), .unset, .unset, .unset] [(.ref cs_), (.ref st), (.ref st)])) rfl (by rw [hml]; rfl) (Steps.refl _) (a := st) (argsL := [(.ref cs_)]) (rest := [(.ref st)]) (lenOf pd_156 rfl) rfl (by show 2 * 0 + _ ≤ _; exact Nat.le_of_eq rfl) (hb hby at_49) (fun _ _ => ⟨rfl, e244, (by decide : 2 + 1 ≤ _), (by decide : 6 + 2 ≤ _)⟩)
      dsimp only [Pt.U, Pt.locs, Pt.cells, Pt.slots] at X264 l264 y264 z264 st264 hQ264
      subst l264 y264 z264
      obtain ⟨b_264, kb_264, rfl, N264q, K264, Q264_0, Q264_1, Q264_2, Q264_3, Q264_4⟩ := hQ264
      have N264 := Fr.app N203 N264q
      have C265 : CHr Z own_EL s.vm h0 s.vm T264.heap := C253.trans (CHr.keep K264 (sfS Sf255 sf0) C253.1)
      have Sf266 : Safe Z own_EL s.vm T264.heap cs_ := Safe.keep K264 (sfS Sf255 sf0) C253.1 Sf254
      have Sf267 : Safe Z own_EL s.vm T264.heap st := Safe.keep K264 (sfS Sf255 sf0) C253.1 Sf255
      refine Go.to st264 ?_
      show Go _ _ _ _ T264 (mkF m 52 #[.val (.int p0), .val (.int p1), .val (.int p2), .val (.int p3), .val (.int (2 : Int32)), .val (.ref cs_), .unset, .unset, .unset] [(.ref st)])
      have ge_b_264 : n0 ≤ b_264 := Nat.le_trans F261 Q264_4
      have sz_b_264 : h0.size ≤ b_264 := Nat.le_trans F262.1 Q264_4
      have ne_cs__b_264 : cs_ ≠ b_264 := Nat.ne_of_lt (Nat.lt_of_lt_of_le F260.lt Q264_4)
      have ne_st_b_264 : st ≠ b_264 := Nat.ne_of_lt (Nat.lt_of_lt_of_le A244.lt Q264_4)
      refine Go.by (fun _ gk => XS.goto X264.here hx rfl (pc0 := 52) (pc' := 57) rfl (hb hby at_52) (by decide) (by decide) gk) ?_
      show Go _ _ _ _ T264 (mkF m 57 #[.val (.int p0), .val (.int p1), .val (.int p2), .val (.int p3), .val (.int (2 : Int32)), .val (.ref cs_), .unset, .unset, .unset] [(.ref st)])
      refine Go.by (fun _ gk => XS.astore X264.here hx rfl (hb hby at_57) rfl rfl (l' := #[.val (.int p0), .val (.int p1), .val (.int p2), .val (.int p3), .val (.int (2 : Int32)), .val (.ref cs_), .val (.ref st), .unset, .unset]) rfl gk) ?_
      show Go _ _ _ _ T264 (mkF m 59 #[.val (.int p0), .val (.int p1), .val (.int p2), .val (.int p3), .val (.int (2 : Int32)), .val (.ref cs_), .val (.ref st), .unset, .unset] [])
      have F269 : n0 ≤ T264.heap.size := Nat.le_trans F261 K264.1
      obtain ⟨t, g268⟩ : ∃ z, z = T264.heap.size := ⟨_, rfl⟩
      have ge_t : n0 ≤ t := Nat.le_trans F269 (Nat.le_of_eq g268.symm)
      have F270 : Keep h0 T264.heap [] := F262.trans K264 (allS (Or.inr sz_st) all0)
      have sz_t : h0.size ≤ t := Nat.le_trans F270.1 (Nat.le_of_eq g268.symm)
      have ne_b_264_t : b_264 ≠ t := Nat.ne_of_lt (Nat.lt_of_lt_of_le Q264_3.lt (Nat.le_of_eq g268.symm))
      have F271 : Exa Z T264.heap cs_ "[C" := F263.keep K264
      have ne_cs__t : cs_ ≠ t := Nat.ne_of_lt (Nat.lt_of_lt_of_le F271.lt (Nat.le_of_eq g268.symm))
      have ne_st_t : st ≠ t := Nat.ne_of_lt (Nat.lt_of_lt_of_le Q264_0.lt (Nat.le_of_eq g268.symm))
      obtain ⟨T268, h268, X268, e268, E268, A268, D268, -, st268⟩ := newO X264 hx hZ hown (hw _ (List.mem_of_getElem? (i := 31) rfl)) (hw _ (List.mem_of_getElem? (i := 32) rfl)) (hw _ (List.mem_of_getElem? (i := 33) rfl)) rfl (g := (mkF m 59 #[.val (.int p0), .val (.int p1), .val (.int p2), .val (.int p3), .val (.int (2 : Int32)), .val (.ref cs_), .val (.ref st), .unset, .unset] [])) rfl (hb hby at_59) (by decide) (by decide)
      rw [← g268] at A268 D268 st268
      have C272 : CHr Z own_EL s.vm h0 s.vm h268 := C265.trans (CHr.ext E268 C265.1)
      have Sf273 : Safe Z own_EL s.vm h268 cs_ := Safe.ext E268 C265.1 Sf266
      have Sf274 : Safe Z own_EL s.vm h268 st := Safe.ext E268 C265.1 Sf267
      have Sf275 : Safe Z own_EL s.vm h268 t := Safe.ext E268 C265.1 (Safe.new (Nat.le_of_eq g268.symm))
      have F_kind_t : Fld Z h268 t "com/example/attache/attache/query/Token" "kind" "Lcom/example/attache/attache/query/Token$Kind;" .null := D268 (Or.inr (hw _ (List.mem_of_getElem? (i := 51) rfl))) (ty := (.object "com/example/attache/attache/query/Token$Kind")) (by decide)
      have F_text_t : Fld Z h268 t "com/example/attache/attache/query/Token" "text" "Ljava/lang/String;" .null := D268 (Or.inr (hw _ (List.mem_of_getElem? (i := 53) rfl))) (ty := (.object "java/lang/String")) (by decide)
      have F_position_t : Fld Z h268 t "com/example/attache/attache/query/Token" "position" "I" (.int (0 : Int32)) := D268 (Or.inr (hw _ (List.mem_of_getElem? (i := 55) rfl))) (ty := .int) (by decide)
      refine Go.by st268 ?_
      show Go _ _ _ _ T268 (mkF m 62 #[.val (.int p0), .val (.int p1), .val (.int p2), .val (.int p3), .val (.int (2 : Int32)), .val (.ref cs_), .val (.ref st), .unset, .unset] [(.ref t)])
      refine Go.by (fun _ gk => XS.dup X268.here hx rfl (hb hby at_62) rfl rfl gk) ?_
      show Go _ _ _ _ T268 (mkF m 63 #[.val (.int p0), .val (.int p1), .val (.int p2), .val (.int p3), .val (.int (2 : Int32)), .val (.ref cs_), .val (.ref st), .unset, .unset] [(.ref t), (.ref t)])
      refine Go.by (fun _ gk => XS.iload X268.here hx rfl (hb hby at_63) rfl gk) ?_
      show Go _ _ _ _ T268 (mkF m 65 #[.val (.int p0), .val (.int p1), .val (.int p2), .val (.int p3), .val (.int (2 : Int32)), .val (.ref cs_), .val (.ref st), .unset, .unset] [(.int (2 : Int32)), (.ref t), (.ref t)])
      have F276 : Old Z n0 T264.heap := F259.keep K264 (allS ge_st all0)
      have F277 : Old Z n0 h268 := F276.ext E268
      have F278 : n0 ≤ h268.size := Nat.le_trans F269 E268.1
      obtain ⟨_, _, ⟨T279, L279, k279, n279⟩, -, X279, ⟨Lc279, hQ279, l279, y279, z279⟩, st279⟩ := Jvm.LawKit.callS X268 hx (y := (⟨"com/example/attache/attache/query/TokenIsParameterPinLaw", "kindOf", "(I)Lcom/example/attache/attache/query/Token$Kind;"⟩ : MethodName)) hown (mvT hZ (hw _ (List.mem_of_getElem? (i := 34) rfl))) (mvT hZ (hw _ (List.mem_of_getElem? (i := 35) rfl))) (mvT hZ (hw _ (List.mem_of_getElem? (i := 36) rfl))) (mvT hZ (hw _ (List.mem_of_getElem? (i := 37) rfl))) (by decide) (backOf (W := 2) (rmKind l Z a0 hw [] (2 : Int32) c_NUMBER c_WORD c_STRING c_NUMBER c_NAMED_PARAMETER c_POSITIONAL_PARAMETER c_SYMBOL c_END h268 n0 F278 F277 (Or.inr (Or.inr (Or.inl ⟨rfl, rfl⟩))) S_c_WORD E_c_WORD O_c_WORD S_c_STRING E_c_STRING O_c_STRING S_c_NUMBER E_c_NUMBER O_c_NUMBER S_c_NAMED_PARAMETER E_c_NAMED_PARAMETER O_c_NAMED_PARAMETER S_c_POSITIONAL_PARAMETER E_c_POSITIONAL_PARAMETER O_c_POSITIONAL_PARAMETER S_c_SYMBOL E_c_SYMBOL O_c_SYMBOL S_c_END E_c_END O_c_END) hZ (hw _ (List.mem_of_getElem? (i := 37) rfl)) (hw _ (List.mem_of_getElem? (i := 36) rfl)) (by decide) (by decide)) (g := (mkF m 65 #[.val (.int p0), .val (.int p1), .val (.int p2), .val (.int p3), .val (.int (2 : Int32)), .val (.ref cs_), .val (.ref st), .unset, .unset] [(.int (2 : Int32)), (.ref t), (.ref t)])) rfl (by rw [hml]; rfl) (argsL := [(.int (2 : Int32))]) (rest := [(.ref t), (.ref t)]) (lenOf pd_153 rfl) rfl (by show 2 * 0 + _ ≤ _; exact Nat.le_of_eq rfl) (hb hby at_65) (fun _ _ => ⟨rfl, e268, (by decide : 4 + 0 ≤ _), (by decide : 11 + 0 ≤ _)⟩)
      dsimp only [Pt.U, Pt.locs, Pt.cells, Pt.slots] at X279 l279 y279 z279 st279 hQ279
      subst l279 y279 z279
      obtain ⟨rfl, N279q, e279⟩ := hQ279
      have N279 := Fr.app N264 N279q
      refine Go.by st279 ?_
      show Go _ _ _ _ T279 (mkF m 68 #[.val (.int p0), .val (.int p1), .val (.int p2), .val (.int p3), .val (.int (2 : Int32)), .val (.ref cs_), .val (.ref st), .unset, .unset] [(.ref c_NUMBER), (.ref t), (.ref t)])
      refine Go.by (fun _ gk => XS.aload X279.here hx rfl (hb hby at_68) rfl rfl gk) ?_
      show Go _ _ _ _ T279 (mkF m 70 #[.val (.int p0), .val (.int p1), .val (.int p2), .val (.int p3), .val (.int (2 : Int32)), .val (.ref cs_), .val (.ref st), .unset, .unset] [(.ref st), (.ref c_NUMBER), (.ref t), (.ref t)])
      refine Go.by (fun _ gk => XS.iloadN X279.here hx rfl (hb hby at_70) rfl gk) ?_
      show Go _ _ _ _ T279 (mkF m 71 #[.val (.int p0), .val (.int p1), .val (.int p2), .val (.int p3), .val (.int (2 : Int32)), .val (.ref cs_), .val (.ref st), .unset, .unset] [(.int p2), (.ref st), (.ref c_NUMBER), (.ref t), (.ref t)])
      obtain ⟨_, _, ⟨T280, L280, k280, n280⟩, -, X280, ⟨Lc280, hQ280, l280, y280, z280⟩, st280⟩ := X279.specialBack hx (y := (⟨"com/example/attache/attache/query/Token", "<init>", "(Lcom/example/attache/attache/query/Token$Kind;Ljava/lang/String;I)V"⟩ : MethodName)) rfl hown (mvT hZ (hw _ (List.mem_of_getElem? (i := 41) rfl))) (mvT hZ (hw _ (List.mem_of_getElem? (i := 42) rfl))) (mvT hZ (hw _ (List.mem_of_getElem? (i := 43) rfl))) (by decide) (backOf (W := 1) (rmToken l Z a0 hw [] t c_NUMBER st p2 h268 n0 F278 A268 F_kind_t F_text_t F_position_t ge_t) hZ (hw _ (List.mem_of_getElem? (i := 43) rfl)) (hw _ (List.mem_of_getElem? (i := 33) rfl)) (by decide) (by decide)) (g := (mkF m 71 #[.val (.int p0), .val (.int p1), .val (.int p2), .val (.int p3), .val (.int (2 : Int32)), .val (.ref cs_), .val (.ref st), .unset, .unset] [(.int p2), (.ref st), (.ref c_NUMBER), (.ref t), (.ref t)])) rfl (by rw [hml]; rfl) (Steps.refl _) (a := t) (argsL := [(.ref c_NUMBER), (.ref st), (.int p2)]) (rest := [(.ref t)]) (lenOf pd_154 rfl) rfl (by show 2 * 0 + _ ≤ _; exact Nat.le_of_eq rfl) (hb hby at_71) (fun _ _ => ⟨rfl, e279, (by decide : 4 + 0 ≤ _), (by decide : 11 + 0 ≤ _)⟩)
      dsimp only [Pt.U, Pt.locs, Pt.cells, Pt.slots] at X280 l280 y280 z280 st280 hQ280
      subst l280 y280 z280
      obtain ⟨rfl, N280q, K280, Q280_0, Q280_1⟩ := hQ280
      have N280 := Fr.app N279 N280q
      have C281 : CHr Z own_EL s.vm h0 s.vm T280.heap := C272.trans (CHr.keep K280 (sfS Sf275 sf0) C272.1)
      have Sf282 : Safe Z own_EL s.vm T280.heap cs_ := Safe.keep K280 (sfS Sf275 sf0) C272.1 Sf273
      have Sf283 : Safe Z own_EL s.vm T280.heap st := Safe.keep K280 (sfS Sf275 sf0) C272.1 Sf274
      have Sf284 : Safe Z own_EL s.vm T280.heap t := Safe.keep K280 (sfS Sf275 sf0) C272.1 Sf275
      refine Go.to st280 ?_
      show Go _ _ _ _ T280 (mkF m 74 #[.val (.int p0), .val (.int p1), .val (.int p2), .val (.int p3), .val (.int (2 : Int32)), .val (.ref cs_), .val (.ref st), .unset, .unset] [(.ref t)])
      refine Go.by (fun _ gk => XS.astore X280.here hx rfl (hb hby at_74) rfl rfl (l' := #[.val (.int p0), .val (.int p1), .val (.int p2), .val (.int p3), .val (.int (2 : Int32)), .val (.ref cs_), .val (.ref st), .val (.ref t), .unset]) rfl gk) ?_
      show Go _ _ _ _ T280 (mkF m 76 #[.val (.int p0), .val (.int p1), .val (.int p2), .val (.int p3), .val (.int (2 : Int32)), .val (.ref cs_), .val (.ref st), .val (.ref t), .unset] [])
      refine Go.by (fun _ gk => XS.iload X280.here hx rfl (hb hby at_76) rfl gk) ?_
      show Go _ _ _ _ T280 (mkF m 78 #[.val (.int p0), .val (.int p1), .val (.int p2), .val (.int p3), .val (.int (2 : Int32)), .val (.ref cs_), .val (.ref st), .val (.ref t), .unset] [(.int (2 : Int32))])
      refine Go.by (fun _ gk => XT.iconstV X280.here hx rfl (3 : Int32) (hb hby at_78) (by decide) gk) ?_
      show Go _ _ _ _ T280 (mkF m 79 #[.val (.int p0), .val (.int p1), .val (.int p2), .val (.int p3), .val (.int (2 : Int32)), .val (.ref cs_), .val (.ref st), .val (.ref t), .unset] [(.int (3 : Int32)), (.int (2 : Int32))])
      refine Go.by (fun _ gk => XS.icmpNo X280.here hx rfl (hb hby at_79) rfl (XT.ii_eq_f (by decide)) gk) ?_
      show Go _ _ _ _ T280 (mkF m 82 #[.val (.int p0), .val (.int p1), .val (.int p2), .val (.int p3), .val (.int (2 : Int32)), .val (.ref cs_), .val (.ref st), .val (.ref t), .unset] [])
      refine Go.by (fun _ gk => XS.iload X280.here hx rfl (hb hby at_82) rfl gk) ?_
      show Go _ _ _ _ T280 (mkF m 84 #[.val (.int p0), .val (.int p1), .val (.int p2), .val (.int p3), .val (.int (2 : Int32)), .val (.ref cs_), .val (.ref st), .val (.ref t), .unset] [(.int (2 : Int32))])
      refine Go.by (fun _ gk => XT.iconstV X280.here hx rfl (4 : Int32) (hb hby at_84) (by decide) gk) ?_
      show Go _ _ _ _ T280 (mkF m 85 #[.val (.int p0), .val (.int p1), .val (.int p2), .val (.int p3), .val (.int (2 : Int32)), .val (.ref cs_), .val (.ref st), .val (.ref t), .unset] [(.int (4 : Int32)), (.int (2 : Int32))])
      refine Go.by (fun _ gk => XS.icmpYes X280.here hx rfl (pc0 := 85) (pc' := 92) rfl (hb hby at_85) rfl (XT.ii_ne_t (by decide)) (by decide) (by decide) gk) ?_
      show Go _ _ _ _ T280 (mkF m 92 #[.val (.int p0), .val (.int p1), .val (.int p2), .val (.int p3), .val (.int (2 : Int32)), .val (.ref cs_), .val (.ref st), .val (.ref t), .unset] [])
      refine Go.by (fun _ gk => XT.iconstV X280.here hx rfl (0 : Int32) (hb hby at_92) (by decide) gk) ?_
      show Go _ _ _ _ T280 (mkF m 93 #[.val (.int p0), .val (.int p1), .val (.int p2), .val (.int p3), .val (.int (2 : Int32)), .val (.ref cs_), .val (.ref st), .val (.ref t), .unset] [(.int (0 : Int32))])
      refine Go.by (fun _ gk => XS.istore X280.here hx rfl (hb hby at_93) rfl (l' := #[.val (.int p0), .val (.int p1), .val (.int p2), .val (.int p3), .val (.int (2 : Int32)), .val (.ref cs_), .val (.ref st), .val (.ref t), .val (.int (0 : Int32))]) rfl gk) ?_
      show Go _ _ _ _ T280 (mkF m 95 #[.val (.int p0), .val (.int p1), .val (.int p2), .val (.int p3), .val (.int (2 : Int32)), .val (.ref cs_), .val (.ref st), .val (.ref t), .val (.int (0 : Int32))] [])
      refine Go.by (fun _ gk => XS.aload X280.here hx rfl (hb hby at_95) rfl rfl gk) ?_
      show Go _ _ _ _ T280 (mkF m 97 #[.val (.int p0), .val (.int p1), .val (.int p2), .val (.int p3), .val (.int (2 : Int32)), .val (.ref cs_), .val (.ref st), .val (.ref t), .val (.int (0 : Int32))] [(.ref t)])
      have F285 : Old Z n0 T280.heap := F277.keep K280 (allS ge_t all0)
      have F286 : n0 ≤ T280.heap.size := Nat.le_trans F278 K280.1
      obtain ⟨cq287, kq287, q287a, q287b, q287c⟩ := isOf hZ rfl Q280_0
      obtain ⟨_, _, ⟨T287, L287, k287, n287⟩, -, X287, ⟨Lc287, hQ287, l287, y287, z287⟩, st287⟩ := X280.virtualBack hx (y := (⟨"com/example/attache/attache/query/Token", "isParameter", "()Z"⟩ : MethodName)) (z := (⟨"com/example/attache/attache/query/Token", "isParameter", "()Z"⟩ : MethodName)) hown (mvT hZ (hw _ (List.mem_of_getElem? (i := 56) rfl))) (mvT hZ (hw _ (List.mem_of_getElem? (i := 57) rfl))) (notFace_of_selects (args := #[]) (mvT hZ (hw _ (List.mem_of_getElem? (i := 59) rfl)))) (mvT hZ (hw _ (List.mem_of_getElem? (i := 59) rfl))) (mvT hZ (hw _ (List.mem_of_getElem? (i := 58) rfl))) (by decide) (backOf (W := 0) (rmIsP l Z a0 hw [] t c_NUMBER (0 : Int32) c_WORD c_STRING c_NUMBER c_NAMED_PARAMETER c_POSITIONAL_PARAMETER c_SYMBOL c_END T280.heap n0 F286 F285 Q280_1 (Or.inr (Or.inr (Or.inl ⟨rfl, rfl⟩))) S_c_WORD E_c_WORD O_c_WORD S_c_STRING E_c_STRING O_c_STRING S_c_NUMBER E_c_NUMBER O_c_NUMBER S_c_NAMED_PARAMETER E_c_NAMED_PARAMETER O_c_NAMED_PARAMETER S_c_POSITIONAL_PARAMETER E_c_POSITIONAL_PARAMETER O_c_POSITIONAL_PARAMETER S_c_SYMBOL E_c_SYMBOL O_c_SYMBOL S_c_END E_c_END O_c_END) hZ (hw _ (List.mem_of_getElem? (i := 60) rfl)) (hw _ (List.mem_of_getElem? (i := 33) rfl)) (by decide) (by decide)) q287a q287c (g := (mkF m 97 #[.val (.int p0), .val (.int p1), .val (.int p2), .val (.int p3), .val (.int (2 : Int32)), .val (.ref cs_), .val (.ref st), .val (.ref t), .val (.int (0 : Int32))] [(.ref t)])) rfl (by rw [hml]; rfl) (Steps.refl _) (argsL := []) (rest := []) (lenOf pd_155 rfl) rfl (by show 2 * 0 + _ ≤ _; exact Nat.le_of_eq rfl) (hb hby at_97) (fun _ _ => ⟨rfl, rfl, (by decide : 4 + 0 ≤ _), (by decide : 11 + 0 ≤ _)⟩)
      dsimp only [Pt.U, Pt.locs, Pt.cells, Pt.slots] at X287 l287 y287 z287 st287 hQ287
      subst l287 y287 z287
      obtain ⟨rfl, N287q, e287⟩ := hQ287
      have N287 := Fr.app N280 N287q
      refine Go.to st287 ?_
      show Go _ _ _ _ T287 (mkF m 100 #[.val (.int p0), .val (.int p1), .val (.int p2), .val (.int p3), .val (.int (2 : Int32)), .val (.ref cs_), .val (.ref st), .val (.ref t), .val (.int (0 : Int32))] [(.int (0 : Int32))])
      refine Go.by (fun _ gk => XS.iload X287.here hx rfl (hb hby at_100) rfl gk) ?_
      show Go _ _ _ _ T287 (mkF m 102 #[.val (.int p0), .val (.int p1), .val (.int p2), .val (.int p3), .val (.int (2 : Int32)), .val (.ref cs_), .val (.ref st), .val (.ref t), .val (.int (0 : Int32))] [(.int (0 : Int32)), (.int (0 : Int32))])
      refine Go.by (fun _ gk => XS.icmpNo X287.here hx rfl (hb hby at_102) rfl (XT.ii_ne_f rfl) gk) ?_
      show Go _ _ _ _ T287 (mkF m 105 #[.val (.int p0), .val (.int p1), .val (.int p2), .val (.int p3), .val (.int (2 : Int32)), .val (.ref cs_), .val (.ref st), .val (.ref t), .val (.int (0 : Int32))] [])
      refine Go.by (fun _ gk => XT.iconstV X287.here hx rfl (1 : Int32) (hb hby at_105) (by decide) gk) ?_
      show Go _ _ _ _ T287 (mkF m 106 #[.val (.int p0), .val (.int p1), .val (.int p2), .val (.int p3), .val (.int (2 : Int32)), .val (.ref cs_), .val (.ref st), .val (.ref t), .val (.int (0 : Int32))] [(.int (1 : Int32))])
      refine Go.by (fun _ gk => XS.goto X287.here hx rfl (pc0 := 106) (pc' := 110) rfl (hb hby at_106) (by decide) (by decide) gk) ?_
      show Go _ _ _ _ T287 (mkF m 110 #[.val (.int p0), .val (.int p1), .val (.int p2), .val (.int p3), .val (.int (2 : Int32)), .val (.ref cs_), .val (.ref st), .val (.ref t), .val (.int (0 : Int32))] [(.int (1 : Int32))])
      have F288 : s.heap.size ≤ h197.size := Nat.le_trans hk0 E197.1
      have F289 : s.heap.size ≤ h200.size := Nat.le_trans F288 (Nat.le_of_eq (Wr.size W200).symm)
      have F290 : s.heap.size ≤ h203.size := Nat.le_trans F289 (Nat.le_of_eq (Wr.size W203).symm)
      have F291 : s.heap.size ≤ h244.size := Nat.le_trans F290 E244.1
      have F292 : s.heap.size ≤ T264.heap.size := Nat.le_trans F291 K264.1
      have F293 : s.heap.size ≤ h268.size := Nat.le_trans F292 E268.1
      have F294 : s.heap.size ≤ T280.heap.size := Nat.le_trans F293 K280.1
      exact Go.retIW X287 hx Bd.notSynchronized hS0 (by rw [e287]; exact F294) hZ hEL (by rw [hh, e287]; exact C281) Bd.returns rfl (by simp) (hb hby at_110) (by rw [e287]; exact ⟨rfl, N287⟩) (by decide) (by decide)
  · show Go _ _ _ _ s₁ (mkF m 9 #[.val (.int p0), .val (.int p1), .val (.int p2), .val (.int p3), .val (.int (3 : Int32)), .unset, .unset, .unset, .unset] [])
    refine Go.by (fun _ gk => XT.iconstV X0.here hx rfl (2 : Int32) (hb hby at_9) (by decide) gk) ?_
    show Go _ _ _ _ s₁ (mkF m 10 #[.val (.int p0), .val (.int p1), .val (.int p2), .val (.int p3), .val (.int (3 : Int32)), .unset, .unset, .unset, .unset] [(.int (2 : Int32))])
    obtain ⟨cs_, g295⟩ : ∃ z, z = h0.size := ⟨_, rfl⟩
    have ge_cs_ : n0 ≤ cs_ := Nat.le_trans Z0 (Nat.le_of_eq g295.symm)
    have sz_cs_ : h0.size ≤ cs_ := Nat.le_trans (Keep.refl h0 []).1 (Nat.le_of_eq g295.symm)
    obtain ⟨T295, h295, k295, X295, e295, E295, A295, Ea295, st295⟩ := newPE X0 hx hZ (hw _ (List.mem_of_getElem? (i := 1) rfl)) e0 (g := (mkF m 10 #[.val (.int p0), .val (.int p1), .val (.int p2), .val (.int p3), .val (.int (3 : Int32)), .unset, .unset, .unset, .unset] [(.int (2 : Int32))])) rfl (hb hby at_10) rfl (by decide) (cap := 2) (by decide) (by decide) (by decide) (by decide) (ad := "[C") rfl
    rw [← g295] at A295 Ea295 st295
    have C296 : CHr Z own_EL s.vm h0 s.vm h295 := C0.trans (CHr.ext E295 C0.1)
    have Sf297 : Safe Z own_EL s.vm h295 cs_ := Safe.ext E295 C0.1 (Safe.new (Nat.le_of_eq g295.symm))
    have V_cs_ : Arv Z h295 cs_ k295 .char (2 : Int32) [(.int (0 : Int32)), (.int (0 : Int32))] (.int (0 : Int32)) := (Arv.new A295 (by decide)).pad (pad_rep [] (.int (0 : Int32)) 2)
    refine Go.by st295 ?_
    show Go _ _ _ _ T295 (mkF m 12 #[.val (.int p0), .val (.int p1), .val (.int p2), .val (.int p3), .val (.int (3 : Int32)), .unset, .unset, .unset, .unset] [(.ref cs_)])
    refine Go.by (fun _ gk => XS.astore X295.here hx rfl (hb hby at_12) rfl rfl (l' := #[.val (.int p0), .val (.int p1), .val (.int p2), .val (.int p3), .val (.int (3 : Int32)), .val (.ref cs_), .unset, .unset, .unset]) rfl gk) ?_
    show Go _ _ _ _ T295 (mkF m 14 #[.val (.int p0), .val (.int p1), .val (.int p2), .val (.int p3), .val (.int (3 : Int32)), .val (.ref cs_), .unset, .unset, .unset] [])
    refine Go.by (fun _ gk => XS.aload X295.here hx rfl (hb hby at_14) rfl rfl gk) ?_
    show Go _ _ _ _ T295 (mkF m 16 #[.val (.int p0), .val (.int p1), .val (.int p2), .val (.int p3), .val (.int (3 : Int32)), .val (.ref cs_), .unset, .unset, .unset] [(.ref cs_)])
    refine Go.by (fun _ gk => XT.iconstV X295.here hx rfl (0 : Int32) (hb hby at_16) (by decide) gk) ?_
    show Go _ _ _ _ T295 (mkF m 17 #[.val (.int p0), .val (.int p1), .val (.int p2), .val (.int p3), .val (.int (3 : Int32)), .val (.ref cs_), .unset, .unset, .unset] [(.int (0 : Int32)), (.ref cs_)])
    refine Go.by (fun _ gk => XS.iloadN X295.here hx rfl (hb hby at_17) rfl gk) ?_
    show Go _ _ _ _ T295 (mkF m 18 #[.val (.int p0), .val (.int p1), .val (.int p2), .val (.int p3), .val (.int (3 : Int32)), .val (.ref cs_), .unset, .unset, .unset] [(.int p1), (.int (0 : Int32)), (.ref cs_)])
    refine Go.by (fun _ gk => XT.sipushV X295.here hx rfl (255 : Int32) (hb hby at_18) (by decide) gk) ?_
    show Go _ _ _ _ T295 (mkF m 21 #[.val (.int p0), .val (.int p1), .val (.int p2), .val (.int p3), .val (.int (3 : Int32)), .val (.ref cs_), .unset, .unset, .unset] [(.int (255 : Int32)), (.int p1), (.int (0 : Int32)), (.ref cs_)])
    refine Go.by (fun _ gk => XS.iand X295.here hx rfl (hb hby at_21) rfl gk) ?_
    show Go _ _ _ _ T295 (mkF m 22 #[.val (.int p0), .val (.int p1), .val (.int p2), .val (.int p3), .val (.int (3 : Int32)), .val (.ref cs_), .unset, .unset, .unset] [(.int (p1 &&& (255 : Int32))), (.int (0 : Int32)), (.ref cs_)])
    refine Go.by (fun _ gk => XT.i2c X295.here hx rfl (hb hby at_22) rfl gk) ?_
    show Go _ _ _ _ T295 (mkF m 23 #[.val (.int p0), .val (.int p1), .val (.int p2), .val (.int p3), .val (.int (3 : Int32)), .val (.ref cs_), .unset, .unset, .unset] [(.int ((p1 &&& (255 : Int32)).toUInt32.toUInt16.toUInt32.toInt32)), (.int (0 : Int32)), (.ref cs_)])
    rw [i2c_mask]
    show Go _ _ _ _ T295 (mkF m 23 #[.val (.int p0), .val (.int p1), .val (.int p2), .val (.int p3), .val (.int (3 : Int32)), .val (.ref cs_), .unset, .unset, .unset] [(.int (p1 &&& (255 : Int32))), (.int (0 : Int32)), (.ref cs_)])
    obtain ⟨cl298, Ar298, q298, S298, M298, H298, G298⟩ := id V_cs_
    have hin298 : ¬ ((0 : Int32) < 0 ∨ cl298.slots.size ≤ (0 : Int32).toNatClampNeg) := inb_of S298 ⟨by decide, by decide⟩
    obtain ⟨T298, h298, X298, e298, W298, st298⟩ := stC X295 hx hZ e295 Ar298 (j := (0 : Int32)) hin298 (g := (mkF m 23 #[.val (.int p0), .val (.int p1), .val (.int p2), .val (.int p3), .val (.int (3 : Int32)), .val (.ref cs_), .unset, .unset, .unset] [(.int (p1 &&& (255 : Int32))), (.int (0 : Int32)), (.ref cs_)])) rfl rfl (hb hby at_23)
    have C299 : CHr Z own_EL s.vm h0 s.vm h298 := C296.trans (CHr.wr W298 Sf297 C296.1)
    have Sf300 : Safe Z own_EL s.vm h298 cs_ := Safe.wr W298 Sf297 C296.1 Sf297
    have N298 := Fr.snoc X298 N0 ge_cs_
    have V298 : Arv Z h298 cs_ k295 .char (2 : Int32) [(.int (nar .char (p1 &&& (255 : Int32)))), (.int (0 : Int32))] (.int (0 : Int32)) := Arv.set Ar298 q298 S298 M298 H298 G298 (fits_nar_char _) W298 0 rfl (Nat.le_of_ble_eq_true rfl)
    refine Go.by st298 ?_
    show Go _ _ _ _ T298 (mkF m 24 #[.val (.int p0), .val (.int p1), .val (.int p2), .val (.int p3), .val (.int (3 : Int32)), .val (.ref cs_), .unset, .unset, .unset] [])
    rw [own_nc] at V298
    refine Go.by (fun _ gk => XS.aload X298.here hx rfl (hb hby at_24) rfl rfl gk) ?_
    show Go _ _ _ _ T298 (mkF m 26 #[.val (.int p0), .val (.int p1), .val (.int p2), .val (.int p3), .val (.int (3 : Int32)), .val (.ref cs_), .unset, .unset, .unset] [(.ref cs_)])
    refine Go.by (fun _ gk => XT.iconstV X298.here hx rfl (1 : Int32) (hb hby at_26) (by decide) gk) ?_
    show Go _ _ _ _ T298 (mkF m 27 #[.val (.int p0), .val (.int p1), .val (.int p2), .val (.int p3), .val (.int (3 : Int32)), .val (.ref cs_), .unset, .unset, .unset] [(.int (1 : Int32)), (.ref cs_)])
    refine Go.by (fun _ gk => XS.iloadN X298.here hx rfl (hb hby at_27) rfl gk) ?_
    show Go _ _ _ _ T298 (mkF m 28 #[.val (.int p0), .val (.int p1), .val (.int p2), .val (.int p3), .val (.int (3 : Int32)), .val (.ref cs_), .unset, .unset, .unset] [(.int p1), (.int (1 : Int32)), (.ref cs_)])
    refine Go.by (fun _ gk => XT.bipushV X298.here hx rfl (8 : Int32) (hb hby at_28) (by decide) gk) ?_
    show Go _ _ _ _ T298 (mkF m 30 #[.val (.int p0), .val (.int p1), .val (.int p2), .val (.int p3), .val (.int (3 : Int32)), .val (.ref cs_), .unset, .unset, .unset] [(.int (8 : Int32)), (.int p1), (.int (1 : Int32)), (.ref cs_)])
    refine Go.by (fun _ gk => XT.iushr X298.here hx rfl (hb hby at_30) rfl gk) ?_
    show Go _ _ _ _ T298 (mkF m 31 #[.val (.int p0), .val (.int p1), .val (.int p2), .val (.int p3), .val (.int (3 : Int32)), .val (.ref cs_), .unset, .unset, .unset] [(.int (XT.ushr p1 (8 : Int32))), (.int (1 : Int32)), (.ref cs_)])
    refine Go.by (fun _ gk => XT.sipushV X298.here hx rfl (255 : Int32) (hb hby at_31) (by decide) gk) ?_
    show Go _ _ _ _ T298 (mkF m 34 #[.val (.int p0), .val (.int p1), .val (.int p2), .val (.int p3), .val (.int (3 : Int32)), .val (.ref cs_), .unset, .unset, .unset] [(.int (255 : Int32)), (.int (XT.ushr p1 (8 : Int32))), (.int (1 : Int32)), (.ref cs_)])
    refine Go.by (fun _ gk => XS.iand X298.here hx rfl (hb hby at_34) rfl gk) ?_
    show Go _ _ _ _ T298 (mkF m 35 #[.val (.int p0), .val (.int p1), .val (.int p2), .val (.int p3), .val (.int (3 : Int32)), .val (.ref cs_), .unset, .unset, .unset] [(.int ((XT.ushr p1 (8 : Int32)) &&& (255 : Int32))), (.int (1 : Int32)), (.ref cs_)])
    refine Go.by (fun _ gk => XT.i2c X298.here hx rfl (hb hby at_35) rfl gk) ?_
    show Go _ _ _ _ T298 (mkF m 36 #[.val (.int p0), .val (.int p1), .val (.int p2), .val (.int p3), .val (.int (3 : Int32)), .val (.ref cs_), .unset, .unset, .unset] [(.int (((XT.ushr p1 (8 : Int32)) &&& (255 : Int32)).toUInt32.toUInt16.toUInt32.toInt32)), (.int (1 : Int32)), (.ref cs_)])
    rw [i2c_mask]
    show Go _ _ _ _ T298 (mkF m 36 #[.val (.int p0), .val (.int p1), .val (.int p2), .val (.int p3), .val (.int (3 : Int32)), .val (.ref cs_), .unset, .unset, .unset] [(.int ((XT.ushr p1 (8 : Int32)) &&& (255 : Int32))), (.int (1 : Int32)), (.ref cs_)])
    obtain ⟨cl301, Ar301, q301, S301, M301, H301, G301⟩ := id V298
    have hin301 : ¬ ((1 : Int32) < 0 ∨ cl301.slots.size ≤ (1 : Int32).toNatClampNeg) := inb_of S301 ⟨by decide, by decide⟩
    obtain ⟨T301, h301, X301, e301, W301, st301⟩ := stC X298 hx hZ e298 Ar301 (j := (1 : Int32)) hin301 (g := (mkF m 36 #[.val (.int p0), .val (.int p1), .val (.int p2), .val (.int p3), .val (.int (3 : Int32)), .val (.ref cs_), .unset, .unset, .unset] [(.int ((XT.ushr p1 (8 : Int32)) &&& (255 : Int32))), (.int (1 : Int32)), (.ref cs_)])) rfl rfl (hb hby at_36)
    have C302 : CHr Z own_EL s.vm h0 s.vm h301 := C299.trans (CHr.wr W301 Sf300 C299.1)
    have Sf303 : Safe Z own_EL s.vm h301 cs_ := Safe.wr W301 Sf300 C299.1 Sf300
    have N301 := Fr.snoc X301 N298 ge_cs_
    have V301 : Arv Z h301 cs_ k295 .char (2 : Int32) [(.int (p1 &&& (255 : Int32))), (.int (nar .char ((XT.ushr p1 (8 : Int32)) &&& (255 : Int32))))] (.int (0 : Int32)) := Arv.set Ar301 q301 S301 M301 H301 G301 (fits_nar_char _) W301 1 rfl (Nat.le_of_ble_eq_true rfl)
    refine Go.by st301 ?_
    show Go _ _ _ _ T301 (mkF m 37 #[.val (.int p0), .val (.int p1), .val (.int p2), .val (.int p3), .val (.int (3 : Int32)), .val (.ref cs_), .unset, .unset, .unset] [])
    rw [own_nc] at V301
    refine Go.by (fun _ gk => XS.iloadN X301.here hx rfl (hb hby at_37) rfl gk) ?_
    show Go _ _ _ _ T301 (mkF m 38 #[.val (.int p0), .val (.int p1), .val (.int p2), .val (.int p3), .val (.int (3 : Int32)), .val (.ref cs_), .unset, .unset, .unset] [(.int p3)])
    refine Go.by (fun _ gk => XT.iconstV X301.here hx rfl (1 : Int32) (hb hby at_38) (by decide) gk) ?_
    show Go _ _ _ _ T301 (mkF m 39 #[.val (.int p0), .val (.int p1), .val (.int p2), .val (.int p3), .val (.int (3 : Int32)), .val (.ref cs_), .unset, .unset, .unset] [(.int (1 : Int32)), (.int p3)])
    refine Go.by (fun _ gk => XS.iand X301.here hx rfl (hb hby at_39) rfl gk) ?_
    show Go _ _ _ _ T301 (mkF m 40 #[.val (.int p0), .val (.int p1), .val (.int p2), .val (.int p3), .val (.int (3 : Int32)), .val (.ref cs_), .unset, .unset, .unset] [(.int (p3 &&& (1 : Int32)))])
    by_cases hb304 : (p3 &&& (1 : Int32)) = 0
    · refine Go.by (fun _ gk => XS.ifYes X301.here hx rfl (pc0 := 40) (pc' := 55) rfl (hb hby at_40) rfl (XT.i0_eq_t hb304) (by decide) (by decide) gk) ?_
      show Go _ _ _ _ T301 (mkF m 55 #[.val (.int p0), .val (.int p1), .val (.int p2), .val (.int p3), .val (.int (3 : Int32)), .val (.ref cs_), .unset, .unset, .unset] [])
      have F306 : s.heap.size ≤ h295.size := Nat.le_trans hk0 E295.1
      have F307 : s.heap.size ≤ h298.size := Nat.le_trans F306 (Nat.le_of_eq (Wr.size W298).symm)
      have F308 : s.heap.size ≤ h301.size := Nat.le_trans F307 (Nat.le_of_eq (Wr.size W301).symm)
      have F309 : Exa Z h298 cs_ "[C" := Ea295.wr W298
      have F310 : Exa Z h301 cs_ "[C" := F309.wr W301
      obtain ⟨st, T305, h305, kq305, X305, e305, E305, hS305, hk305, hZ305, hown305, CH305, -, st305⟩ := ldcOH X301 hx hZ hown (hw _ (List.mem_of_getElem? (i := 65) rfl)) hSA e301 hS0 F308 hEL C302.1 (g := (mkF m 55 #[.val (.int p0), .val (.int p1), .val (.int p2), .val (.int p3), .val (.int (3 : Int32)), .val (.ref cs_), .unset, .unset, .unset] [])) rfl (hb hby at_55) (n := 0) (by decide) (by decide) (by decide) (by decide)
      have C311 : CHr Z own_EL s.vm h0 T305.vm h305 := C302.trans CH305
      have Sf312 : Safe Z own_EL T305.vm h305 cs_ := CH305.safe F310.lt Sf303
      refine Go.by st305 ?_
      show Go _ _ _ _ T305 (mkF m 57 #[.val (.int p0), .val (.int p1), .val (.int p2), .val (.int p3), .val (.int (3 : Int32)), .val (.ref cs_), .unset, .unset, .unset] [(.ref st)])
      refine Go.by (fun _ gk => XS.astore X305.here hx rfl (hb hby at_57) rfl rfl (l' := #[.val (.int p0), .val (.int p1), .val (.int p2), .val (.int p3), .val (.int (3 : Int32)), .val (.ref cs_), .val (.ref st), .unset, .unset]) rfl gk) ?_
      show Go _ _ _ _ T305 (mkF m 59 #[.val (.int p0), .val (.int p1), .val (.int p2), .val (.int p3), .val (.int (3 : Int32)), .val (.ref cs_), .val (.ref st), .unset, .unset] [])
      have F314 : n0 ≤ h295.size := Nat.le_trans Z0 E295.1
      have F315 : n0 ≤ h298.size := Nat.le_trans F314 (Nat.le_of_eq (Wr.size W298).symm)
      have F316 : n0 ≤ h301.size := Nat.le_trans F315 (Nat.le_of_eq (Wr.size W301).symm)
      have F317 : n0 ≤ h305.size := Nat.le_trans F316 E305.1
      obtain ⟨t, g313⟩ : ∃ z, z = h305.size := ⟨_, rfl⟩
      have ge_t : n0 ≤ t := Nat.le_trans F317 (Nat.le_of_eq g313.symm)
      have F318 : Keep h0 h295 [] := (Keep.refl h0 []).ext E295
      have F319 : Keep h0 h298 [] := F318.wr W298 (Or.inr sz_cs_)
      have F320 : Keep h0 h301 [] := F319.wr W301 (Or.inr sz_cs_)
      have F321 : Keep h0 h305 [] := F320.ext E305
      have sz_t : h0.size ≤ t := Nat.le_trans F321.1 (Nat.le_of_eq g313.symm)
      have F322 : Exa Z h305 cs_ "[C" := F310.ext E305
      have ne_cs__t : cs_ ≠ t := Nat.ne_of_lt (Nat.lt_of_lt_of_le F322.lt (Nat.le_of_eq g313.symm))
      obtain ⟨T313, h313, X313, e313, E313, A313, D313, -, st313⟩ := newO X305 hx hZ305 hown305 (hw _ (List.mem_of_getElem? (i := 31) rfl)) (hw _ (List.mem_of_getElem? (i := 32) rfl)) (hw _ (List.mem_of_getElem? (i := 33) rfl)) e305 (g := (mkF m 59 #[.val (.int p0), .val (.int p1), .val (.int p2), .val (.int p3), .val (.int (3 : Int32)), .val (.ref cs_), .val (.ref st), .unset, .unset] [])) rfl (hb hby at_59) (by decide) (by decide)
      rw [← g313] at A313 D313 st313
      have C323 : CHr Z own_EL s.vm h0 T305.vm h313 := C311.trans (CHr.ext E313 C311.1)
      have Sf324 : Safe Z own_EL T305.vm h313 cs_ := Safe.ext E313 C311.1 Sf312
      have Sf325 : Safe Z own_EL T305.vm h313 t := Safe.ext E313 C311.1 (Safe.new (Nat.le_of_eq g313.symm))
      have F_kind_t : Fld Z h313 t "com/example/attache/attache/query/Token" "kind" "Lcom/example/attache/attache/query/Token$Kind;" .null := D313 (Or.inr (hw _ (List.mem_of_getElem? (i := 51) rfl))) (ty := (.object "com/example/attache/attache/query/Token$Kind")) (by decide)
      have F_text_t : Fld Z h313 t "com/example/attache/attache/query/Token" "text" "Ljava/lang/String;" .null := D313 (Or.inr (hw _ (List.mem_of_getElem? (i := 53) rfl))) (ty := (.object "java/lang/String")) (by decide)
      have F_position_t : Fld Z h313 t "com/example/attache/attache/query/Token" "position" "I" (.int (0 : Int32)) := D313 (Or.inr (hw _ (List.mem_of_getElem? (i := 55) rfl))) (ty := .int) (by decide)
      refine Go.by st313 ?_
      show Go _ _ _ _ T313 (mkF m 62 #[.val (.int p0), .val (.int p1), .val (.int p2), .val (.int p3), .val (.int (3 : Int32)), .val (.ref cs_), .val (.ref st), .unset, .unset] [(.ref t)])
      refine Go.by (fun _ gk => XS.dup X313.here hx rfl (hb hby at_62) rfl rfl gk) ?_
      show Go _ _ _ _ T313 (mkF m 63 #[.val (.int p0), .val (.int p1), .val (.int p2), .val (.int p3), .val (.int (3 : Int32)), .val (.ref cs_), .val (.ref st), .unset, .unset] [(.ref t), (.ref t)])
      refine Go.by (fun _ gk => XS.iload X313.here hx rfl (hb hby at_63) rfl gk) ?_
      show Go _ _ _ _ T313 (mkF m 65 #[.val (.int p0), .val (.int p1), .val (.int p2), .val (.int p3), .val (.int (3 : Int32)), .val (.ref cs_), .val (.ref st), .unset, .unset] [(.int (3 : Int32)), (.ref t), (.ref t)])
      have F326 : Old Z n0 h295 := O0.ext E295
      have F327 : Old Z n0 h298 := F326.wr W298 ge_cs_
      have F328 : Old Z n0 h301 := F327.wr W301 ge_cs_
      have F329 : Old Z n0 h305 := F328.ext E305
      have F330 : Old Z n0 h313 := F329.ext E313
      have F331 : n0 ≤ h313.size := Nat.le_trans F317 E313.1
      obtain ⟨_, _, ⟨T332, L332, k332, n332⟩, -, X332, ⟨Lc332, hQ332, l332, y332, z332⟩, st332⟩ := Jvm.LawKit.callS X313 hx (y := (⟨"com/example/attache/attache/query/TokenIsParameterPinLaw", "kindOf", "(I)Lcom/example/attache/attache/query/Token$Kind;"⟩ : MethodName)) hown305 (mvT hZ305 (hw _ (List.mem_of_getElem? (i := 34) rfl))) (mvT hZ305 (hw _ (List.mem_of_getElem? (i := 35) rfl))) (mvT hZ305 (hw _ (List.mem_of_getElem? (i := 36) rfl))) (mvT hZ305 (hw _ (List.mem_of_getElem? (i := 37) rfl))) (by decide) (backOf (W := 2) (rmKind l Z a0 hw [] (3 : Int32) c_NAMED_PARAMETER c_WORD c_STRING c_NUMBER c_NAMED_PARAMETER c_POSITIONAL_PARAMETER c_SYMBOL c_END h313 n0 F331 F330 (Or.inr (Or.inr (Or.inr (Or.inl ⟨rfl, rfl⟩)))) S_c_WORD E_c_WORD O_c_WORD S_c_STRING E_c_STRING O_c_STRING S_c_NUMBER E_c_NUMBER O_c_NUMBER S_c_NAMED_PARAMETER E_c_NAMED_PARAMETER O_c_NAMED_PARAMETER S_c_POSITIONAL_PARAMETER E_c_POSITIONAL_PARAMETER O_c_POSITIONAL_PARAMETER S_c_SYMBOL E_c_SYMBOL O_c_SYMBOL S_c_END E_c_END O_c_END) hZ305 (hw _ (List.mem_of_getElem? (i := 37) rfl)) (hw _ (List.mem_of_getElem? (i := 36) rfl)) (by decide) (by decide)) (g := (mkF m 65 #[.val (.int p0), .val (.int p1), .val (.int p2), .val (.int p3), .val (.int (3 : Int32)), .val (.ref cs_), .val (.ref st), .unset, .unset] [(.int (3 : Int32)), (.ref t), (.ref t)])) rfl (by rw [hml]; rfl) (argsL := [(.int (3 : Int32))]) (rest := [(.ref t), (.ref t)]) (lenOf pd_153 rfl) rfl (by show 2 * 0 + _ ≤ _; exact Nat.le_of_eq rfl) (hb hby at_65) (fun _ _ => ⟨rfl, e313, (by decide : 4 + 0 ≤ _), (by decide : 9 + 0 ≤ _)⟩)
      dsimp only [Pt.U, Pt.locs, Pt.cells, Pt.slots] at X332 l332 y332 z332 st332 hQ332
      subst l332 y332 z332
      obtain ⟨rfl, N332q, e332⟩ := hQ332
      have N332 := Fr.app N301 N332q
      refine Go.by st332 ?_
      show Go _ _ _ _ T332 (mkF m 68 #[.val (.int p0), .val (.int p1), .val (.int p2), .val (.int p3), .val (.int (3 : Int32)), .val (.ref cs_), .val (.ref st), .unset, .unset] [(.ref c_NAMED_PARAMETER), (.ref t), (.ref t)])
      refine Go.by (fun _ gk => XS.aload X332.here hx rfl (hb hby at_68) rfl rfl gk) ?_
      show Go _ _ _ _ T332 (mkF m 70 #[.val (.int p0), .val (.int p1), .val (.int p2), .val (.int p3), .val (.int (3 : Int32)), .val (.ref cs_), .val (.ref st), .unset, .unset] [(.ref st), (.ref c_NAMED_PARAMETER), (.ref t), (.ref t)])
      refine Go.by (fun _ gk => XS.iloadN X332.here hx rfl (hb hby at_70) rfl gk) ?_
      show Go _ _ _ _ T332 (mkF m 71 #[.val (.int p0), .val (.int p1), .val (.int p2), .val (.int p3), .val (.int (3 : Int32)), .val (.ref cs_), .val (.ref st), .unset, .unset] [(.int p2), (.ref st), (.ref c_NAMED_PARAMETER), (.ref t), (.ref t)])
      obtain ⟨_, _, ⟨T333, L333, k333, n333⟩, -, X333, ⟨Lc333, hQ333, l333, y333, z333⟩, st333⟩ := X332.specialBack hx (y := (⟨"com/example/attache/attache/query/Token", "<init>", "(Lcom/example/attache/attache/query/Token$Kind;Ljava/lang/String;I)V"⟩ : MethodName)) rfl hown305 (mvT hZ305 (hw _ (List.mem_of_getElem? (i := 41) rfl))) (mvT hZ305 (hw _ (List.mem_of_getElem? (i := 42) rfl))) (mvT hZ305 (hw _ (List.mem_of_getElem? (i := 43) rfl))) (by decide) (backOf (W := 1) (rmToken l Z a0 hw [] t c_NAMED_PARAMETER st p2 h313 n0 F331 A313 F_kind_t F_text_t F_position_t ge_t) hZ305 (hw _ (List.mem_of_getElem? (i := 43) rfl)) (hw _ (List.mem_of_getElem? (i := 33) rfl)) (by decide) (by decide)) (g := (mkF m 71 #[.val (.int p0), .val (.int p1), .val (.int p2), .val (.int p3), .val (.int (3 : Int32)), .val (.ref cs_), .val (.ref st), .unset, .unset] [(.int p2), (.ref st), (.ref c_NAMED_PARAMETER), (.ref t), (.ref t)])) rfl (by rw [hml]; rfl) (Steps.refl _) (a := t) (argsL := [(.ref c_NAMED_PARAMETER), (.ref st), (.int p2)]) (rest := [(.ref t)]) (lenOf pd_154 rfl) rfl (by show 2 * 0 + _ ≤ _; exact Nat.le_of_eq rfl) (hb hby at_71) (fun _ _ => ⟨rfl, e332, (by decide : 4 + 0 ≤ _), (by decide : 9 + 0 ≤ _)⟩)
      dsimp only [Pt.U, Pt.locs, Pt.cells, Pt.slots] at X333 l333 y333 z333 st333 hQ333
      subst l333 y333 z333
      obtain ⟨rfl, N333q, K333, Q333_0, Q333_1⟩ := hQ333
      have N333 := Fr.app N332 N333q
      have C334 : CHr Z own_EL s.vm h0 T305.vm T333.heap := C323.trans (CHr.keep K333 (sfS Sf325 sf0) C323.1)
      have Sf335 : Safe Z own_EL T305.vm T333.heap cs_ := Safe.keep K333 (sfS Sf325 sf0) C323.1 Sf324
      have Sf336 : Safe Z own_EL T305.vm T333.heap t := Safe.keep K333 (sfS Sf325 sf0) C323.1 Sf325
      refine Go.to st333 ?_
      show Go _ _ _ _ T333 (mkF m 74 #[.val (.int p0), .val (.int p1), .val (.int p2), .val (.int p3), .val (.int (3 : Int32)), .val (.ref cs_), .val (.ref st), .unset, .unset] [(.ref t)])
      refine Go.by (fun _ gk => XS.astore X333.here hx rfl (hb hby at_74) rfl rfl (l' := #[.val (.int p0), .val (.int p1), .val (.int p2), .val (.int p3), .val (.int (3 : Int32)), .val (.ref cs_), .val (.ref st), .val (.ref t), .unset]) rfl gk) ?_
      show Go _ _ _ _ T333 (mkF m 76 #[.val (.int p0), .val (.int p1), .val (.int p2), .val (.int p3), .val (.int (3 : Int32)), .val (.ref cs_), .val (.ref st), .val (.ref t), .unset] [])
      refine Go.by (fun _ gk => XS.iload X333.here hx rfl (hb hby at_76) rfl gk) ?_
      show Go _ _ _ _ T333 (mkF m 78 #[.val (.int p0), .val (.int p1), .val (.int p2), .val (.int p3), .val (.int (3 : Int32)), .val (.ref cs_), .val (.ref st), .val (.ref t), .unset] [(.int (3 : Int32))])
      refine Go.by (fun _ gk => XT.iconstV X333.here hx rfl (3 : Int32) (hb hby at_78) (by decide) gk) ?_
      show Go _ _ _ _ T333 (mkF m 79 #[.val (.int p0), .val (.int p1), .val (.int p2), .val (.int p3), .val (.int (3 : Int32)), .val (.ref cs_), .val (.ref st), .val (.ref t), .unset] [(.int (3 : Int32)), (.int (3 : Int32))])
      refine Go.by (fun _ gk => XS.icmpYes X333.here hx rfl (pc0 := 79) (pc' := 88) rfl (hb hby at_79) rfl (XT.ii_eq_t rfl) (by decide) (by decide) gk) ?_
      show Go _ _ _ _ T333 (mkF m 88 #[.val (.int p0), .val (.int p1), .val (.int p2), .val (.int p3), .val (.int (3 : Int32)), .val (.ref cs_), .val (.ref st), .val (.ref t), .unset] [])
      refine Go.by (fun _ gk => XT.iconstV X333.here hx rfl (1 : Int32) (hb hby at_88) (by decide) gk) ?_
      show Go _ _ _ _ T333 (mkF m 89 #[.val (.int p0), .val (.int p1), .val (.int p2), .val (.int p3), .val (.int (3 : Int32)), .val (.ref cs_), .val (.ref st), .val (.ref t), .unset] [(.int (1 : Int32))])
      refine Go.by (fun _ gk => XS.goto X333.here hx rfl (pc0 := 89) (pc' := 93) rfl (hb hby at_89) (by decide) (by decide) gk) ?_
      show Go _ _ _ _ T333 (mkF m 93 #[.val (.int p0), .val (.int p1), .val (.int p2), .val (.int p3), .val (.int (3 : Int32)), .val (.ref cs_), .val (.ref st), .val (.ref t), .unset] [(.int (1 : Int32))])
      refine Go.by (fun _ gk => XS.istore X333.here hx rfl (hb hby at_93) rfl (l' := #[.val (.int p0), .val (.int p1), .val (.int p2), .val (.int p3), .val (.int (3 : Int32)), .val (.ref cs_), .val (.ref st), .val (.ref t), .val (.int (1 : Int32))]) rfl gk) ?_
      show Go _ _ _ _ T333 (mkF m 95 #[.val (.int p0), .val (.int p1), .val (.int p2), .val (.int p3), .val (.int (3 : Int32)), .val (.ref cs_), .val (.ref st), .val (.ref t), .val (.int (1 : Int32))] [])
      refine Go.by (fun _ gk => XS.aload X333.here hx rfl (hb hby at_95) rfl rfl gk) ?_
      show Go _ _ _ _ T333 (mkF m 97 #[.val (.int p0), .val (.int p1), .val (.int p2), .val (.int p3), .val (.int (3 : Int32)), .val (.ref cs_), .val (.ref st), .val (.ref t), .val (.int (1 : Int32))] [(.ref t)])
      have F337 : Old Z n0 T333.heap := F330.keep K333 (allS ge_t all0)
      have F338 : n0 ≤ T333.heap.size := Nat.le_trans F331 K333.1
      obtain ⟨cq339, kq339, q339a, q339b, q339c⟩ := isOf hZ305 rfl Q333_0
      obtain ⟨_, _, ⟨T339, L339, k339, n339⟩, -, X339, ⟨Lc339, hQ339, l339, y339, z339⟩, st339⟩ := X333.virtualBack hx (y := (⟨"com/example/attache/attache/query/Token", "isParameter", "()Z"⟩ : MethodName)) (z := (⟨"com/example/attache/attache/query/Token", "isParameter", "()Z"⟩ : MethodName)) hown305 (mvT hZ305 (hw _ (List.mem_of_getElem? (i := 56) rfl))) (mvT hZ305 (hw _ (List.mem_of_getElem? (i := 57) rfl))) (notFace_of_selects (args := #[]) (mvT hZ305 (hw _ (List.mem_of_getElem? (i := 59) rfl)))) (mvT hZ305 (hw _ (List.mem_of_getElem? (i := 59) rfl))) (mvT hZ305 (hw _ (List.mem_of_getElem? (i := 58) rfl))) (by decide) (backOf (W := 0) (rmIsP l Z a0 hw [] t c_NAMED_PARAMETER (1 : Int32) c_WORD c_STRING c_NUMBER c_NAMED_PARAMETER c_POSITIONAL_PARAMETER c_SYMBOL c_END T333.heap n0 F338 F337 Q333_1 (Or.inr (Or.inr (Or.inr (Or.inl ⟨rfl, rfl⟩)))) S_c_WORD E_c_WORD O_c_WORD S_c_STRING E_c_STRING O_c_STRING S_c_NUMBER E_c_NUMBER O_c_NUMBER S_c_NAMED_PARAMETER E_c_NAMED_PARAMETER O_c_NAMED_PARAMETER S_c_POSITIONAL_PARAMETER E_c_POSITIONAL_PARAMETER O_c_POSITIONAL_PARAMETER S_c_SYMBOL E_c_SYMBOL O_c_SYMBOL S_c_END E_c_END O_c_END) hZ305 (hw _ (List.mem_of_getElem? (i := 60) rfl)) (hw _ (List.mem_of_getElem? (i := 33) rfl)) (by decide) (by decide)) q339a q339c (g := (mkF m 97 #[.val (.int p0), .val (.int p1), .val (.int p2), .val (.int p3), .val (.int (3 : Int32)), .val (.ref cs_), .val (.ref st), .val (.ref t), .val (.int (1 : Int32))] [(.ref t)])) rfl (by rw [hml]; rfl) (Steps.refl _) (argsL := []) (rest := []) (lenOf pd_155 rfl) rfl (by show 2 * 0 + _ ≤ _; exact Nat.le_of_eq rfl) (hb hby at_97) (fun _ _ => ⟨rfl, rfl, (by decide : 4 + 0 ≤ _), (by decide : 9 + 0 ≤ _)⟩)
      dsimp only [Pt.U, Pt.locs, Pt.cells, Pt.slots] at X339 l339 y339 z339 st339 hQ339
      subst l339 y339 z339
      obtain ⟨rfl, N339q, e339⟩ := hQ339
      have N339 := Fr.app N333 N339q
      refine Go.to st339 ?_
      show Go _ _ _ _ T339 (mkF m 100 #[.val (.int p0), .val (.int p1), .val (.int p2), .val (.int p3), .val (.int (3 : Int32)), .val (.ref cs_), .val (.ref st), .val (.ref t), .val (.int (1 : Int32))] [(.int (1 : Int32))])
      refine Go.by (fun _ gk => XS.iload X339.here hx rfl (hb hby at_100) rfl gk) ?_
      show Go _ _ _ _ T339 (mkF m 102 #[.val (.int p0), .val (.int p1), .val (.int p2), .val (.int p3), .val (.int (3 : Int32)), .val (.ref cs_), .val (.ref st), .val (.ref t), .val (.int (1 : Int32))] [(.int (1 : Int32)), (.int (1 : Int32))])
      refine Go.by (fun _ gk => XS.icmpNo X339.here hx rfl (hb hby at_102) rfl (XT.ii_ne_f rfl) gk) ?_
      show Go _ _ _ _ T339 (mkF m 105 #[.val (.int p0), .val (.int p1), .val (.int p2), .val (.int p3), .val (.int (3 : Int32)), .val (.ref cs_), .val (.ref st), .val (.ref t), .val (.int (1 : Int32))] [])
      refine Go.by (fun _ gk => XT.iconstV X339.here hx rfl (1 : Int32) (hb hby at_105) (by decide) gk) ?_
      show Go _ _ _ _ T339 (mkF m 106 #[.val (.int p0), .val (.int p1), .val (.int p2), .val (.int p3), .val (.int (3 : Int32)), .val (.ref cs_), .val (.ref st), .val (.ref t), .val (.int (1 : Int32))] [(.int (1 : Int32))])
      refine Go.by (fun _ gk => XS.goto X339.here hx rfl (pc0 := 106) (pc' := 110) rfl (hb hby at_106) (by decide) (by decide) gk) ?_
      show Go _ _ _ _ T339 (mkF m 110 #[.val (.int p0), .val (.int p1), .val (.int p2), .val (.int p3), .val (.int (3 : Int32)), .val (.ref cs_), .val (.ref st), .val (.ref t), .val (.int (1 : Int32))] [(.int (1 : Int32))])
      have F340 : kq305 ≤ h313.size := Nat.le_trans hk305 E313.1
      have F341 : kq305 ≤ T333.heap.size := Nat.le_trans F340 K333.1
      exact Go.retIW X339 hx Bd.notSynchronized hS305 (by rw [e339]; exact F341) hZ305 hEL (by rw [hh, e339]; exact C334) Bd.returns rfl (by simp) (hb hby at_110) (by rw [e339]; exact ⟨rfl, N339⟩) (by decide) (by decide)
    · refine Go.by (fun _ gk => XS.ifNo X301.here hx rfl (hb hby at_40) rfl (XT.i0_eq_f hb304) gk) ?_
      show Go _ _ _ _ T301 (mkF m 43 #[.val (.int p0), .val (.int p1), .val (.int p2), .val (.int p3), .val (.int (3 : Int32)), .val (.ref cs_), .unset, .unset, .unset] [])
      have F343 : n0 ≤ h295.size := Nat.le_trans Z0 E295.1
      have F344 : n0 ≤ h298.size := Nat.le_trans F343 (Nat.le_of_eq (Wr.size W298).symm)
      have F345 : n0 ≤ h301.size := Nat.le_trans F344 (Nat.le_of_eq (Wr.size W301).symm)
      obtain ⟨st, g342⟩ : ∃ z, z = h301.size := ⟨_, rfl⟩
      have ge_st : n0 ≤ st := Nat.le_trans F345 (Nat.le_of_eq g342.symm)
      have F346 : Keep h0 h295 [] := (Keep.refl h0 []).ext E295
      have F347 : Keep h0 h298 [] := F346.wr W298 (Or.inr sz_cs_)
      have F348 : Keep h0 h301 [] := F347.wr W301 (Or.inr sz_cs_)
      have sz_st : h0.size ≤ st := Nat.le_trans F348.1 (Nat.le_of_eq g342.symm)
      have F349 : Exa Z h298 cs_ "[C" := Ea295.wr W298
      have F350 : Exa Z h301 cs_ "[C" := F349.wr W301
      have ne_cs__st : cs_ ≠ st := Nat.ne_of_lt (Nat.lt_of_lt_of_le F350.lt (Nat.le_of_eq g342.symm))
      obtain ⟨T342, h342, X342, e342, E342, A342, D342, -, st342⟩ := newO X301 hx hZ hown (hw _ (List.mem_of_getElem? (i := 2) rfl)) (hw _ (List.mem_of_getElem? (i := 3) rfl)) (hw _ (List.mem_of_getElem? (i := 4) rfl)) e301 (g := (mkF m 43 #[.val (.int p0), .val (.int p1), .val (.int p2), .val (.int p3), .val (.int (3 : Int32)), .val (.ref cs_), .unset, .unset, .unset] [])) rfl (hb hby at_43) (by decide) (by decide)
      rw [← g342] at A342 D342 st342
      have C351 : CHr Z own_EL s.vm h0 s.vm h342 := C302.trans (CHr.ext E342 C302.1)
      have Sf352 : Safe Z own_EL s.vm h342 cs_ := Safe.ext E342 C302.1 Sf303
      have Sf353 : Safe Z own_EL s.vm h342 st := Safe.ext E342 C302.1 (Safe.new (Nat.le_of_eq g342.symm))
      have F_coder_st : Fld Z h342 st "java/lang/String" "coder" "B" (.int (0 : Int32)) := D342 (Or.inr (hw _ (List.mem_of_getElem? (i := 28) rfl))) (ty := .byte) (by decide)
      have F_value_st : Fld Z h342 st "java/lang/String" "value" "[B" .null := D342 (Or.inr (hw _ (List.mem_of_getElem? (i := 30) rfl))) (ty := (.array .byte)) (by decide)
      refine Go.by st342 ?_
      show Go _ _ _ _ T342 (mkF m 46 #[.val (.int p0), .val (.int p1), .val (.int p2), .val (.int p3), .val (.int (3 : Int32)), .val (.ref cs_), .unset, .unset, .unset] [(.ref st)])
      refine Go.by (fun _ gk => XS.dup X342.here hx rfl (hb hby at_46) rfl rfl gk) ?_
      show Go _ _ _ _ T342 (mkF m 47 #[.val (.int p0), .val (.int p1), .val (.int p2), .val (.int p3), .val (.int (3 : Int32)), .val (.ref cs_), .unset, .unset, .unset] [(.ref st), (.ref st)])
      refine Go.by (fun _ gk => XS.aload X342.here hx rfl (hb hby at_47) rfl rfl gk) ?_
      show Go _ _ _ _ T342 (mkF m 49 #[.val (.int p0), .val (.int p1), .val (.int p2), .val (.int p3), .val (.int (3 : Int32)), .val (.ref cs_), .unset, .unset, .unset] [(.ref cs_), (.ref st), (.ref st)])
      have F354 : Old Z n0 h295 := O0.ext E295
      have F355 : Old Z n0 h298 := F354.wr W298 ge_cs_
      have F356 : Old Z n0 h301 := F355.wr W301 ge_cs_
      have F357 : Old Z n0 h342 := F356.ext E342
      have F358 : Arv Z h342 cs_ k295 .char (2 : Int32) [(.int (p1 &&& (255 : Int32))), (.int ((XT.ushr p1 (8 : Int32)) &&& (255 : Int32)))] (.int (0 : Int32)) := V301.ext E342
      have F359 : n0 ≤ h342.size := Nat.le_trans F345 E342.1
      have F360 : Keep h0 h342 [] := F348.ext E342
      have F361 : Exa Z h342 cs_ "[C" := F350.ext E342
      obtain ⟨_, _, ⟨T362, L362, k362, n362⟩, -, X362, ⟨Lc362, hQ362, l362, y362, z362⟩, st362⟩ := X342.specialBack hx (y := (⟨"java/lang/String", "<init>", "([C)V"⟩ : MethodName)) rfl hown (mvT hZ (hw _ (List.mem_of_getElem? (i := 5) rfl))) (mvT hZ (hw _ (List.mem_of_getElem? (i := 6) rfl))) (mvT hZ (hw _ (List.mem_of_getElem? (i := 7) rfl))) (by decide) (backOf (W := 1) (rmS1_2 l Z a0 hw [] st cs_ k295 (p1 &&& (255 : Int32)) ((XT.ushr p1 (8 : Int32)) &&& (255 : Int32)) cs h342 n0 F359 F357 A342 F_value_st F_coder_st ge_st F358 (own_255 _) (own_255 _) S_cs n_cs) hZ (hw _ (List.mem_of_getElem? (i := 7) rfl)) (hw _ (List.mem_of_getElem? (i := 4) rfl)) (by decide) (by decide)) (g := (mkF m 49 #[.val (.int p0), .val (.int p1), .val (.int p2), .val (.int p3), .val (.int (3 : Int32)), .val (.ref cs_), .unset, .unset, .unset] [(.ref cs_), (.ref st), (.ref st)])) rfl (by rw [hml]; rfl) (Steps.refl _) (a := st) (argsL := [(.ref cs_)]) (rest := [(.ref st)]) (lenOf pd_156 rfl) rfl (by show 2 * 0 + _ ≤ _; exact Nat.le_of_eq rfl) (hb hby at_49) (fun _ _ => ⟨rfl, e342, (by decide : 2 + 1 ≤ _), (by decide : 6 + 2 ≤ _)⟩)
      dsimp only [Pt.U, Pt.locs, Pt.cells, Pt.slots] at X362 l362 y362 z362 st362 hQ362
      subst l362 y362 z362
      obtain ⟨b_362, kb_362, rfl, N362q, K362, Q362_0, Q362_1, Q362_2, Q362_3, Q362_4⟩ := hQ362
      have N362 := Fr.app N301 N362q
      have C363 : CHr Z own_EL s.vm h0 s.vm T362.heap := C351.trans (CHr.keep K362 (sfS Sf353 sf0) C351.1)
      have Sf364 : Safe Z own_EL s.vm T362.heap cs_ := Safe.keep K362 (sfS Sf353 sf0) C351.1 Sf352
      have Sf365 : Safe Z own_EL s.vm T362.heap st := Safe.keep K362 (sfS Sf353 sf0) C351.1 Sf353
      refine Go.to st362 ?_
      show Go _ _ _ _ T362 (mkF m 52 #[.val (.int p0), .val (.int p1), .val (.int p2), .val (.int p3), .val (.int (3 : Int32)), .val (.ref cs_), .unset, .unset, .unset] [(.ref st)])
      have ge_b_362 : n0 ≤ b_362 := Nat.le_trans F359 Q362_4
      have sz_b_362 : h0.size ≤ b_362 := Nat.le_trans F360.1 Q362_4
      have ne_cs__b_362 : cs_ ≠ b_362 := Nat.ne_of_lt (Nat.lt_of_lt_of_le F358.lt Q362_4)
      have ne_st_b_362 : st ≠ b_362 := Nat.ne_of_lt (Nat.lt_of_lt_of_le A342.lt Q362_4)
      refine Go.by (fun _ gk => XS.goto X362.here hx rfl (pc0 := 52) (pc' := 57) rfl (hb hby at_52) (by decide) (by decide) gk) ?_
      show Go _ _ _ _ T362 (mkF m 57 #[.val (.int p0), .val (.int p1), .val (.int p2), .val (.int p3), .val (.int (3 : Int32)), .val (.ref cs_), .unset, .unset, .unset] [(.ref st)])
      refine Go.by (fun _ gk => XS.astore X362.here hx rfl (hb hby at_57) rfl rfl (l' := #[.val (.int p0), .val (.int p1), .val (.int p2), .val (.int p3), .val (.int (3 : Int32)), .val (.ref cs_), .val (.ref st), .unset, .unset]) rfl gk) ?_
      show Go _ _ _ _ T362 (mkF m 59 #[.val (.int p0), .val (.int p1), .val (.int p2), .val (.int p3), .val (.int (3 : Int32)), .val (.ref cs_), .val (.ref st), .unset, .unset] [])
      have F367 : n0 ≤ T362.heap.size := Nat.le_trans F359 K362.1
      obtain ⟨t, g366⟩ : ∃ z, z = T362.heap.size := ⟨_, rfl⟩
      have ge_t : n0 ≤ t := Nat.le_trans F367 (Nat.le_of_eq g366.symm)
      have F368 : Keep h0 T362.heap [] := F360.trans K362 (allS (Or.inr sz_st) all0)
      have sz_t : h0.size ≤ t := Nat.le_trans F368.1 (Nat.le_of_eq g366.symm)
      have ne_b_362_t : b_362 ≠ t := Nat.ne_of_lt (Nat.lt_of_lt_of_le Q362_3.lt (Nat.le_of_eq g366.symm))
      have F369 : Exa Z T362.heap cs_ "[C" := F361.keep K362
      have ne_cs__t : cs_ ≠ t := Nat.ne_of_lt (Nat.lt_of_lt_of_le F369.lt (Nat.le_of_eq g366.symm))
      have ne_st_t : st ≠ t := Nat.ne_of_lt (Nat.lt_of_lt_of_le Q362_0.lt (Nat.le_of_eq g366.symm))
      obtain ⟨T366, h366, X366, e366, E366, A366, D366, -, st366⟩ := newO X362 hx hZ hown (hw _ (List.mem_of_getElem? (i := 31) rfl)) (hw _ (List.mem_of_getElem? (i := 32) rfl)) (hw _ (List.mem_of_getElem? (i := 33) rfl)) rfl (g := (mkF m 59 #[.val (.int p0), .val (.int p1), .val (.int p2), .val (.int p3), .val (.int (3 : Int32)), .val (.ref cs_), .val (.ref st), .unset, .unset] [])) rfl (hb hby at_59) (by decide) (by decide)
      rw [← g366] at A366 D366 st366
      have C370 : CHr Z own_EL s.vm h0 s.vm h366 := C363.trans (CHr.ext E366 C363.1)
      have Sf371 : Safe Z own_EL s.vm h366 cs_ := Safe.ext E366 C363.1 Sf364
      have Sf372 : Safe Z own_EL s.vm h366 st := Safe.ext E366 C363.1 Sf365
      have Sf373 : Safe Z own_EL s.vm h366 t := Safe.ext E366 C363.1 (Safe.new (Nat.le_of_eq g366.symm))
      have F_kind_t : Fld Z h366 t "com/example/attache/attache/query/Token" "kind" "Lcom/example/attache/attache/query/Token$Kind;" .null := D366 (Or.inr (hw _ (List.mem_of_getElem? (i := 51) rfl))) (ty := (.object "com/example/attache/attache/query/Token$Kind")) (by decide)
      have F_text_t : Fld Z h366 t "com/example/attache/attache/query/Token" "text" "Ljava/lang/String;" .null := D366 (Or.inr (hw _ (List.mem_of_getElem? (i := 53) rfl))) (ty := (.object "java/lang/String")) (by decide)
      have F_position_t : Fld Z h366 t "com/example/attache/attache/query/Token" "position" "I" (.int (0 : Int32)) := D366 (Or.inr (hw _ (List.mem_of_getElem? (i := 55) rfl))) (ty := .int) (by decide)
      refine Go.by st366 ?_
      show Go _ _ _ _ T366 (mkF m 62 #[.val (.int p0), .val (.int p1), .val (.int p2), .val (.int p3), .val (.int (3 : Int32)), .val (.ref cs_), .val (.ref st), .unset, .unset] [(.ref t)])
      refine Go.by (fun _ gk => XS.dup X366.here hx rfl (hb hby at_62) rfl rfl gk) ?_
      show Go _ _ _ _ T366 (mkF m 63 #[.val (.int p0), .val (.int p1), .val (.int p2), .val (.int p3), .val (.int (3 : Int32)), .val (.ref cs_), .val (.ref st), .unset, .unset] [(.ref t), (.ref t)])
      refine Go.by (fun _ gk => XS.iload X366.here hx rfl (hb hby at_63) rfl gk) ?_
      show Go _ _ _ _ T366 (mkF m 65 #[.val (.int p0), .val (.int p1), .val (.int p2), .val (.int p3), .val (.int (3 : Int32)), .val (.ref cs_), .val (.ref st), .unset, .unset] [(.int (3 : Int32)), (.ref t), (.ref t)])
      have F374 : Old Z n0 T362.heap := F357.keep K362 (allS ge_st all0)
      have F375 : Old Z n0 h366 := F374.ext E366
      have F376 : n0 ≤ h366.size := Nat.le_trans F367 E366.1
      obtain ⟨_, _, ⟨T377, L377, k377, n377⟩, -, X377, ⟨Lc377, hQ377, l377, y377, z377⟩, st377⟩ := Jvm.LawKit.callS X366 hx (y := (⟨"com/example/attache/attache/query/TokenIsParameterPinLaw", "kindOf", "(I)Lcom/example/attache/attache/query/Token$Kind;"⟩ : MethodName)) hown (mvT hZ (hw _ (List.mem_of_getElem? (i := 34) rfl))) (mvT hZ (hw _ (List.mem_of_getElem? (i := 35) rfl))) (mvT hZ (hw _ (List.mem_of_getElem? (i := 36) rfl))) (mvT hZ (hw _ (List.mem_of_getElem? (i := 37) rfl))) (by decide) (backOf (W := 2) (rmKind l Z a0 hw [] (3 : Int32) c_NAMED_PARAMETER c_WORD c_STRING c_NUMBER c_NAMED_PARAMETER c_POSITIONAL_PARAMETER c_SYMBOL c_END h366 n0 F376 F375 (Or.inr (Or.inr (Or.inr (Or.inl ⟨rfl, rfl⟩)))) S_c_WORD E_c_WORD O_c_WORD S_c_STRING E_c_STRING O_c_STRING S_c_NUMBER E_c_NUMBER O_c_NUMBER S_c_NAMED_PARAMETER E_c_NAMED_PARAMETER O_c_NAMED_PARAMETER S_c_POSITIONAL_PARAMETER E_c_POSITIONAL_PARAMETER O_c_POSITIONAL_PARAMETER S_c_SYMBOL E_c_SYMBOL O_c_SYMBOL S_c_END E_c_END O_c_END) hZ (hw _ (List.mem_of_getElem? (i := 37) rfl)) (hw _ (List.mem_of_getElem? (i := 36) rfl)) (by decide) (by decide)) (g := (mkF m 65 #[.val (.int p0), .val (.int p1), .val (.int p2), .val (.int p3), .val (.int (3 : Int32)), .val (.ref cs_), .val (.ref st), .unset, .unset] [(.int (3 : Int32)), (.ref t), (.ref t)])) rfl (by rw [hml]; rfl) (argsL := [(.int (3 : Int32))]) (rest := [(.ref t), (.ref t)]) (lenOf pd_153 rfl) rfl (by show 2 * 0 + _ ≤ _; exact Nat.le_of_eq rfl) (hb hby at_65) (fun _ _ => ⟨rfl, e366, (by decide : 4 + 0 ≤ _), (by decide : 11 + 0 ≤ _)⟩)
      dsimp only [Pt.U, Pt.locs, Pt.cells, Pt.slots] at X377 l377 y377 z377 st377 hQ377
      subst l377 y377 z377
      obtain ⟨rfl, N377q, e377⟩ := hQ377
      have N377 := Fr.app N362 N377q
      refine Go.by st377 ?_
      show Go _ _ _ _ T377 (mkF m 68 #[.val (.int p0), .val (.int p1), .val (.int p2), .val (.int p3), .val (.int (3 : Int32)), .val (.ref cs_), .val (.ref st), .unset, .unset] [(.ref c_NAMED_PARAMETER), (.ref t), (.ref t)])
      refine Go.by (fun _ gk => XS.aload X377.here hx rfl (hb hby at_68) rfl rfl gk) ?_
      show Go _ _ _ _ T377 (mkF m 70 #[.val (.int p0), .val (.int p1), .val (.int p2), .val (.int p3), .val (.int (3 : Int32)), .val (.ref cs_), .val (.ref st), .unset, .unset] [(.ref st), (.ref c_NAMED_PARAMETER), (.ref t), (.ref t)])
      refine Go.by (fun _ gk => XS.iloadN X377.here hx rfl (hb hby at_70) rfl gk) ?_
      show Go _ _ _ _ T377 (mkF m 71 #[.val (.int p0), .val (.int p1), .val (.int p2), .val (.int p3), .val (.int (3 : Int32)), .val (.ref cs_), .val (.ref st), .unset, .unset] [(.int p2), (.ref st), (.ref c_NAMED_PARAMETER), (.ref t), (.ref t)])
      obtain ⟨_, _, ⟨T378, L378, k378, n378⟩, -, X378, ⟨Lc378, hQ378, l378, y378, z378⟩, st378⟩ := X377.specialBack hx (y := (⟨"com/example/attache/attache/query/Token", "<init>", "(Lcom/example/attache/attache/query/Token$Kind;Ljava/lang/String;I)V"⟩ : MethodName)) rfl hown (mvT hZ (hw _ (List.mem_of_getElem? (i := 41) rfl))) (mvT hZ (hw _ (List.mem_of_getElem? (i := 42) rfl))) (mvT hZ (hw _ (List.mem_of_getElem? (i := 43) rfl))) (by decide) (backOf (W := 1) (rmToken l Z a0 hw [] t c_NAMED_PARAMETER st p2 h366 n0 F376 A366 F_kind_t F_text_t F_position_t ge_t) hZ (hw _ (List.mem_of_getElem? (i := 43) rfl)) (hw _ (List.mem_of_getElem? (i := 33) rfl)) (by decide) (by decide)) (g := (mkF m 71 #[.val (.int p0), .val (.int p1), .val (.int p2), .val (.int p3), .val (.int (3 : Int32)), .val (.ref cs_), .val (.ref st), .unset, .unset] [(.int p2), (.ref st), (.ref c_NAMED_PARAMETER), (.ref t), (.ref t)])) rfl (by rw [hml]; rfl) (Steps.refl _) (a := t) (argsL := [(.ref c_NAMED_PARAMETER), (.ref st), (.int p2)]) (rest := [(.ref t)]) (lenOf pd_154 rfl) rfl (by show 2 * 0 + _ ≤ _; exact Nat.le_of_eq rfl) (hb hby at_71) (fun _ _ => ⟨rfl, e377, (by decide : 4 + 0 ≤ _), (by decide : 11 + 0 ≤ _)⟩)
      dsimp only [Pt.U, Pt.locs, Pt.cells, Pt.slots] at X378 l378 y378 z378 st378 hQ378
      subst l378 y378 z378
      obtain ⟨rfl, N378q, K378, Q378_0, Q378_1⟩ := hQ378
      have N378 := Fr.app N377 N378q
      have C379 : CHr Z own_EL s.vm h0 s.vm T378.heap := C370.trans (CHr.keep K378 (sfS Sf373 sf0) C370.1)
      have Sf380 : Safe Z own_EL s.vm T378.heap cs_ := Safe.keep K378 (sfS Sf373 sf0) C370.1 Sf371
      have Sf381 : Safe Z own_EL s.vm T378.heap st := Safe.keep K378 (sfS Sf373 sf0) C370.1 Sf372
      have Sf382 : Safe Z own_EL s.vm T378.heap t := Safe.keep K378 (sfS Sf373 sf0) C370.1 Sf373
      refine Go.to st378 ?_
      show Go _ _ _ _ T378 (mkF m 74 #[.val (.int p0), .val (.int p1), .val (.int p2), .val (.int p3), .val (.int (3 : Int32)), .val (.ref cs_), .val (.ref st), .unset, .unset] [(.ref t)])
      refine Go.by (fun _ gk => XS.astore X378.here hx rfl (hb hby at_74) rfl rfl (l' := #[.val (.int p0), .val (.int p1), .val (.int p2), .val (.int p3), .val (.int (3 : Int32)), .val (.ref cs_), .val (.ref st), .val (.ref t), .unset]) rfl gk) ?_
      show Go _ _ _ _ T378 (mkF m 76 #[.val (.int p0), .val (.int p1), .val (.int p2), .val (.int p3), .val (.int (3 : Int32)), .val (.ref cs_), .val (.ref st), .val (.ref t), .unset] [])
      refine Go.by (fun _ gk => XS.iload X378.here hx rfl (hb hby at_76) rfl gk) ?_
      show Go _ _ _ _ T378 (mkF m 78 #[.val (.int p0), .val (.int p1), .val (.int p2), .val (.int p3), .val (.int (3 : Int32)), .val (.ref cs_), .val (.ref st), .val (.ref t), .unset] [(.int (3 : Int32))])
      refine Go.by (fun _ gk => XT.iconstV X378.here hx rfl (3 : Int32) (hb hby at_78) (by decide) gk) ?_
      show Go _ _ _ _ T378 (mkF m 79 #[.val (.int p0), .val (.int p1), .val (.int p2), .val (.int p3), .val (.int (3 : Int32)), .val (.ref cs_), .val (.ref st), .val (.ref t), .unset] [(.int (3 : Int32)), (.int (3 : Int32))])
      refine Go.by (fun _ gk => XS.icmpYes X378.here hx rfl (pc0 := 79) (pc' := 88) rfl (hb hby at_79) rfl (XT.ii_eq_t rfl) (by decide) (by decide) gk) ?_
      show Go _ _ _ _ T378 (mkF m 88 #[.val (.int p0), .val (.int p1), .val (.int p2), .val (.int p3), .val (.int (3 : Int32)), .val (.ref cs_), .val (.ref st), .val (.ref t), .unset] [])
      refine Go.by (fun _ gk => XT.iconstV X378.here hx rfl (1 : Int32) (hb hby at_88) (by decide) gk) ?_
      show Go _ _ _ _ T378 (mkF m 89 #[.val (.int p0), .val (.int p1), .val (.int p2), .val (.int p3), .val (.int (3 : Int32)), .val (.ref cs_), .val (.ref st), .val (.ref t), .unset] [(.int (1 : Int32))])
      refine Go.by (fun _ gk => XS.goto X378.here hx rfl (pc0 := 89) (pc' := 93) rfl (hb hby at_89) (by decide) (by decide) gk) ?_
      show Go _ _ _ _ T378 (mkF m 93 #[.val (.int p0), .val (.int p1), .val (.int p2), .val (.int p3), .val (.int (3 : Int32)), .val (.ref cs_), .val (.ref st), .val (.ref t), .unset] [(.int (1 : Int32))])
      refine Go.by (fun _ gk => XS.istore X378.here hx rfl (hb hby at_93) rfl (l' := #[.val (.int p0), .val (.int p1), .val (.int p2), .val (.int p3), .val (.int (3 : Int32)), .val (.ref cs_), .val (.ref st), .val (.ref t), .val (.int (1 : Int32))]) rfl gk) ?_
      show Go _ _ _ _ T378 (mkF m 95 #[.val (.int p0), .val (.int p1), .val (.int p2), .val (.int p3), .val (.int (3 : Int32)), .val (.ref cs_), .val (.ref st), .val (.ref t), .val (.int (1 : Int32))] [])
      refine Go.by (fun _ gk => XS.aload X378.here hx rfl (hb hby at_95) rfl rfl gk) ?_
      show Go _ _ _ _ T378 (mkF m 97 #[.val (.int p0), .val (.int p1), .val (.int p2), .val (.int p3), .val (.int (3 : Int32)), .val (.ref cs_), .val (.ref st), .val (.ref t), .val (.int (1 : Int32))] [(.ref t)])
      have F383 : Old Z n0 T378.heap := F375.keep K378 (allS ge_t all0)
      have F384 : n0 ≤ T378.heap.size := Nat.le_trans F376 K378.1
      obtain ⟨cq385, kq385, q385a, q385b, q385c⟩ := isOf hZ rfl Q378_0
      obtain ⟨_, _, ⟨T385, L385, k385, n385⟩, -, X385, ⟨Lc385, hQ385, l385, y385, z385⟩, st385⟩ := X378.virtualBack hx (y := (⟨"com/example/attache/attache/query/Token", "isParameter", "()Z"⟩ : MethodName)) (z := (⟨"com/example/attache/attache/query/Token", "isParameter", "()Z"⟩ : MethodName)) hown (mvT hZ (hw _ (List.mem_of_getElem? (i := 56) rfl))) (mvT hZ (hw _ (List.mem_of_getElem? (i := 57) rfl))) (notFace_of_selects (args := #[]) (mvT hZ (hw _ (List.mem_of_getElem? (i := 59) rfl)))) (mvT hZ (hw _ (List.mem_of_getElem? (i := 59) rfl))) (mvT hZ (hw _ (List.mem_of_getElem? (i := 58) rfl))) (by decide) (backOf (W := 0) (rmIsP l Z a0 hw [] t c_NAMED_PARAMETER (1 : Int32) c_WORD c_STRING c_NUMBER c_NAMED_PARAMETER c_POSITIONAL_PARAMETER c_SYMBOL c_END T378.heap n0 F384 F383 Q378_1 (Or.inr (Or.inr (Or.inr (Or.inl ⟨rfl, rfl⟩)))) S_c_WORD E_c_WORD O_c_WORD S_c_STRING E_c_STRING O_c_STRING S_c_NUMBER E_c_NUMBER O_c_NUMBER S_c_NAMED_PARAMETER E_c_NAMED_PARAMETER O_c_NAMED_PARAMETER S_c_POSITIONAL_PARAMETER E_c_POSITIONAL_PARAMETER O_c_POSITIONAL_PARAMETER S_c_SYMBOL E_c_SYMBOL O_c_SYMBOL S_c_END E_c_END O_c_END) hZ (hw _ (List.mem_of_getElem? (i := 60) rfl)) (hw _ (List.mem_of_getElem? (i := 33) rfl)) (by decide) (by decide)) q385a q385c (g := (mkF m 97 #[.val (.int p0), .val (.int p1), .val (.int p2), .val (.int p3), .val (.int (3 : Int32)), .val (.ref cs_), .val (.ref st), .val (.ref t), .val (.int (1 : Int32))] [(.ref t)])) rfl (by rw [hml]; rfl) (Steps.refl _) (argsL := []) (rest := []) (lenOf pd_155 rfl) rfl (by show 2 * 0 + _ ≤ _; exact Nat.le_of_eq rfl) (hb hby at_97) (fun _ _ => ⟨rfl, rfl, (by decide : 4 + 0 ≤ _), (by decide : 11 + 0 ≤ _)⟩)
      dsimp only [Pt.U, Pt.locs, Pt.cells, Pt.slots] at X385 l385 y385 z385 st385 hQ385
      subst l385 y385 z385
      obtain ⟨rfl, N385q, e385⟩ := hQ385
      have N385 := Fr.app N378 N385q
      refine Go.to st385 ?_
      show Go _ _ _ _ T385 (mkF m 100 #[.val (.int p0), .val (.int p1), .val (.int p2), .val (.int p3), .val (.int (3 : Int32)), .val (.ref cs_), .val (.ref st), .val (.ref t), .val (.int (1 : Int32))] [(.int (1 : Int32))])
      refine Go.by (fun _ gk => XS.iload X385.here hx rfl (hb hby at_100) rfl gk) ?_
      show Go _ _ _ _ T385 (mkF m 102 #[.val (.int p0), .val (.int p1), .val (.int p2), .val (.int p3), .val (.int (3 : Int32)), .val (.ref cs_), .val (.ref st), .val (.ref t), .val (.int (1 : Int32))] [(.int (1 : Int32)), (.int (1 : Int32))])
      refine Go.by (fun _ gk => XS.icmpNo X385.here hx rfl (hb hby at_102) rfl (XT.ii_ne_f rfl) gk) ?_
      show Go _ _ _ _ T385 (mkF m 105 #[.val (.int p0), .val (.int p1), .val (.int p2), .val (.int p3), .val (.int (3 : Int32)), .val (.ref cs_), .val (.ref st), .val (.ref t), .val (.int (1 : Int32))] [])
      refine Go.by (fun _ gk => XT.iconstV X385.here hx rfl (1 : Int32) (hb hby at_105) (by decide) gk) ?_
      show Go _ _ _ _ T385 (mkF m 106 #[.val (.int p0), .val (.int p1), .val (.int p2), .val (.int p3), .val (.int (3 : Int32)), .val (.ref cs_), .val (.ref st), .val (.ref t), .val (.int (1 : Int32))] [(.int (1 : Int32))])
      refine Go.by (fun _ gk => XS.goto X385.here hx rfl (pc0 := 106) (pc' := 110) rfl (hb hby at_106) (by decide) (by decide) gk) ?_
      show Go _ _ _ _ T385 (mkF m 110 #[.val (.int p0), .val (.int p1), .val (.int p2), .val (.int p3), .val (.int (3 : Int32)), .val (.ref cs_), .val (.ref st), .val (.ref t), .val (.int (1 : Int32))] [(.int (1 : Int32))])
      have F386 : s.heap.size ≤ h295.size := Nat.le_trans hk0 E295.1
      have F387 : s.heap.size ≤ h298.size := Nat.le_trans F386 (Nat.le_of_eq (Wr.size W298).symm)
      have F388 : s.heap.size ≤ h301.size := Nat.le_trans F387 (Nat.le_of_eq (Wr.size W301).symm)
      have F389 : s.heap.size ≤ h342.size := Nat.le_trans F388 E342.1
      have F390 : s.heap.size ≤ T362.heap.size := Nat.le_trans F389 K362.1
      have F391 : s.heap.size ≤ h366.size := Nat.le_trans F390 E366.1
      have F392 : s.heap.size ≤ T378.heap.size := Nat.le_trans F391 K378.1
      exact Go.retIW X385 hx Bd.notSynchronized hS0 (by rw [e385]; exact F392) hZ hEL (by rw [hh, e385]; exact C379) Bd.returns rfl (by simp) (hb hby at_110) (by rw [e385]; exact ⟨rfl, N385⟩) (by decide) (by decide)
  · show Go _ _ _ _ s₁ (mkF m 9 #[.val (.int p0), .val (.int p1), .val (.int p2), .val (.int p3), .val (.int (4 : Int32)), .unset, .unset, .unset, .unset] [])
    refine Go.by (fun _ gk => XT.iconstV X0.here hx rfl (2 : Int32) (hb hby at_9) (by decide) gk) ?_
    show Go _ _ _ _ s₁ (mkF m 10 #[.val (.int p0), .val (.int p1), .val (.int p2), .val (.int p3), .val (.int (4 : Int32)), .unset, .unset, .unset, .unset] [(.int (2 : Int32))])
    obtain ⟨cs_, g393⟩ : ∃ z, z = h0.size := ⟨_, rfl⟩
    have ge_cs_ : n0 ≤ cs_ := Nat.le_trans Z0 (Nat.le_of_eq g393.symm)
    have sz_cs_ : h0.size ≤ cs_ := Nat.le_trans (Keep.refl h0 []).1 (Nat.le_of_eq g393.symm)
    obtain ⟨T393, h393, k393, X393, e393, E393, A393, Ea393, st393⟩ := newPE X0 hx hZ (hw _ (List.mem_of_getElem? (i := 1) rfl)) e0 (g := (mkF m 10 #[.val (.int p0), .val (.int p1), .val (.int p2), .val (.int p3), .val (.int (4 : Int32)), .unset, .unset, .unset, .unset] [(.int (2 : Int32))])) rfl (hb hby at_10) rfl (by decide) (cap := 2) (by decide) (by decide) (by decide) (by decide) (ad := "[C") rfl
    rw [← g393] at A393 Ea393 st393
    have C394 : CHr Z own_EL s.vm h0 s.vm h393 := C0.trans (CHr.ext E393 C0.1)
    have Sf395 : Safe Z own_EL s.vm h393 cs_ := Safe.ext E393 C0.1 (Safe.new (Nat.le_of_eq g393.symm))
    have V_cs_ : Arv Z h393 cs_ k393 .char (2 : Int32) [(.int (0 : Int32)), (.int (0 : Int32))] (.int (0 : Int32)) := (Arv.new A393 (by decide)).pad (pad_rep [] (.int (0 : Int32)) 2)
    refine Go.by st393 ?_
    show Go _ _ _ _ T393 (mkF m 12 #[.val (.int p0), .val (.int p1), .val (.int p2), .val (.int p3), .val (.int (4 : Int32)), .unset, .unset, .unset, .unset] [(.ref cs_)])
    refine Go.by (fun _ gk => XS.astore X393.here hx rfl (hb hby at_12) rfl rfl (l' := #[.val (.int p0), .val (.int p1), .val (.int p2), .val (.int p3), .val (.int (4 : Int32)), .val (.ref cs_), .unset, .unset, .unset]) rfl gk) ?_
    show Go _ _ _ _ T393 (mkF m 14 #[.val (.int p0), .val (.int p1), .val (.int p2), .val (.int p3), .val (.int (4 : Int32)), .val (.ref cs_), .unset, .unset, .unset] [])
    refine Go.by (fun _ gk => XS.aload X393.here hx rfl (hb hby at_14) rfl rfl gk) ?_
    show Go _ _ _ _ T393 (mkF m 16 #[.val (.int p0), .val (.int p1), .val (.int p2), .val (.int p3), .val (.int (4 : Int32)), .val (.ref cs_), .unset, .unset, .unset] [(.ref cs_)])
    refine Go.by (fun _ gk => XT.iconstV X393.here hx rfl (0 : Int32) (hb hby at_16) (by decide) gk) ?_
    show Go _ _ _ _ T393 (mkF m 17 #[.val (.int p0), .val (.int p1), .val (.int p2), .val (.int p3), .val (.int (4 : Int32)), .val (.ref cs_), .unset, .unset, .unset] [(.int (0 : Int32)), (.ref cs_)])
    refine Go.by (fun _ gk => XS.iloadN X393.here hx rfl (hb hby at_17) rfl gk) ?_
    show Go _ _ _ _ T393 (mkF m 18 #[.val (.int p0), .val (.int p1), .val (.int p2), .val (.int p3), .val (.int (4 : Int32)), .val (.ref cs_), .unset, .unset, .unset] [(.int p1), (.int (0 : Int32)), (.ref cs_)])
    refine Go.by (fun _ gk => XT.sipushV X393.here hx rfl (255 : Int32) (hb hby at_18) (by decide) gk) ?_
    show Go _ _ _ _ T393 (mkF m 21 #[.val (.int p0), .val (.int p1), .val (.int p2), .val (.int p3), .val (.int (4 : Int32)), .val (.ref cs_), .unset, .unset, .unset] [(.int (255 : Int32)), (.int p1), (.int (0 : Int32)), (.ref cs_)])
    refine Go.by (fun _ gk => XS.iand X393.here hx rfl (hb hby at_21) rfl gk) ?_
    show Go _ _ _ _ T393 (mkF m 22 #[.val (.int p0), .val (.int p1), .val (.int p2), .val (.int p3), .val (.int (4 : Int32)), .val (.ref cs_), .unset, .unset, .unset] [(.int (p1 &&& (255 : Int32))), (.int (0 : Int32)), (.ref cs_)])
    refine Go.by (fun _ gk => XT.i2c X393.here hx rfl (hb hby at_22) rfl gk) ?_
    show Go _ _ _ _ T393 (mkF m 23 #[.val (.int p0), .val (.int p1), .val (.int p2), .val (.int p3), .val (.int (4 : Int32)), .val (.ref cs_), .unset, .unset, .unset] [(.int ((p1 &&& (255 : Int32)).toUInt32.toUInt16.toUInt32.toInt32)), (.int (0 : Int32)), (.ref cs_)])
    rw [i2c_mask]
    show Go _ _ _ _ T393 (mkF m 23 #[.val (.int p0), .val (.int p1), .val (.int p2), .val (.int p3), .val (.int (4 : Int32)), .val (.ref cs_), .unset, .unset, .unset] [(.int (p1 &&& (255 : Int32))), (.int (0 : Int32)), (.ref cs_)])
    obtain ⟨cl396, Ar396, q396, S396, M396, H396, G396⟩ := id V_cs_
    have hin396 : ¬ ((0 : Int32) < 0 ∨ cl396.slots.size ≤ (0 : Int32).toNatClampNeg) := inb_of S396 ⟨by decide, by decide⟩
    obtain ⟨T396, h396, X396, e396, W396, st396⟩ := stC X393 hx hZ e393 Ar396 (j := (0 : Int32)) hin396 (g := (mkF m 23 #[.val (.int p0), .val (.int p1), .val (.int p2), .val (.int p3), .val (.int (4 : Int32)), .val (.ref cs_), .unset, .unset, .unset] [(.int (p1 &&& (255 : Int32))), (.int (0 : Int32)), (.ref cs_)])) rfl rfl (hb hby at_23)
    have C397 : CHr Z own_EL s.vm h0 s.vm h396 := C394.trans (CHr.wr W396 Sf395 C394.1)
    have Sf398 : Safe Z own_EL s.vm h396 cs_ := Safe.wr W396 Sf395 C394.1 Sf395
    have N396 := Fr.snoc X396 N0 ge_cs_
    have V396 : Arv Z h396 cs_ k393 .char (2 : Int32) [(.int (nar .char (p1 &&& (255 : Int32)))), (.int (0 : Int32))] (.int (0 : Int32)) := Arv.set Ar396 q396 S396 M396 H396 G396 (fits_nar_char _) W396 0 rfl (Nat.le_of_ble_eq_true rfl)
    refine Go.by st396 ?_
    show Go _ _ _ _ T396 (mkF m 24 #[.val (.int p0), .val (.int p1), .val (.int p2), .val (.int p3), .val (.int (4 : Int32)), .val (.ref cs_), .unset, .unset, .unset] [])
    rw [own_nc] at V396
    refine Go.by (fun _ gk => XS.aload X396.here hx rfl (hb hby at_24) rfl rfl gk) ?_
    show Go _ _ _ _ T396 (mkF m 26 #[.val (.int p0), .val (.int p1), .val (.int p2), .val (.int p3), .val (.int (4 : Int32)), .val (.ref cs_), .unset, .unset, .unset] [(.ref cs_)])
    refine Go.by (fun _ gk => XT.iconstV X396.here hx rfl (1 : Int32) (hb hby at_26) (by decide) gk) ?_
    show Go _ _ _ _ T396 (mkF m 27 #[.val (.int p0), .val (.int p1), .val (.int p2), .val (.int p3), .val (.int (4 : Int32)), .val (.ref cs_), .unset, .unset, .unset] [(.int (1 : Int32)), (.ref cs_)])
    refine Go.by (fun _ gk => XS.iloadN X396.here hx rfl (hb hby at_27) rfl gk) ?_
    show Go _ _ _ _ T396 (mkF m 28 #[.val (.int p0), .val (.int p1), .val (.int p2), .val (.int p3), .val (.int (4 : Int32)), .val (.ref cs_), .unset, .unset, .unset] [(.int p1), (.int (1 : Int32)), (.ref cs_)])
    refine Go.by (fun _ gk => XT.bipushV X396.here hx rfl (8 : Int32) (hb hby at_28) (by decide) gk) ?_
    show Go _ _ _ _ T396 (mkF m 30 #[.val (.int p0), .val (.int p1), .val (.int p2), .val (.int p3), .val (.int (4 : Int32)), .val (.ref cs_), .unset, .unset, .unset] [(.int (8 : Int32)), (.int p1), (.int (1 : Int32)), (.ref cs_)])
    refine Go.by (fun _ gk => XT.iushr X396.here hx rfl (hb hby at_30) rfl gk) ?_
    show Go _ _ _ _ T396 (mkF m 31 #[.val (.int p0), .val (.int p1), .val (.int p2), .val (.int p3), .val (.int (4 : Int32)), .val (.ref cs_), .unset, .unset, .unset] [(.int (XT.ushr p1 (8 : Int32))), (.int (1 : Int32)), (.ref cs_)])
    refine Go.by (fun _ gk => XT.sipushV X396.here hx rfl (255 : Int32) (hb hby at_31) (by decide) gk) ?_
    show Go _ _ _ _ T396 (mkF m 34 #[.val (.int p0), .val (.int p1), .val (.int p2), .val (.int p3), .val (.int (4 : Int32)), .val (.ref cs_), .unset, .unset, .unset] [(.int (255 : Int32)), (.int (XT.ushr p1 (8 : Int32))), (.int (1 : Int32)), (.ref cs_)])
    refine Go.by (fun _ gk => XS.iand X396.here hx rfl (hb hby at_34) rfl gk) ?_
    show Go _ _ _ _ T396 (mkF m 35 #[.val (.int p0), .val (.int p1), .val (.int p2), .val (.int p3), .val (.int (4 : Int32)), .val (.ref cs_), .unset, .unset, .unset] [(.int ((XT.ushr p1 (8 : Int32)) &&& (255 : Int32))), (.int (1 : Int32)), (.ref cs_)])
    refine Go.by (fun _ gk => XT.i2c X396.here hx rfl (hb hby at_35) rfl gk) ?_
    show Go _ _ _ _ T396 (mkF m 36 #[.val (.int p0), .val (.int p1), .val (.int p2), .val (.int p3), .val (.int (4 : Int32)), .val (.ref cs_), .unset, .unset, .unset] [(.int (((XT.ushr p1 (8 : Int32)) &&& (255 : Int32)).toUInt32.toUInt16.toUInt32.toInt32)), (.int (1 : Int32)), (.ref cs_)])
    rw [i2c_mask]
    show Go _ _ _ _ T396 (mkF m 36 #[.val (.int p0), .val (.int p1), .val (.int p2), .val (.int p3), .val (.int (4 : Int32)), .val (.ref cs_), .unset, .unset, .unset] [(.int ((XT.ushr p1 (8 : Int32)) &&& (255 : Int32))), (.int (1 : Int32)), (.ref cs_)])
    obtain ⟨cl399, Ar399, q399, S399, M399, H399, G399⟩ := id V396
    have hin399 : ¬ ((1 : Int32) < 0 ∨ cl399.slots.size ≤ (1 : Int32).toNatClampNeg) := inb_of S399 ⟨by decide, by decide⟩
    obtain ⟨T399, h399, X399, e399, W399, st399⟩ := stC X396 hx hZ e396 Ar399 (j := (1 : Int32)) hin399 (g := (mkF m 36 #[.val (.int p0), .val (.int p1), .val (.int p2), .val (.int p3), .val (.int (4 : Int32)), .val (.ref cs_), .unset, .unset, .unset] [(.int ((XT.ushr p1 (8 : Int32)) &&& (255 : Int32))), (.int (1 : Int32)), (.ref cs_)])) rfl rfl (hb hby at_36)
    have C400 : CHr Z own_EL s.vm h0 s.vm h399 := C397.trans (CHr.wr W399 Sf398 C397.1)
    have Sf401 : Safe Z own_EL s.vm h399 cs_ := Safe.wr W399 Sf398 C397.1 Sf398
    have N399 := Fr.snoc X399 N396 ge_cs_
    have V399 : Arv Z h399 cs_ k393 .char (2 : Int32) [(.int (p1 &&& (255 : Int32))), (.int (nar .char ((XT.ushr p1 (8 : Int32)) &&& (255 : Int32))))] (.int (0 : Int32)) := Arv.set Ar399 q399 S399 M399 H399 G399 (fits_nar_char _) W399 1 rfl (Nat.le_of_ble_eq_true rfl)
    refine Go.by st399 ?_
    show Go _ _ _ _ T399 (mkF m 37 #[.val (.int p0), .val (.int p1), .val (.int p2), .val (.int p3), .val (.int (4 : Int32)), .val (.ref cs_), .unset, .unset, .unset] [])
    rw [own_nc] at V399
    refine Go.by (fun _ gk => XS.iloadN X399.here hx rfl (hb hby at_37) rfl gk) ?_
    show Go _ _ _ _ T399 (mkF m 38 #[.val (.int p0), .val (.int p1), .val (.int p2), .val (.int p3), .val (.int (4 : Int32)), .val (.ref cs_), .unset, .unset, .unset] [(.int p3)])
    refine Go.by (fun _ gk => XT.iconstV X399.here hx rfl (1 : Int32) (hb hby at_38) (by decide) gk) ?_
    show Go _ _ _ _ T399 (mkF m 39 #[.val (.int p0), .val (.int p1), .val (.int p2), .val (.int p3), .val (.int (4 : Int32)), .val (.ref cs_), .unset, .unset, .unset] [(.int (1 : Int32)), (.int p3)])
    refine Go.by (fun _ gk => XS.iand X399.here hx rfl (hb hby at_39) rfl gk) ?_
    show Go _ _ _ _ T399 (mkF m 40 #[.val (.int p0), .val (.int p1), .val (.int p2), .val (.int p3), .val (.int (4 : Int32)), .val (.ref cs_), .unset, .unset, .unset] [(.int (p3 &&& (1 : Int32)))])
    by_cases hb402 : (p3 &&& (1 : Int32)) = 0
    · refine Go.by (fun _ gk => XS.ifYes X399.here hx rfl (pc0 := 40) (pc' := 55) rfl (hb hby at_40) rfl (XT.i0_eq_t hb402) (by decide) (by decide) gk) ?_
      show Go _ _ _ _ T399 (mkF m 55 #[.val (.int p0), .val (.int p1), .val (.int p2), .val (.int p3), .val (.int (4 : Int32)), .val (.ref cs_), .unset, .unset, .unset] [])
      have F404 : s.heap.size ≤ h393.size := Nat.le_trans hk0 E393.1
      have F405 : s.heap.size ≤ h396.size := Nat.le_trans F404 (Nat.le_of_eq (Wr.size W396).symm)
      have F406 : s.heap.size ≤ h399.size := Nat.le_trans F405 (Nat.le_of_eq (Wr.size W399).symm)
      have F407 : Exa Z h396 cs_ "[C" := Ea393.wr W396
      have F408 : Exa Z h399 cs_ "[C" := F407.wr W399
      obtain ⟨st, T403, h403, kq403, X403, e403, E403, hS403, hk403, hZ403, hown403, CH403, -, st403⟩ := ldcOH X399 hx hZ hown (hw _ (List.mem_of_getElem? (i := 65) rfl)) hSA e399 hS0 F406 hEL C400.1 (g := (mkF m 55 #[.val (.int p0), .val (.int p1), .val (.int p2), .val (.int p3), .val (.int (4 : Int32)), .val (.ref cs_), .unset, .unset, .unset] [])) rfl (hb hby at_55) (n := 0) (by decide) (by decide) (by decide) (by decide)
      have C409 : CHr Z own_EL s.vm h0 T403.vm h403 := C400.trans CH403
      have Sf410 : Safe Z own_EL T403.vm h403 cs_ := CH403.safe F408.lt Sf401
      refine Go.by st403 ?_
      show Go _ _ _ _ T403 (mkF m 57 #[.val (.int p0), .val (.int p1), .val (.int p2), .val (.int p3), .val (.int (4 : Int32)), .val (.ref cs_), .unset, .unset, .unset] [(.ref st)])
      refine Go.by (fun _ gk => XS.astore X403.here hx rfl (hb hby at_57) rfl rfl (l' := #[.val (.int p0), .val (.int p1), .val (.int p2), .val (.int p3), .val (.int (4 : Int32)), .val (.ref cs_), .val (.ref st), .unset, .unset]) rfl gk) ?_
      show Go _ _ _ _ T403 (mkF m 59 #[.val (.int p0), .val (.int p1), .val (.int p2), .val (.int p3), .val (.int (4 : Int32)), .val (.ref cs_), .val (.ref st), .unset, .unset] [])
      have F412 : n0 ≤ h393.size := Nat.le_trans Z0 E393.1
      have F413 : n0 ≤ h396.size := Nat.le_trans F412 (Nat.le_of_eq (Wr.size W396).symm)
      have F414 : n0 ≤ h399.size := Nat.le_trans F413 (Nat.le_of_eq (Wr.size W399).symm)
      have F415 : n0 ≤ h403.size := Nat.le_trans F414 E403.1
      obtain ⟨t, g411⟩ : ∃ z, z = h403.size := ⟨_, rfl⟩
      have ge_t : n0 ≤ t := Nat.le_trans F415 (Nat.le_of_eq g411.symm)
      have F416 : Keep h0 h393 [] := (Keep.refl h0 []).ext E393
      have F417 : Keep h0 h396 [] := F416.wr W396 (Or.inr sz_cs_)
      have F418 : Keep h0 h399 [] := F417.wr W399 (Or.inr sz_cs_)
      have F419 : Keep h0 h403 [] := F418.ext E403
      have sz_t : h0.size ≤ t := Nat.le_trans F419.1 (Nat.le_of_eq g411.symm)
      have F420 : Exa Z h403 cs_ "[C" := F408.ext E403
      have ne_cs__t : cs_ ≠ t := Nat.ne_of_lt (Nat.lt_of_lt_of_le F420.lt (Nat.le_of_eq g411.symm))
      obtain ⟨T411, h411, X411, e411, E411, A411, D411, -, st411⟩ := newO X403 hx hZ403 hown403 (hw _ (List.mem_of_getElem? (i := 31) rfl)) (hw _ (List.mem_of_getElem? (i := 32) rfl)) (hw _ (List.mem_of_getElem? (i := 33) rfl)) e403 (g := (mkF m 59 #[.val (.int p0), .val (.int p1), .val (.int p2), .val (.int p3), .val (.int (4 : Int32)), .val (.ref cs_), .val (.ref st), .unset, .unset] [])) rfl (hb hby at_59) (by decide) (by decide)
      rw [← g411] at A411 D411 st411
      have C421 : CHr Z own_EL s.vm h0 T403.vm h411 := C409.trans (CHr.ext E411 C409.1)
      have Sf422 : Safe Z own_EL T403.vm h411 cs_ := Safe.ext E411 C409.1 Sf410
      have Sf423 : Safe Z own_EL T403.vm h411 t := Safe.ext E411 C409.1 (Safe.new (Nat.le_of_eq g411.symm))
      have F_kind_t : Fld Z h411 t "com/example/attache/attache/query/Token" "kind" "Lcom/example/attache/attache/query/Token$Kind;" .null := D411 (Or.inr (hw _ (List.mem_of_getElem? (i := 51) rfl))) (ty := (.object "com/example/attache/attache/query/Token$Kind")) (by decide)
      have F_text_t : Fld Z h411 t "com/example/attache/attache/query/Token" "text" "Ljava/lang/String;" .null := D411 (Or.inr (hw _ (List.mem_of_getElem? (i := 53) rfl))) (ty := (.object "java/lang/String")) (by decide)
      have F_position_t : Fld Z h411 t "com/example/attache/attache/query/Token" "position" "I" (.int (0 : Int32)) := D411 (Or.inr (hw _ (List.mem_of_getElem? (i := 55) rfl))) (ty := .int) (by decide)
      refine Go.by st411 ?_
      show Go _ _ _ _ T411 (mkF m 62 #[.val (.int p0), .val (.int p1), .val (.int p2), .val (.int p3), .val (.int (4 : Int32)), .val (.ref cs_), .val (.ref st), .unset, .unset] [(.ref t)])
      refine Go.by (fun _ gk => XS.dup X411.here hx rfl (hb hby at_62) rfl rfl gk) ?_
      show Go _ _ _ _ T411 (mkF m 63 #[.val (.int p0), .val (.int p1), .val (.int p2), .val (.int p3), .val (.int (4 : Int32)), .val (.ref cs_), .val (.ref st), .unset, .unset] [(.ref t), (.ref t)])
      refine Go.by (fun _ gk => XS.iload X411.here hx rfl (hb hby at_63) rfl gk) ?_
      show Go _ _ _ _ T411 (mkF m 65 #[.val (.int p0), .val (.int p1), .val (.int p2), .val (.int p3), .val (.int (4 : Int32)), .val (.ref cs_), .val (.ref st), .unset, .unset] [(.int (4 : Int32)), (.ref t), (.ref t)])
      have F424 : Old Z n0 h393 := O0.ext E393
      have F425 : Old Z n0 h396 := F424.wr W396 ge_cs_
      have F426 : Old Z n0 h399 := F425.wr W399 ge_cs_
      have F427 : Old Z n0 h403 := F426.ext E403
      have F428 : Old Z n0 h411 := F427.ext E411
      have F429 : n0 ≤ h411.size := Nat.le_trans F415 E411.1
      obtain ⟨_, _, ⟨T430, L430, k430, n430⟩, -, X430, ⟨Lc430, hQ430, l430, y430, z430⟩, st430⟩ := Jvm.LawKit.callS X411 hx (y := (⟨"com/example/attache/attache/query/TokenIsParameterPinLaw", "kindOf", "(I)Lcom/example/attache/attache/query/Token$Kind;"⟩ : MethodName)) hown403 (mvT hZ403 (hw _ (List.mem_of_getElem? (i := 34) rfl))) (mvT hZ403 (hw _ (List.mem_of_getElem? (i := 35) rfl))) (mvT hZ403 (hw _ (List.mem_of_getElem? (i := 36) rfl))) (mvT hZ403 (hw _ (List.mem_of_getElem? (i := 37) rfl))) (by decide) (backOf (W := 2) (rmKind l Z a0 hw [] (4 : Int32) c_POSITIONAL_PARAMETER c_WORD c_STRING c_NUMBER c_NAMED_PARAMETER c_POSITIONAL_PARAMETER c_SYMBOL c_END h411 n0 F429 F428 (Or.inr (Or.inr (Or.inr (Or.inr (Or.inl ⟨rfl, rfl⟩))))) S_c_WORD E_c_WORD O_c_WORD S_c_STRING E_c_STRING O_c_STRING S_c_NUMBER E_c_NUMBER O_c_NUMBER S_c_NAMED_PARAMETER E_c_NAMED_PARAMETER O_c_NAMED_PARAMETER S_c_POSITIONAL_PARAMETER E_c_POSITIONAL_PARAMETER O_c_POSITIONAL_PARAMETER S_c_SYMBOL E_c_SYMBOL O_c_SYMBOL S_c_END E_c_END O_c_END) hZ403 (hw _ (List.mem_of_getElem? (i := 37) rfl)) (hw _ (List.mem_of_getElem? (i := 36) rfl)) (by decide) (by decide)) (g := (mkF m 65 #[.val (.int p0), .val (.int p1), .val (.int p2), .val (.int p3), .val (.int (4 : Int32)), .val (.ref cs_), .val (.ref st), .unset, .unset] [(.int (4 : Int32)), (.ref t), (.ref t)])) rfl (by rw [hml]; rfl) (argsL := [(.int (4 : Int32))]) (rest := [(.ref t), (.ref t)]) (lenOf pd_153 rfl) rfl (by show 2 * 0 + _ ≤ _; exact Nat.le_of_eq rfl) (hb hby at_65) (fun _ _ => ⟨rfl, e411, (by decide : 4 + 0 ≤ _), (by decide : 9 + 0 ≤ _)⟩)
      dsimp only [Pt.U, Pt.locs, Pt.cells, Pt.slots] at X430 l430 y430 z430 st430 hQ430
      subst l430 y430 z430
      obtain ⟨rfl, N430q, e430⟩ := hQ430
      have N430 := Fr.app N399 N430q
      refine Go.by st430 ?_
      show Go _ _ _ _ T430 (mkF m 68 #[.val (.int p0), .val (.int p1), .val (.int p2), .val (.int p3), .val (.int (4 : Int32)), .val (.ref cs_), .val (.ref st), .unset, .unset] [(.ref c_POSITIONAL_PARAMETER), (.ref t), (.ref t)])
      refine Go.by (fun _ gk => XS.aload X430.here hx rfl (hb hby at_68) rfl rfl gk) ?_
      show Go _ _ _ _ T430 (mkF m 70 #[.val (.int p0), .val (.int p1), .val (.int p2), .val (.int p3), .val (.int (4 : Int32)), .val (.ref cs_), .val (.ref st), .unset, .unset] [(.ref st), (.ref c_POSITIONAL_PARAMETER), (.ref t), (.ref t)])
      refine Go.by (fun _ gk => XS.iloadN X430.here hx rfl (hb hby at_70) rfl gk) ?_
      show Go _ _ _ _ T430 (mkF m 71 #[.val (.int p0), .val (.int p1), .val (.int p2), .val (.int p3), .val (.int (4 : Int32)), .val (.ref cs_), .val (.ref st), .unset, .unset] [(.int p2), (.ref st), (.ref c_POSITIONAL_PARAMETER), (.ref t), (.ref t)])
      obtain ⟨_, _, ⟨T431, L431, k431, n431⟩, -, X431, ⟨Lc431, hQ431, l431, y431, z431⟩, st431⟩ := X430.specialBack hx (y := (⟨"com/example/attache/attache/query/Token", "<init>", "(Lcom/example/attache/attache/query/Token$Kind;Ljava/lang/String;I)V"⟩ : MethodName)) rfl hown403 (mvT hZ403 (hw _ (List.mem_of_getElem? (i := 41) rfl))) (mvT hZ403 (hw _ (List.mem_of_getElem? (i := 42) rfl))) (mvT hZ403 (hw _ (List.mem_of_getElem? (i := 43) rfl))) (by decide) (backOf (W := 1) (rmToken l Z a0 hw [] t c_POSITIONAL_PARAMETER st p2 h411 n0 F429 A411 F_kind_t F_text_t F_position_t ge_t) hZ403 (hw _ (List.mem_of_getElem? (i := 43) rfl)) (hw _ (List.mem_of_getElem? (i := 33) rfl)) (by decide) (by decide)) (g := (mkF m 71 #[.val (.int p0), .val (.int p1), .val (.int p2), .val (.int p3), .val (.int (4 : Int32)), .val (.ref cs_), .val (.ref st), .unset, .unset] [(.int p2), (.ref st), (.ref c_POSITIONAL_PARAMETER), (.ref t), (.ref t)])) rfl (by rw [hml]; rfl) (Steps.refl _) (a := t) (argsL := [(.ref c_POSITIONAL_PARAMETER), (.ref st), (.int p2)]) (rest := [(.ref t)]) (lenOf pd_154 rfl) rfl (by show 2 * 0 + _ ≤ _; exact Nat.le_of_eq rfl) (hb hby at_71) (fun _ _ => ⟨rfl, e430, (by decide : 4 + 0 ≤ _), (by decide : 9 + 0 ≤ _)⟩)
      dsimp only [Pt.U, Pt.locs, Pt.cells, Pt.slots] at X431 l431 y431 z431 st431 hQ431
      subst l431 y431 z431
      obtain ⟨rfl, N431q, K431, Q431_0, Q431_1⟩ := hQ431
      have N431 := Fr.app N430 N431q
      have C432 : CHr Z own_EL s.vm h0 T403.vm T431.heap := C421.trans (CHr.keep K431 (sfS Sf423 sf0) C421.1)
      have Sf433 : Safe Z own_EL T403.vm T431.heap cs_ := Safe.keep K431 (sfS Sf423 sf0) C421.1 Sf422
      have Sf434 : Safe Z own_EL T403.vm T431.heap t := Safe.keep K431 (sfS Sf423 sf0) C421.1 Sf423
      refine Go.to st431 ?_
      show Go _ _ _ _ T431 (mkF m 74 #[.val (.int p0), .val (.int p1), .val (.int p2), .val (.int p3), .val (.int (4 : Int32)), .val (.ref cs_), .val (.ref st), .unset, .unset] [(.ref t)])
      refine Go.by (fun _ gk => XS.astore X431.here hx rfl (hb hby at_74) rfl rfl (l' := #[.val (.int p0), .val (.int p1), .val (.int p2), .val (.int p3), .val (.int (4 : Int32)), .val (.ref cs_), .val (.ref st), .val (.ref t), .unset]) rfl gk) ?_
      show Go _ _ _ _ T431 (mkF m 76 #[.val (.int p0), .val (.int p1), .val (.int p2), .val (.int p3), .val (.int (4 : Int32)), .val (.ref cs_), .val (.ref st), .val (.ref t), .unset] [])
      refine Go.by (fun _ gk => XS.iload X431.here hx rfl (hb hby at_76) rfl gk) ?_
      show Go _ _ _ _ T431 (mkF m 78 #[.val (.int p0), .val (.int p1), .val (.int p2), .val (.int p3), .val (.int (4 : Int32)), .val (.ref cs_), .val (.ref st), .val (.ref t), .unset] [(.int (4 : Int32))])
      refine Go.by (fun _ gk => XT.iconstV X431.here hx rfl (3 : Int32) (hb hby at_78) (by decide) gk) ?_
      show Go _ _ _ _ T431 (mkF m 79 #[.val (.int p0), .val (.int p1), .val (.int p2), .val (.int p3), .val (.int (4 : Int32)), .val (.ref cs_), .val (.ref st), .val (.ref t), .unset] [(.int (3 : Int32)), (.int (4 : Int32))])
      refine Go.by (fun _ gk => XS.icmpNo X431.here hx rfl (hb hby at_79) rfl (XT.ii_eq_f (by decide)) gk) ?_
      show Go _ _ _ _ T431 (mkF m 82 #[.val (.int p0), .val (.int p1), .val (.int p2), .val (.int p3), .val (.int (4 : Int32)), .val (.ref cs_), .val (.ref st), .val (.ref t), .unset] [])
      refine Go.by (fun _ gk => XS.iload X431.here hx rfl (hb hby at_82) rfl gk) ?_
      show Go _ _ _ _ T431 (mkF m 84 #[.val (.int p0), .val (.int p1), .val (.int p2), .val (.int p3), .val (.int (4 : Int32)), .val (.ref cs_), .val (.ref st), .val (.ref t), .unset] [(.int (4 : Int32))])
      refine Go.by (fun _ gk => XT.iconstV X431.here hx rfl (4 : Int32) (hb hby at_84) (by decide) gk) ?_
      show Go _ _ _ _ T431 (mkF m 85 #[.val (.int p0), .val (.int p1), .val (.int p2), .val (.int p3), .val (.int (4 : Int32)), .val (.ref cs_), .val (.ref st), .val (.ref t), .unset] [(.int (4 : Int32)), (.int (4 : Int32))])
      refine Go.by (fun _ gk => XS.icmpNo X431.here hx rfl (hb hby at_85) rfl (XT.ii_ne_f rfl) gk) ?_
      show Go _ _ _ _ T431 (mkF m 88 #[.val (.int p0), .val (.int p1), .val (.int p2), .val (.int p3), .val (.int (4 : Int32)), .val (.ref cs_), .val (.ref st), .val (.ref t), .unset] [])
      refine Go.by (fun _ gk => XT.iconstV X431.here hx rfl (1 : Int32) (hb hby at_88) (by decide) gk) ?_
      show Go _ _ _ _ T431 (mkF m 89 #[.val (.int p0), .val (.int p1), .val (.int p2), .val (.int p3), .val (.int (4 : Int32)), .val (.ref cs_), .val (.ref st), .val (.ref t), .unset] [(.int (1 : Int32))])
      refine Go.by (fun _ gk => XS.goto X431.here hx rfl (pc0 := 89) (pc' := 93) rfl (hb hby at_89) (by decide) (by decide) gk) ?_
      show Go _ _ _ _ T431 (mkF m 93 #[.val (.int p0), .val (.int p1), .val (.int p2), .val (.int p3), .val (.int (4 : Int32)), .val (.ref cs_), .val (.ref st), .val (.ref t), .unset] [(.int (1 : Int32))])
      refine Go.by (fun _ gk => XS.istore X431.here hx rfl (hb hby at_93) rfl (l' := #[.val (.int p0), .val (.int p1), .val (.int p2), .val (.int p3), .val (.int (4 : Int32)), .val (.ref cs_), .val (.ref st), .val (.ref t), .val (.int (1 : Int32))]) rfl gk) ?_
      show Go _ _ _ _ T431 (mkF m 95 #[.val (.int p0), .val (.int p1), .val (.int p2), .val (.int p3), .val (.int (4 : Int32)), .val (.ref cs_), .val (.ref st), .val (.ref t), .val (.int (1 : Int32))] [])
      refine Go.by (fun _ gk => XS.aload X431.here hx rfl (hb hby at_95) rfl rfl gk) ?_
      show Go _ _ _ _ T431 (mkF m 97 #[.val (.int p0), .val (.int p1), .val (.int p2), .val (.int p3), .val (.int (4 : Int32)), .val (.ref cs_), .val (.ref st), .val (.ref t), .val (.int (1 : Int32))] [(.ref t)])
      have F435 : Old Z n0 T431.heap := F428.keep K431 (allS ge_t all0)
      have F436 : n0 ≤ T431.heap.size := Nat.le_trans F429 K431.1
      obtain ⟨cq437, kq437, q437a, q437b, q437c⟩ := isOf hZ403 rfl Q431_0
      obtain ⟨_, _, ⟨T437, L437, k437, n437⟩, -, X437, ⟨Lc437, hQ437, l437, y437, z437⟩, st437⟩ := X431.virtualBack hx (y := (⟨"com/example/attache/attache/query/Token", "isParameter", "()Z"⟩ : MethodName)) (z := (⟨"com/example/attache/attache/query/Token", "isParameter", "()Z"⟩ : MethodName)) hown403 (mvT hZ403 (hw _ (List.mem_of_getElem? (i := 56) rfl))) (mvT hZ403 (hw _ (List.mem_of_getElem? (i := 57) rfl))) (notFace_of_selects (args := #[]) (mvT hZ403 (hw _ (List.mem_of_getElem? (i := 59) rfl)))) (mvT hZ403 (hw _ (List.mem_of_getElem? (i := 59) rfl))) (mvT hZ403 (hw _ (List.mem_of_getElem? (i := 58) rfl))) (by decide) (backOf (W := 0) (rmIsP l Z a0 hw [] t c_POSITIONAL_PARAMETER (1 : Int32) c_WORD c_STRING c_NUMBER c_NAMED_PARAMETER c_POSITIONAL_PARAMETER c_SYMBOL c_END T431.heap n0 F436 F435 Q431_1 (Or.inr (Or.inr (Or.inr (Or.inr (Or.inl ⟨rfl, rfl⟩))))) S_c_WORD E_c_WORD O_c_WORD S_c_STRING E_c_STRING O_c_STRING S_c_NUMBER E_c_NUMBER O_c_NUMBER S_c_NAMED_PARAMETER E_c_NAMED_PARAMETER O_c_NAMED_PARAMETER S_c_POSITIONAL_PARAMETER E_c_POSITIONAL_PARAMETER O_c_POSITIONAL_PARAMETER S_c_SYMBOL E_c_SYMBOL O_c_SYMBOL S_c_END E_c_END O_c_END) hZ403 (hw _ (List.mem_of_getElem? (i := 60) rfl)) (hw _ (List.mem_of_getElem? (i := 33) rfl)) (by decide) (by decide)) q437a q437c (g := (mkF m 97 #[.val (.int p0), .val (.int p1), .val (.int p2), .val (.int p3), .val (.int (4 : Int32)), .val (.ref cs_), .val (.ref st), .val (.ref t), .val (.int (1 : Int32))] [(.ref t)])) rfl (by rw [hml]; rfl) (Steps.refl _) (argsL := []) (rest := []) (lenOf pd_155 rfl) rfl (by show 2 * 0 + _ ≤ _; exact Nat.le_of_eq rfl) (hb hby at_97) (fun _ _ => ⟨rfl, rfl, (by decide : 4 + 0 ≤ _), (by decide : 9 + 0 ≤ _)⟩)
      dsimp only [Pt.U, Pt.locs, Pt.cells, Pt.slots] at X437 l437 y437 z437 st437 hQ437
      subst l437 y437 z437
      obtain ⟨rfl, N437q, e437⟩ := hQ437
      have N437 := Fr.app N431 N437q
      refine Go.to st437 ?_
      show Go _ _ _ _ T437 (mkF m 100 #[.val (.int p0), .val (.int p1), .val (.int p2), .val (.int p3), .val (.int (4 : Int32)), .val (.ref cs_), .val (.ref st), .val (.ref t), .val (.int (1 : Int32))] [(.int (1 : Int32))])
      refine Go.by (fun _ gk => XS.iload X437.here hx rfl (hb hby at_100) rfl gk) ?_
      show Go _ _ _ _ T437 (mkF m 102 #[.val (.int p0), .val (.int p1), .val (.int p2), .val (.int p3), .val (.int (4 : Int32)), .val (.ref cs_), .val (.ref st), .val (.ref t), .val (.int (1 : Int32))] [(.int (1 : Int32)), (.int (1 : Int32))])
      refine Go.by (fun _ gk => XS.icmpNo X437.here hx rfl (hb hby at_102) rfl (XT.ii_ne_f rfl) gk) ?_
      show Go _ _ _ _ T437 (mkF m 105 #[.val (.int p0), .val (.int p1), .val (.int p2), .val (.int p3), .val (.int (4 : Int32)), .val (.ref cs_), .val (.ref st), .val (.ref t), .val (.int (1 : Int32))] [])
      refine Go.by (fun _ gk => XT.iconstV X437.here hx rfl (1 : Int32) (hb hby at_105) (by decide) gk) ?_
      show Go _ _ _ _ T437 (mkF m 106 #[.val (.int p0), .val (.int p1), .val (.int p2), .val (.int p3), .val (.int (4 : Int32)), .val (.ref cs_), .val (.ref st), .val (.ref t), .val (.int (1 : Int32))] [(.int (1 : Int32))])
      refine Go.by (fun _ gk => XS.goto X437.here hx rfl (pc0 := 106) (pc' := 110) rfl (hb hby at_106) (by decide) (by decide) gk) ?_
      show Go _ _ _ _ T437 (mkF m 110 #[.val (.int p0), .val (.int p1), .val (.int p2), .val (.int p3), .val (.int (4 : Int32)), .val (.ref cs_), .val (.ref st), .val (.ref t), .val (.int (1 : Int32))] [(.int (1 : Int32))])
      have F438 : kq403 ≤ h411.size := Nat.le_trans hk403 E411.1
      have F439 : kq403 ≤ T431.heap.size := Nat.le_trans F438 K431.1
      exact Go.retIW X437 hx Bd.notSynchronized hS403 (by rw [e437]; exact F439) hZ403 hEL (by rw [hh, e437]; exact C432) Bd.returns rfl (by simp) (hb hby at_110) (by rw [e437]; exact ⟨rfl, N437⟩) (by decide) (by decide)
    · refine Go.by (fun _ gk => XS.ifNo X399.here hx rfl (hb hby at_40) rfl (XT.i0_eq_f hb402) gk) ?_
      show Go _ _ _ _ T399 (mkF m 43 #[.val (.int p0), .val (.int p1), .val (.int p2), .val (.int p3), .val (.int (4 : Int32)), .val (.ref cs_), .unset, .unset, .unset] [])
      have F441 : n0 ≤ h393.size := Nat.le_trans Z0 E393.1
      have F442 : n0 ≤ h396.size := Nat.le_trans F441 (Nat.le_of_eq (Wr.size W396).symm)
      have F443 : n0 ≤ h399.size := Nat.le_trans F442 (Nat.le_of_eq (Wr.size W399).symm)
      obtain ⟨st, g440⟩ : ∃ z, z = h399.size := ⟨_, rfl⟩
      have ge_st : n0 ≤ st := Nat.le_trans F443 (Nat.le_of_eq g440.symm)
      have F444 : Keep h0 h393 [] := (Keep.refl h0 []).ext E393
      have F445 : Keep h0 h396 [] := F444.wr W396 (Or.inr sz_cs_)
      have F446 : Keep h0 h399 [] := F445.wr W399 (Or.inr sz_cs_)
      have sz_st : h0.size ≤ st := Nat.le_trans F446.1 (Nat.le_of_eq g440.symm)
      have F447 : Exa Z h396 cs_ "[C" := Ea393.wr W396
      have F448 : Exa Z h399 cs_ "[C" := F447.wr W399
      have ne_cs__st : cs_ ≠ st := Nat.ne_of_lt (Nat.lt_of_lt_of_le F448.lt (Nat.le_of_eq g440.symm))
      obtain ⟨T440, h440, X440, e440, E440, A440, D440, -, st440⟩ := newO X399 hx hZ hown (hw _ (List.mem_of_getElem? (i := 2) rfl)) (hw _ (List.mem_of_getElem? (i := 3) rfl)) (hw _ (List.mem_of_getElem? (i := 4) rfl)) e399 (g := (mkF m 43 #[.val (.int p0), .val (.int p1), .val (.int p2), .val (.int p3), .val (.int (4 : Int32)), .val (.ref cs_), .unset, .unset, .unset] [])) rfl (hb hby at_43) (by decide) (by decide)
      rw [← g440] at A440 D440 st440
      have C449 : CHr Z own_EL s.vm h0 s.vm h440 := C400.trans (CHr.ext E440 C400.1)
      have Sf450 : Safe Z own_EL s.vm h440 cs_ := Safe.ext E440 C400.1 Sf401
      have Sf451 : Safe Z own_EL s.vm h440 st := Safe.ext E440 C400.1 (Safe.new (Nat.le_of_eq g440.symm))
      have F_coder_st : Fld Z h440 st "java/lang/String" "coder" "B" (.int (0 : Int32)) := D440 (Or.inr (hw _ (List.mem_of_getElem? (i := 28) rfl))) (ty := .byte) (by decide)
      have F_value_st : Fld Z h440 st "java/lang/String" "value" "[B" .null := D440 (Or.inr (hw _ (List.mem_of_getElem? (i := 30) rfl))) (ty := (.array .byte)) (by decide)
      refine Go.by st440 ?_
      show Go _ _ _ _ T440 (mkF m 46 #[.val (.int p0), .val (.int p1), .val (.int p2), .val (.int p3), .val (.int (4 : Int32)), .val (.ref cs_), .unset, .unset, .unset] [(.ref st)])
      refine Go.by (fun _ gk => XS.dup X440.here hx rfl (hb hby at_46) rfl rfl gk) ?_
      show Go _ _ _ _ T440 (mkF m 47 #[.val (.int p0), .val (.int p1), .val (.int p2), .val (.int p3), .val (.int (4 : Int32)), .val (.ref cs_), .unset, .unset, .unset] [(.ref st), (.ref st)])
      refine Go.by (fun _ gk => XS.aload X440.here hx rfl (hb hby at_47) rfl rfl gk) ?_
      show Go _ _ _ _ T440 (mkF m 49 #[.val (.int p0), .val (.int p1), .val (.int p2), .val (.int p3), .val (.int (4 : Int32)), .val (.ref cs_), .unset, .unset, .unset] [(.ref cs_), (.ref st), (.ref st)])
      have F452 : Old Z n0 h393 := O0.ext E393
      have F453 : Old Z n0 h396 := F452.wr W396 ge_cs_
      have F454 : Old Z n0 h399 := F453.wr W399 ge_cs_
      have F455 : Old Z n0 h440 := F454.ext E440
      have F456 : Arv Z h440 cs_ k393 .char (2 : Int32) [(.int (p1 &&& (255 : Int32))), (.int ((XT.ushr p1 (8 : Int32)) &&& (255 : Int32)))] (.int (0 : Int32)) := V399.ext E440
      have F457 : n0 ≤ h440.size := Nat.le_trans F443 E440.1
      have F458 : Keep h0 h440 [] := F446.ext E440
      have F459 : Exa Z h440 cs_ "[C" := F448.ext E440
      obtain ⟨_, _, ⟨T460, L460, k460, n460⟩, -, X460, ⟨Lc460, hQ460, l460, y460, z460⟩, st460⟩ := X440.specialBack hx (y := (⟨"java/lang/String", "<init>", "([C)V"⟩ : MethodName)) rfl hown (mvT hZ (hw _ (List.mem_of_getElem? (i := 5) rfl))) (mvT hZ (hw _ (List.mem_of_getElem? (i := 6) rfl))) (mvT hZ (hw _ (List.mem_of_getElem? (i := 7) rfl))) (by decide) (backOf (W := 1) (rmS1_2 l Z a0 hw [] st cs_ k393 (p1 &&& (255 : Int32)) ((XT.ushr p1 (8 : Int32)) &&& (255 : Int32)) cs h440 n0 F457 F455 A440 F_value_st F_coder_st ge_st F456 (own_255 _) (own_255 _) S_cs n_cs) hZ (hw _ (List.mem_of_getElem? (i := 7) rfl)) (hw _ (List.mem_of_getElem? (i := 4) rfl)) (by decide) (by decide)) (g := (mkF m 49 #[.val (.int p0), .val (.int p1), .val (.int p2), .val (.int p3), .val (.int (4 : Int32)), .val (.ref cs_), .unset, .unset, .unset] [(.ref cs_), (.ref st), (.ref st)])) rfl (by rw [hml]; rfl) (Steps.refl _) (a := st) (argsL := [(.ref cs_)]) (rest := [(.ref st)]) (lenOf pd_156 rfl) rfl (by show 2 * 0 + _ ≤ _; exact Nat.le_of_eq rfl) (hb hby at_49) (fun _ _ => ⟨rfl, e440, (by decide : 2 + 1 ≤ _), (by decide : 6 + 2 ≤ _)⟩)
      dsimp only [Pt.U, Pt.locs, Pt.cells, Pt.slots] at X460 l460 y460 z460 st460 hQ460
      subst l460 y460 z460
      obtain ⟨b_460, kb_460, rfl, N460q, K460, Q460_0, Q460_1, Q460_2, Q460_3, Q460_4⟩ := hQ460
      have N460 := Fr.app N399 N460q
      have C461 : CHr Z own_EL s.vm h0 s.vm T460.heap := C449.trans (CHr.keep K460 (sfS Sf451 sf0) C449.1)
      have Sf462 : Safe Z own_EL s.vm T460.heap cs_ := Safe.keep K460 (sfS Sf451 sf0) C449.1 Sf450
      have Sf463 : Safe Z own_EL s.vm T460.heap st := Safe.keep K460 (sfS Sf451 sf0) C449.1 Sf451
      refine Go.to st460 ?_
      show Go _ _ _ _ T460 (mkF m 52 #[.val (.int p0), .val (.int p1), .val (.int p2), .val (.int p3), .val (.int (4 : Int32)), .val (.ref cs_), .unset, .unset, .unset] [(.ref st)])
      have ge_b_460 : n0 ≤ b_460 := Nat.le_trans F457 Q460_4
      have sz_b_460 : h0.size ≤ b_460 := Nat.le_trans F458.1 Q460_4
      have ne_cs__b_460 : cs_ ≠ b_460 := Nat.ne_of_lt (Nat.lt_of_lt_of_le F456.lt Q460_4)
      have ne_st_b_460 : st ≠ b_460 := Nat.ne_of_lt (Nat.lt_of_lt_of_le A440.lt Q460_4)
      refine Go.by (fun _ gk => XS.goto X460.here hx rfl (pc0 := 52) (pc' := 57) rfl (hb hby at_52) (by decide) (by decide) gk) ?_
      show Go _ _ _ _ T460 (mkF m 57 #[.val (.int p0), .val (.int p1), .val (.int p2), .val (.int p3), .val (.int (4 : Int32)), .val (.ref cs_), .unset, .unset, .unset] [(.ref st)])
      refine Go.by (fun _ gk => XS.astore X460.here hx rfl (hb hby at_57) rfl rfl (l' := #[.val (.int p0), .val (.int p1), .val (.int p2), .val (.int p3), .val (.int (4 : Int32)), .val (.ref cs_), .val (.ref st), .unset, .unset]) rfl gk) ?_
      show Go _ _ _ _ T460 (mkF m 59 #[.val (.int p0), .val (.int p1), .val (.int p2), .val (.int p3), .val (.int (4 : Int32)), .val (.ref cs_), .val (.ref st), .unset, .unset] [])
      have F465 : n0 ≤ T460.heap.size := Nat.le_trans F457 K460.1
      obtain ⟨t, g464⟩ : ∃ z, z = T460.heap.size := ⟨_, rfl⟩
      have ge_t : n0 ≤ t := Nat.le_trans F465 (Nat.le_of_eq g464.symm)
      have F466 : Keep h0 T460.heap [] := F458.trans K460 (allS (Or.inr sz_st) all0)
      have sz_t : h0.size ≤ t := Nat.le_trans F466.1 (Nat.le_of_eq g464.symm)
      have ne_b_460_t : b_460 ≠ t := Nat.ne_of_lt (Nat.lt_of_lt_of_le Q460_3.lt (Nat.le_of_eq g464.symm))
      have F467 : Exa Z T460.heap cs_ "[C" := F459.keep K460
      have ne_cs__t : cs_ ≠ t := Nat.ne_of_lt (Nat.lt_of_lt_of_le F467.lt (Nat.le_of_eq g464.symm))
      have ne_st_t : st ≠ t := Nat.ne_of_lt (Nat.lt_of_lt_of_le Q460_0.lt (Nat.le_of_eq g464.symm))
      obtain ⟨T464, h464, X464, e464, E464, A464, D464, -, st464⟩ := newO X460 hx hZ hown (hw _ (List.mem_of_getElem? (i := 31) rfl)) (hw _ (List.mem_of_getElem? (i := 32) rfl)) (hw _ (List.mem_of_getElem? (i := 33) rfl)) rfl (g := (mkF m 59 #[.val (.int p0), .val (.int p1), .val (.int p2), .val (.int p3), .val (.int (4 : Int32)), .val (.ref cs_), .val (.ref st), .unset, .unset] [])) rfl (hb hby at_59) (by decide) (by decide)
      rw [← g464] at A464 D464 st464
      have C468 : CHr Z own_EL s.vm h0 s.vm h464 := C461.trans (CHr.ext E464 C461.1)
      have Sf469 : Safe Z own_EL s.vm h464 cs_ := Safe.ext E464 C461.1 Sf462
      have Sf470 : Safe Z own_EL s.vm h464 st := Safe.ext E464 C461.1 Sf463
      have Sf471 : Safe Z own_EL s.vm h464 t := Safe.ext E464 C461.1 (Safe.new (Nat.le_of_eq g464.symm))
      have F_kind_t : Fld Z h464 t "com/example/attache/attache/query/Token" "kind" "Lcom/example/attache/attache/query/Token$Kind;" .null := D464 (Or.inr (hw _ (List.mem_of_getElem? (i := 51) rfl))) (ty := (.object "com/example/attache/attache/query/Token$Kind")) (by decide)
      have F_text_t : Fld Z h464 t "com/example/attache/attache/query/Token" "text" "Ljava/lang/String;" .null := D464 (Or.inr (hw _ (List.mem_of_getElem? (i := 53) rfl))) (ty := (.object "java/lang/String")) (by decide)
      have F_position_t : Fld Z h464 t "com/example/attache/attache/query/Token" "position" "I" (.int (0 : Int32)) := D464 (Or.inr (hw _ (List.mem_of_getElem? (i := 55) rfl))) (ty := .int) (by decide)
      refine Go.by st464 ?_
      show Go _ _ _ _ T464 (mkF m 62 #[.val (.int p0), .val (.int p1), .val (.int p2), .val (.int p3), .val (.int (4 : Int32)), .val (.ref cs_), .val (.ref st), .unset, .unset] [(.ref t)])
      refine Go.by (fun _ gk => XS.dup X464.here hx rfl (hb hby at_62) rfl rfl gk) ?_
      show Go _ _ _ _ T464 (mkF m 63 #[.val (.int p0), .val (.int p1), .val (.int p2), .val (.int p3), .val (.int (4 : Int32)), .val (.ref cs_), .val (.ref st), .unset, .unset] [(.ref t), (.ref t)])
      refine Go.by (fun _ gk => XS.iload X464.here hx rfl (hb hby at_63) rfl gk) ?_
      show Go _ _ _ _ T464 (mkF m 65 #[.val (.int p0), .val (.int p1), .val (.int p2), .val (.int p3), .val (.int (4 : Int32)), .val (.ref cs_), .val (.ref st), .unset, .unset] [(.int (4 : Int32)), (.ref t), (.ref t)])
      have F472 : Old Z n0 T460.heap := F455.keep K460 (allS ge_st all0)
      have F473 : Old Z n0 h464 := F472.ext E464
      have F474 : n0 ≤ h464.size := Nat.le_trans F465 E464.1
      obtain ⟨_, _, ⟨T475, L475, k475, n475⟩, -, X475, ⟨Lc475, hQ475, l475, y475, z475⟩, st475⟩ := Jvm.LawKit.callS X464 hx (y := (⟨"com/example/attache/attache/query/TokenIsParameterPinLaw", "kindOf", "(I)Lcom/example/attache/attache/query/Token$Kind;"⟩ : MethodName)) hown (mvT hZ (hw _ (List.mem_of_getElem? (i := 34) rfl))) (mvT hZ (hw _ (List.mem_of_getElem? (i := 35) rfl))) (mvT hZ (hw _ (List.mem_of_getElem? (i := 36) rfl))) (mvT hZ (hw _ (List.mem_of_getElem? (i := 37) rfl))) (by decide) (backOf (W := 2) (rmKind l Z a0 hw [] (4 : Int32) c_POSITIONAL_PARAMETER c_WORD c_STRING c_NUMBER c_NAMED_PARAMETER c_POSITIONAL_PARAMETER c_SYMBOL c_END h464 n0 F474 F473 (Or.inr (Or.inr (Or.inr (Or.inr (Or.inl ⟨rfl, rfl⟩))))) S_c_WORD E_c_WORD O_c_WORD S_c_STRING E_c_STRING O_c_STRING S_c_NUMBER E_c_NUMBER O_c_NUMBER S_c_NAMED_PARAMETER E_c_NAMED_PARAMETER O_c_NAMED_PARAMETER S_c_POSITIONAL_PARAMETER E_c_POSITIONAL_PARAMETER O_c_POSITIONAL_PARAMETER S_c_SYMBOL E_c_SYMBOL O_c_SYMBOL S_c_END E_c_END O_c_END) hZ (hw _ (List.mem_of_getElem? (i := 37) rfl)) (hw _ (List.mem_of_getElem? (i := 36) rfl)) (by decide) (by decide)) (g := (mkF m 65 #[.val (.int p0), .val (.int p1), .val (.int p2), .val (.int p3), .val (.int (4 : Int32)), .val (.ref cs_), .val (.ref st), .unset, .unset] [(.int (4 : Int32)), (.ref t), (.ref t)])) rfl (by rw [hml]; rfl) (argsL := [(.int (4 : Int32))]) (rest := [(.ref t), (.ref t)]) (lenOf pd_153 rfl) rfl (by show 2 * 0 + _ ≤ _; exact Nat.le_of_eq rfl) (hb hby at_65) (fun _ _ => ⟨rfl, e464, (by decide : 4 + 0 ≤ _), (by decide : 11 + 0 ≤ _)⟩)
      dsimp only [Pt.U, Pt.locs, Pt.cells, Pt.slots] at X475 l475 y475 z475 st475 hQ475
      subst l475 y475 z475
      obtain ⟨rfl, N475q, e475⟩ := hQ475
      have N475 := Fr.app N460 N475q
      refine Go.by st475 ?_
      show Go _ _ _ _ T475 (mkF m 68 #[.val (.int p0), .val (.int p1), .val (.int p2), .val (.int p3), .val (.int (4 : Int32)), .val (.ref cs_), .val (.ref st), .unset, .unset] [(.ref c_POSITIONAL_PARAMETER), (.ref t), (.ref t)])
      refine Go.by (fun _ gk => XS.aload X475.here hx rfl (hb hby at_68) rfl rfl gk) ?_
      show Go _ _ _ _ T475 (mkF m 70 #[.val (.int p0), .val (.int p1), .val (.int p2), .val (.int p3), .val (.int (4 : Int32)), .val (.ref cs_), .val (.ref st), .unset, .unset] [(.ref st), (.ref c_POSITIONAL_PARAMETER), (.ref t), (.ref t)])
      refine Go.by (fun _ gk => XS.iloadN X475.here hx rfl (hb hby at_70) rfl gk) ?_
      show Go _ _ _ _ T475 (mkF m 71 #[.val (.int p0), .val (.int p1), .val (.int p2), .val (.int p3), .val (.int (4 : Int32)), .val (.ref cs_), .val (.ref st), .unset, .unset] [(.int p2), (.ref st), (.ref c_POSITIONAL_PARAMETER), (.ref t), (.ref t)])
      obtain ⟨_, _, ⟨T476, L476, k476, n476⟩, -, X476, ⟨Lc476, hQ476, l476, y476, z476⟩, st476⟩ := X475.specialBack hx (y := (⟨"com/example/attache/attache/query/Token", "<init>", "(Lcom/example/attache/attache/query/Token$Kind;Ljava/lang/String;I)V"⟩ : MethodName)) rfl hown (mvT hZ (hw _ (List.mem_of_getElem? (i := 41) rfl))) (mvT hZ (hw _ (List.mem_of_getElem? (i := 42) rfl))) (mvT hZ (hw _ (List.mem_of_getElem? (i := 43) rfl))) (by decide) (backOf (W := 1) (rmToken l Z a0 hw [] t c_POSITIONAL_PARAMETER st p2 h464 n0 F474 A464 F_kind_t F_text_t F_position_t ge_t) hZ (hw _ (List.mem_of_getElem? (i := 43) rfl)) (hw _ (List.mem_of_getElem? (i := 33) rfl)) (by decide) (by decide)) (g := (mkF m 71 #[.val (.int p0), .val (.int p1), .val (.int p2), .val (.int p3), .val (.int (4 : Int32)), .val (.ref cs_), .val (.ref st), .unset, .unset] [(.int p2), (.ref st), (.ref c_POSITIONAL_PARAMETER), (.ref t), (.ref t)])) rfl (by rw [hml]; rfl) (Steps.refl _) (a := t) (argsL := [(.ref c_POSITIONAL_PARAMETER), (.ref st), (.int p2)]) (rest := [(.ref t)]) (lenOf pd_154 rfl) rfl (by show 2 * 0 + _ ≤ _; exact Nat.le_of_eq rfl) (hb hby at_71) (fun _ _ => ⟨rfl, e475, (by decide : 4 + 0 ≤ _), (by decide : 11 + 0 ≤ _)⟩)
      dsimp only [Pt.U, Pt.locs, Pt.cells, Pt.slots] at X476 l476 y476 z476 st476 hQ476
      subst l476 y476 z476
      obtain ⟨rfl, N476q, K476, Q476_0, Q476_1⟩ := hQ476
      have N476 := Fr.app N475 N476q
      have C477 : CHr Z own_EL s.vm h0 s.vm T476.heap := C468.trans (CHr.keep K476 (sfS Sf471 sf0) C468.1)
      have Sf478 : Safe Z own_EL s.vm T476.heap cs_ := Safe.keep K476 (sfS Sf471 sf0) C468.1 Sf469
      have Sf479 : Safe Z own_EL s.vm T476.heap st := Safe.keep K476 (sfS Sf471 sf0) C468.1 Sf470
      have Sf480 : Safe Z own_EL s.vm T476.heap t := Safe.keep K476 (sfS Sf471 sf0) C468.1 Sf471
      refine Go.to st476 ?_
      show Go _ _ _ _ T476 (mkF m 74 #[.val (.int p0), .val (.int p1), .val (.int p2), .val (.int p3), .val (.int (4 : Int32)), .val (.ref cs_), .val (.ref st), .unset, .unset] [(.ref t)])
      refine Go.by (fun _ gk => XS.astore X476.here hx rfl (hb hby at_74) rfl rfl (l' := #[.val (.int p0), .val (.int p1), .val (.int p2), .val (.int p3), .val (.int (4 : Int32)), .val (.ref cs_), .val (.ref st), .val (.ref t), .unset]) rfl gk) ?_
      show Go _ _ _ _ T476 (mkF m 76 #[.val (.int p0), .val (.int p1), .val (.int p2), .val (.int p3), .val (.int (4 : Int32)), .val (.ref cs_), .val (.ref st), .val (.ref t), .unset] [])
      refine Go.by (fun _ gk => XS.iload X476.here hx rfl (hb hby at_76) rfl gk) ?_
      show Go _ _ _ _ T476 (mkF m 78 #[.val (.int p0), .val (.int p1), .val (.int p2), .val (.int p3), .val (.int (4 : Int32)), .val (.ref cs_), .val (.ref st), .val (.ref t), .unset] [(.int (4 : Int32))])
      refine Go.by (fun _ gk => XT.iconstV X476.here hx rfl (3 : Int32) (hb hby at_78) (by decide) gk) ?_
      show Go _ _ _ _ T476 (mkF m 79 #[.val (.int p0), .val (.int p1), .val (.int p2), .val (.int p3), .val (.int (4 : Int32)), .val (.ref cs_), .val (.ref st), .val (.ref t), .unset] [(.int (3 : Int32)), (.int (4 : Int32))])
      refine Go.by (fun _ gk => XS.icmpNo X476.here hx rfl (hb hby at_79) rfl (XT.ii_eq_f (by decide)) gk) ?_
      show Go _ _ _ _ T476 (mkF m 82 #[.val (.int p0), .val (.int p1), .val (.int p2), .val (.int p3), .val (.int (4 : Int32)), .val (.ref cs_), .val (.ref st), .val (.ref t), .unset] [])
      refine Go.by (fun _ gk => XS.iload X476.here hx rfl (hb hby at_82) rfl gk) ?_
      show Go _ _ _ _ T476 (mkF m 84 #[.val (.int p0), .val (.int p1), .val (.int p2), .val (.int p3), .val (.int (4 : Int32)), .val (.ref cs_), .val (.ref st), .val (.ref t), .unset] [(.int (4 : Int32))])
      refine Go.by (fun _ gk => XT.iconstV X476.here hx rfl (4 : Int32) (hb hby at_84) (by decide) gk) ?_
      show Go _ _ _ _ T476 (mkF m 85 #[.val (.int p0), .val (.int p1), .val (.int p2), .val (.int p3), .val (.int (4 : Int32)), .val (.ref cs_), .val (.ref st), .val (.ref t), .unset] [(.int (4 : Int32)), (.int (4 : Int32))])
      refine Go.by (fun _ gk => XS.icmpNo X476.here hx rfl (hb hby at_85) rfl (XT.ii_ne_f rfl) gk) ?_
      show Go _ _ _ _ T476 (mkF m 88 #[.val (.int p0), .val (.int p1), .val (.int p2), .val (.int p3), .val (.int (4 : Int32)), .val (.ref cs_), .val (.ref st), .val (.ref t), .unset] [])
      refine Go.by (fun _ gk => XT.iconstV X476.here hx rfl (1 : Int32) (hb hby at_88) (by decide) gk) ?_
      show Go _ _ _ _ T476 (mkF m 89 #[.val (.int p0), .val (.int p1), .val (.int p2), .val (.int p3), .val (.int (4 : Int32)), .val (.ref cs_), .val (.ref st), .val (.ref t), .unset] [(.int (1 : Int32))])
      refine Go.by (fun _ gk => XS.goto X476.here hx rfl (pc0 := 89) (pc' := 93) rfl (hb hby at_89) (by decide) (by decide) gk) ?_
      show Go _ _ _ _ T476 (mkF m 93 #[.val (.int p0), .val (.int p1), .val (.int p2), .val (.int p3), .val (.int (4 : Int32)), .val (.ref cs_), .val (.ref st), .val (.ref t), .unset] [(.int (1 : Int32))])
      refine Go.by (fun _ gk => XS.istore X476.here hx rfl (hb hby at_93) rfl (l' := #[.val (.int p0), .val (.int p1), .val (.int p2), .val (.int p3), .val (.int (4 : Int32)), .val (.ref cs_), .val (.ref st), .val (.ref t), .val (.int (1 : Int32))]) rfl gk) ?_
      show Go _ _ _ _ T476 (mkF m 95 #[.val (.int p0), .val (.int p1), .val (.int p2), .val (.int p3), .val (.int (4 : Int32)), .val (.ref cs_), .val (.ref st), .val (.ref t), .val (.int (1 : Int32))] [])
      refine Go.by (fun _ gk => XS.aload X476.here hx rfl (hb hby at_95) rfl rfl gk) ?_
      show Go _ _ _ _ T476 (mkF m 97 #[.val (.int p0), .val (.int p1), .val (.int p2), .val (.int p3), .val (.int (4 : Int32)), .val (.ref cs_), .val (.ref st), .val (.ref t), .val (.int (1 : Int32))] [(.ref t)])
      have F481 : Old Z n0 T476.heap := F473.keep K476 (allS ge_t all0)
      have F482 : n0 ≤ T476.heap.size := Nat.le_trans F474 K476.1
      obtain ⟨cq483, kq483, q483a, q483b, q483c⟩ := isOf hZ rfl Q476_0
      obtain ⟨_, _, ⟨T483, L483, k483, n483⟩, -, X483, ⟨Lc483, hQ483, l483, y483, z483⟩, st483⟩ := X476.virtualBack hx (y := (⟨"com/example/attache/attache/query/Token", "isParameter", "()Z"⟩ : MethodName)) (z := (⟨"com/example/attache/attache/query/Token", "isParameter", "()Z"⟩ : MethodName)) hown (mvT hZ (hw _ (List.mem_of_getElem? (i := 56) rfl))) (mvT hZ (hw _ (List.mem_of_getElem? (i := 57) rfl))) (notFace_of_selects (args := #[]) (mvT hZ (hw _ (List.mem_of_getElem? (i := 59) rfl)))) (mvT hZ (hw _ (List.mem_of_getElem? (i := 59) rfl))) (mvT hZ (hw _ (List.mem_of_getElem? (i := 58) rfl))) (by decide) (backOf (W := 0) (rmIsP l Z a0 hw [] t c_POSITIONAL_PARAMETER (1 : Int32) c_WORD c_STRING c_NUMBER c_NAMED_PARAMETER c_POSITIONAL_PARAMETER c_SYMBOL c_END T476.heap n0 F482 F481 Q476_1 (Or.inr (Or.inr (Or.inr (Or.inr (Or.inl ⟨rfl, rfl⟩))))) S_c_WORD E_c_WORD O_c_WORD S_c_STRING E_c_STRING O_c_STRING S_c_NUMBER E_c_NUMBER O_c_NUMBER S_c_NAMED_PARAMETER E_c_NAMED_PARAMETER O_c_NAMED_PARAMETER S_c_POSITIONAL_PARAMETER E_c_POSITIONAL_PARAMETER O_c_POSITIONAL_PARAMETER S_c_SYMBOL E_c_SYMBOL O_c_SYMBOL S_c_END E_c_END O_c_END) hZ (hw _ (List.mem_of_getElem? (i := 60) rfl)) (hw _ (List.mem_of_getElem? (i := 33) rfl)) (by decide) (by decide)) q483a q483c (g := (mkF m 97 #[.val (.int p0), .val (.int p1), .val (.int p2), .val (.int p3), .val (.int (4 : Int32)), .val (.ref cs_), .val (.ref st), .val (.ref t), .val (.int (1 : Int32))] [(.ref t)])) rfl (by rw [hml]; rfl) (Steps.refl _) (argsL := []) (rest := []) (lenOf pd_155 rfl) rfl (by show 2 * 0 + _ ≤ _; exact Nat.le_of_eq rfl) (hb hby at_97) (fun _ _ => ⟨rfl, rfl, (by decide : 4 + 0 ≤ _), (by decide : 11 + 0 ≤ _)⟩)
      dsimp only [Pt.U, Pt.locs, Pt.cells, Pt.slots] at X483 l483 y483 z483 st483 hQ483
      subst l483 y483 z483
      obtain ⟨rfl, N483q, e483⟩ := hQ483
      have N483 := Fr.app N476 N483q
      refine Go.to st483 ?_
      show Go _ _ _ _ T483 (mkF m 100 #[.val (.int p0), .val (.int p1), .val (.int p2), .val (.int p3), .val (.int (4 : Int32)), .val (.ref cs_), .val (.ref st), .val (.ref t), .val (.int (1 : Int32))] [(.int (1 : Int32))])
      refine Go.by (fun _ gk => XS.iload X483.here hx rfl (hb hby at_100) rfl gk) ?_
      show Go _ _ _ _ T483 (mkF m 102 #[.val (.int p0), .val (.int p1), .val (.int p2), .val (.int p3), .val (.int (4 : Int32)), .val (.ref cs_), .val (.ref st), .val (.ref t), .val (.int (1 : Int32))] [(.int (1 : Int32)), (.int (1 : Int32))])
      refine Go.by (fun _ gk => XS.icmpNo X483.here hx rfl (hb hby at_102) rfl (XT.ii_ne_f rfl) gk) ?_
      show Go _ _ _ _ T483 (mkF m 105 #[.val (.int p0), .val (.int p1), .val (.int p2), .val (.int p3), .val (.int (4 : Int32)), .val (.ref cs_), .val (.ref st), .val (.ref t), .val (.int (1 : Int32))] [])
      refine Go.by (fun _ gk => XT.iconstV X483.here hx rfl (1 : Int32) (hb hby at_105) (by decide) gk) ?_
      show Go _ _ _ _ T483 (mkF m 106 #[.val (.int p0), .val (.int p1), .val (.int p2), .val (.int p3), .val (.int (4 : Int32)), .val (.ref cs_), .val (.ref st), .val (.ref t), .val (.int (1 : Int32))] [(.int (1 : Int32))])
      refine Go.by (fun _ gk => XS.goto X483.here hx rfl (pc0 := 106) (pc' := 110) rfl (hb hby at_106) (by decide) (by decide) gk) ?_
      show Go _ _ _ _ T483 (mkF m 110 #[.val (.int p0), .val (.int p1), .val (.int p2), .val (.int p3), .val (.int (4 : Int32)), .val (.ref cs_), .val (.ref st), .val (.ref t), .val (.int (1 : Int32))] [(.int (1 : Int32))])
      have F484 : s.heap.size ≤ h393.size := Nat.le_trans hk0 E393.1
      have F485 : s.heap.size ≤ h396.size := Nat.le_trans F484 (Nat.le_of_eq (Wr.size W396).symm)
      have F486 : s.heap.size ≤ h399.size := Nat.le_trans F485 (Nat.le_of_eq (Wr.size W399).symm)
      have F487 : s.heap.size ≤ h440.size := Nat.le_trans F486 E440.1
      have F488 : s.heap.size ≤ T460.heap.size := Nat.le_trans F487 K460.1
      have F489 : s.heap.size ≤ h464.size := Nat.le_trans F488 E464.1
      have F490 : s.heap.size ≤ T476.heap.size := Nat.le_trans F489 K476.1
      exact Go.retIW X483 hx Bd.notSynchronized hS0 (by rw [e483]; exact F490) hZ hEL (by rw [hh, e483]; exact C477) Bd.returns rfl (by simp) (hb hby at_110) (by rw [e483]; exact ⟨rfl, N483⟩) (by decide) (by decide)
  · show Go _ _ _ _ s₁ (mkF m 9 #[.val (.int p0), .val (.int p1), .val (.int p2), .val (.int p3), .val (.int (5 : Int32)), .unset, .unset, .unset, .unset] [])
    refine Go.by (fun _ gk => XT.iconstV X0.here hx rfl (2 : Int32) (hb hby at_9) (by decide) gk) ?_
    show Go _ _ _ _ s₁ (mkF m 10 #[.val (.int p0), .val (.int p1), .val (.int p2), .val (.int p3), .val (.int (5 : Int32)), .unset, .unset, .unset, .unset] [(.int (2 : Int32))])
    obtain ⟨cs_, g491⟩ : ∃ z, z = h0.size := ⟨_, rfl⟩
    have ge_cs_ : n0 ≤ cs_ := Nat.le_trans Z0 (Nat.le_of_eq g491.symm)
    have sz_cs_ : h0.size ≤ cs_ := Nat.le_trans (Keep.refl h0 []).1 (Nat.le_of_eq g491.symm)
    obtain ⟨T491, h491, k491, X491, e491, E491, A491, Ea491, st491⟩ := newPE X0 hx hZ (hw _ (List.mem_of_getElem? (i := 1) rfl)) e0 (g := (mkF m 10 #[.val (.int p0), .val (.int p1), .val (.int p2), .val (.int p3), .val (.int (5 : Int32)), .unset, .unset, .unset, .unset] [(.int (2 : Int32))])) rfl (hb hby at_10) rfl (by decide) (cap := 2) (by decide) (by decide) (by decide) (by decide) (ad := "[C") rfl
    rw [← g491] at A491 Ea491 st491
    have C492 : CHr Z own_EL s.vm h0 s.vm h491 := C0.trans (CHr.ext E491 C0.1)
    have Sf493 : Safe Z own_EL s.vm h491 cs_ := Safe.ext E491 C0.1 (Safe.new (Nat.le_of_eq g491.symm))
    have V_cs_ : Arv Z h491 cs_ k491 .char (2 : Int32) [(.int (0 : Int32)), (.int (0 : Int32))] (.int (0 : Int32)) := (Arv.new A491 (by decide)).pad (pad_rep [] (.int (0 : Int32)) 2)
    refine Go.by st491 ?_
    show Go _ _ _ _ T491 (mkF m 12 #[.val (.int p0), .val (.int p1), .val (.int p2), .val (.int p3), .val (.int (5 : Int32)), .unset, .unset, .unset, .unset] [(.ref cs_)])
    refine Go.by (fun _ gk => XS.astore X491.here hx rfl (hb hby at_12) rfl rfl (l' := #[.val (.int p0), .val (.int p1), .val (.int p2), .val (.int p3), .val (.int (5 : Int32)), .val (.ref cs_), .unset, .unset, .unset]) rfl gk) ?_
    show Go _ _ _ _ T491 (mkF m 14 #[.val (.int p0), .val (.int p1), .val (.int p2), .val (.int p3), .val (.int (5 : Int32)), .val (.ref cs_), .unset, .unset, .unset] [])
    refine Go.by (fun _ gk => XS.aload X491.here hx rfl (hb hby at_14) rfl rfl gk) ?_
    show Go _ _ _ _ T491 (mkF m 16 #[.val (.int p0), .val (.int p1), .val (.int p2), .val (.int p3), .val (.int (5 : Int32)), .val (.ref cs_), .unset, .unset, .unset] [(.ref cs_)])
    refine Go.by (fun _ gk => XT.iconstV X491.here hx rfl (0 : Int32) (hb hby at_16) (by decide) gk) ?_
    show Go _ _ _ _ T491 (mkF m 17 #[.val (.int p0), .val (.int p1), .val (.int p2), .val (.int p3), .val (.int (5 : Int32)), .val (.ref cs_), .unset, .unset, .unset] [(.int (0 : Int32)), (.ref cs_)])
    refine Go.by (fun _ gk => XS.iloadN X491.here hx rfl (hb hby at_17) rfl gk) ?_
    show Go _ _ _ _ T491 (mkF m 18 #[.val (.int p0), .val (.int p1), .val (.int p2), .val (.int p3), .val (.int (5 : Int32)), .val (.ref cs_), .unset, .unset, .unset] [(.int p1), (.int (0 : Int32)), (.ref cs_)])
    refine Go.by (fun _ gk => XT.sipushV X491.here hx rfl (255 : Int32) (hb hby at_18) (by decide) gk) ?_
    show Go _ _ _ _ T491 (mkF m 21 #[.val (.int p0), .val (.int p1), .val (.int p2), .val (.int p3), .val (.int (5 : Int32)), .val (.ref cs_), .unset, .unset, .unset] [(.int (255 : Int32)), (.int p1), (.int (0 : Int32)), (.ref cs_)])
    refine Go.by (fun _ gk => XS.iand X491.here hx rfl (hb hby at_21) rfl gk) ?_
    show Go _ _ _ _ T491 (mkF m 22 #[.val (.int p0), .val (.int p1), .val (.int p2), .val (.int p3), .val (.int (5 : Int32)), .val (.ref cs_), .unset, .unset, .unset] [(.int (p1 &&& (255 : Int32))), (.int (0 : Int32)), (.ref cs_)])
    refine Go.by (fun _ gk => XT.i2c X491.here hx rfl (hb hby at_22) rfl gk) ?_
    show Go _ _ _ _ T491 (mkF m 23 #[.val (.int p0), .val (.int p1), .val (.int p2), .val (.int p3), .val (.int (5 : Int32)), .val (.ref cs_), .unset, .unset, .unset] [(.int ((p1 &&& (255 : Int32)).toUInt32.toUInt16.toUInt32.toInt32)), (.int (0 : Int32)), (.ref cs_)])
    rw [i2c_mask]
    show Go _ _ _ _ T491 (mkF m 23 #[.val (.int p0), .val (.int p1), .val (.int p2), .val (.int p3), .val (.int (5 : Int32)), .val (.ref cs_), .unset, .unset, .unset] [(.int (p1 &&& (255 : Int32))), (.int (0 : Int32)), (.ref cs_)])
    obtain ⟨cl494, Ar494, q494, S494, M494, H494, G494⟩ := id V_cs_
    have hin494 : ¬ ((0 : Int32) < 0 ∨ cl494.slots.size ≤ (0 : Int32).toNatClampNeg) := inb_of S494 ⟨by decide, by decide⟩
    obtain ⟨T494, h494, X494, e494, W494, st494⟩ := stC X491 hx hZ e491 Ar494 (j := (0 : Int32)) hin494 (g := (mkF m 23 #[.val (.int p0), .val (.int p1), .val (.int p2), .val (.int p3), .val (.int (5 : Int32)), .val (.ref cs_), .unset, .unset, .unset] [(.int (p1 &&& (255 : Int32))), (.int (0 : Int32)), (.ref cs_)])) rfl rfl (hb hby at_23)
    have C495 : CHr Z own_EL s.vm h0 s.vm h494 := C492.trans (CHr.wr W494 Sf493 C492.1)
    have Sf496 : Safe Z own_EL s.vm h494 cs_ := Safe.wr W494 Sf493 C492.1 Sf493
    have N494 := Fr.snoc X494 N0 ge_cs_
    have V494 : Arv Z h494 cs_ k491 .char (2 : Int32) [(.int (nar .char (p1 &&& (255 : Int32)))), (.int (0 : Int32))] (.int (0 : Int32)) := Arv.set Ar494 q494 S494 M494 H494 G494 (fits_nar_char _) W494 0 rfl (Nat.le_of_ble_eq_true rfl)
    refine Go.by st494 ?_
    show Go _ _ _ _ T494 (mkF m 24 #[.val (.int p0), .val (.int p1), .val (.int p2), .val (.int p3), .val (.int (5 : Int32)), .val (.ref cs_), .unset, .unset, .unset] [])
    rw [own_nc] at V494
    refine Go.by (fun _ gk => XS.aload X494.here hx rfl (hb hby at_24) rfl rfl gk) ?_
    show Go _ _ _ _ T494 (mkF m 26 #[.val (.int p0), .val (.int p1), .val (.int p2), .val (.int p3), .val (.int (5 : Int32)), .val (.ref cs_), .unset, .unset, .unset] [(.ref cs_)])
    refine Go.by (fun _ gk => XT.iconstV X494.here hx rfl (1 : Int32) (hb hby at_26) (by decide) gk) ?_
    show Go _ _ _ _ T494 (mkF m 27 #[.val (.int p0), .val (.int p1), .val (.int p2), .val (.int p3), .val (.int (5 : Int32)), .val (.ref cs_), .unset, .unset, .unset] [(.int (1 : Int32)), (.ref cs_)])
    refine Go.by (fun _ gk => XS.iloadN X494.here hx rfl (hb hby at_27) rfl gk) ?_
    show Go _ _ _ _ T494 (mkF m 28 #[.val (.int p0), .val (.int p1), .val (.int p2), .val (.int p3), .val (.int (5 : Int32)), .val (.ref cs_), .unset, .unset, .unset] [(.int p1), (.int (1 : Int32)), (.ref cs_)])
    refine Go.by (fun _ gk => XT.bipushV X494.here hx rfl (8 : Int32) (hb hby at_28) (by decide) gk) ?_
    show Go _ _ _ _ T494 (mkF m 30 #[.val (.int p0), .val (.int p1), .val (.int p2), .val (.int p3), .val (.int (5 : Int32)), .val (.ref cs_), .unset, .unset, .unset] [(.int (8 : Int32)), (.int p1), (.int (1 : Int32)), (.ref cs_)])
    refine Go.by (fun _ gk => XT.iushr X494.here hx rfl (hb hby at_30) rfl gk) ?_
    show Go _ _ _ _ T494 (mkF m 31 #[.val (.int p0), .val (.int p1), .val (.int p2), .val (.int p3), .val (.int (5 : Int32)), .val (.ref cs_), .unset, .unset, .unset] [(.int (XT.ushr p1 (8 : Int32))), (.int (1 : Int32)), (.ref cs_)])
    refine Go.by (fun _ gk => XT.sipushV X494.here hx rfl (255 : Int32) (hb hby at_31) (by decide) gk) ?_
    show Go _ _ _ _ T494 (mkF m 34 #[.val (.int p0), .val (.int p1), .val (.int p2), .val (.int p3), .val (.int (5 : Int32)), .val (.ref cs_), .unset, .unset, .unset] [(.int (255 : Int32)), (.int (XT.ushr p1 (8 : Int32))), (.int (1 : Int32)), (.ref cs_)])
    refine Go.by (fun _ gk => XS.iand X494.here hx rfl (hb hby at_34) rfl gk) ?_
    show Go _ _ _ _ T494 (mkF m 35 #[.val (.int p0), .val (.int p1), .val (.int p2), .val (.int p3), .val (.int (5 : Int32)), .val (.ref cs_), .unset, .unset, .unset] [(.int ((XT.ushr p1 (8 : Int32)) &&& (255 : Int32))), (.int (1 : Int32)), (.ref cs_)])
    refine Go.by (fun _ gk => XT.i2c X494.here hx rfl (hb hby at_35) rfl gk) ?_
    show Go _ _ _ _ T494 (mkF m 36 #[.val (.int p0), .val (.int p1), .val (.int p2), .val (.int p3), .val (.int (5 : Int32)), .val (.ref cs_), .unset, .unset, .unset] [(.int (((XT.ushr p1 (8 : Int32)) &&& (255 : Int32)).toUInt32.toUInt16.toUInt32.toInt32)), (.int (1 : Int32)), (.ref cs_)])
    rw [i2c_mask]
    show Go _ _ _ _ T494 (mkF m 36 #[.val (.int p0), .val (.int p1), .val (.int p2), .val (.int p3), .val (.int (5 : Int32)), .val (.ref cs_), .unset, .unset, .unset] [(.int ((XT.ushr p1 (8 : Int32)) &&& (255 : Int32))), (.int (1 : Int32)), (.ref cs_)])
    obtain ⟨cl497, Ar497, q497, S497, M497, H497, G497⟩ := id V494
    have hin497 : ¬ ((1 : Int32) < 0 ∨ cl497.slots.size ≤ (1 : Int32).toNatClampNeg) := inb_of S497 ⟨by decide, by decide⟩
    obtain ⟨T497, h497, X497, e497, W497, st497⟩ := stC X494 hx hZ e494 Ar497 (j := (1 : Int32)) hin497 (g := (mkF m 36 #[.val (.int p0), .val (.int p1), .val (.int p2), .val (.int p3), .val (.int (5 : Int32)), .val (.ref cs_), .unset, .unset, .unset] [(.int ((XT.ushr p1 (8 : Int32)) &&& (255 : Int32))), (.int (1 : Int32)), (.ref cs_)])) rfl rfl (hb hby at_36)
    have C498 : CHr Z own_EL s.vm h0 s.vm h497 := C495.trans (CHr.wr W497 Sf496 C495.1)
    have Sf499 : Safe Z own_EL s.vm h497 cs_ := Safe.wr W497 Sf496 C495.1 Sf496
    have N497 := Fr.snoc X497 N494 ge_cs_
    have V497 : Arv Z h497 cs_ k491 .char (2 : Int32) [(.int (p1 &&& (255 : Int32))), (.int (nar .char ((XT.ushr p1 (8 : Int32)) &&& (255 : Int32))))] (.int (0 : Int32)) := Arv.set Ar497 q497 S497 M497 H497 G497 (fits_nar_char _) W497 1 rfl (Nat.le_of_ble_eq_true rfl)
    refine Go.by st497 ?_
    show Go _ _ _ _ T497 (mkF m 37 #[.val (.int p0), .val (.int p1), .val (.int p2), .val (.int p3), .val (.int (5 : Int32)), .val (.ref cs_), .unset, .unset, .unset] [])
    rw [own_nc] at V497
    refine Go.by (fun _ gk => XS.iloadN X497.here hx rfl (hb hby at_37) rfl gk) ?_
    show Go _ _ _ _ T497 (mkF m 38 #[.val (.int p0), .val (.int p1), .val (.int p2), .val (.int p3), .val (.int (5 : Int32)), .val (.ref cs_), .unset, .unset, .unset] [(.int p3)])
    refine Go.by (fun _ gk => XT.iconstV X497.here hx rfl (1 : Int32) (hb hby at_38) (by decide) gk) ?_
    show Go _ _ _ _ T497 (mkF m 39 #[.val (.int p0), .val (.int p1), .val (.int p2), .val (.int p3), .val (.int (5 : Int32)), .val (.ref cs_), .unset, .unset, .unset] [(.int (1 : Int32)), (.int p3)])
    refine Go.by (fun _ gk => XS.iand X497.here hx rfl (hb hby at_39) rfl gk) ?_
    show Go _ _ _ _ T497 (mkF m 40 #[.val (.int p0), .val (.int p1), .val (.int p2), .val (.int p3), .val (.int (5 : Int32)), .val (.ref cs_), .unset, .unset, .unset] [(.int (p3 &&& (1 : Int32)))])
    by_cases hb500 : (p3 &&& (1 : Int32)) = 0
    · refine Go.by (fun _ gk => XS.ifYes X497.here hx rfl (pc0 := 40) (pc' := 55) rfl (hb hby at_40) rfl (XT.i0_eq_t hb500) (by decide) (by decide) gk) ?_
      show Go _ _ _ _ T497 (mkF m 55 #[.val (.int p0), .val (.int p1), .val (.int p2), .val (.int p3), .val (.int (5 : Int32)), .val (.ref cs_), .unset, .unset, .unset] [])
      have F502 : s.heap.size ≤ h491.size := Nat.le_trans hk0 E491.1
      have F503 : s.heap.size ≤ h494.size := Nat.le_trans F502 (Nat.le_of_eq (Wr.size W494).symm)
      have F504 : s.heap.size ≤ h497.size := Nat.le_trans F503 (Nat.le_of_eq (Wr.size W497).symm)
      have F505 : Exa Z h494 cs_ "[C" := Ea491.wr W494
      have F506 : Exa Z h497 cs_ "[C" := F505.wr W497
      obtain ⟨st, T501, h501, kq501, X501, e501, E501, hS501, hk501, hZ501, hown501, CH501, -, st501⟩ := ldcOH X497 hx hZ hown (hw _ (List.mem_of_getElem? (i := 65) rfl)) hSA e497 hS0 F504 hEL C498.1 (g := (mkF m 55 #[.val (.int p0), .val (.int p1), .val (.int p2), .val (.int p3), .val (.int (5 : Int32)), .val (.ref cs_), .unset, .unset, .unset] [])) rfl (hb hby at_55) (n := 0) (by decide) (by decide) (by decide) (by decide)
      have C507 : CHr Z own_EL s.vm h0 T501.vm h501 := C498.trans CH501
      have Sf508 : Safe Z own_EL T501.vm h501 cs_ := CH501.safe F506.lt Sf499
      refine Go.by st501 ?_
      show Go _ _ _ _ T501 (mkF m 57 #[.val (.int p0), .val (.int p1), .val (.int p2), .val (.int p3), .val (.int (5 : Int32)), .val (.ref cs_), .unset, .unset, .unset] [(.ref st)])
      refine Go.by (fun _ gk => XS.astore X501.here hx rfl (hb hby at_57) rfl rfl (l' := #[.val (.int p0), .val (.int p1), .val (.int p2), .val (.int p3), .val (.int (5 : Int32)), .val (.ref cs_), .val (.ref st), .unset, .unset]) rfl gk) ?_
      show Go _ _ _ _ T501 (mkF m 59 #[.val (.int p0), .val (.int p1), .val (.int p2), .val (.int p3), .val (.int (5 : Int32)), .val (.ref cs_), .val (.ref st), .unset, .unset] [])
      have F510 : n0 ≤ h491.size := Nat.le_trans Z0 E491.1
      have F511 : n0 ≤ h494.size := Nat.le_trans F510 (Nat.le_of_eq (Wr.size W494).symm)
      have F512 : n0 ≤ h497.size := Nat.le_trans F511 (Nat.le_of_eq (Wr.size W497).symm)
      have F513 : n0 ≤ h501.size := Nat.le_trans F512 E501.1
      obtain ⟨t, g509⟩ : ∃ z, z = h501.size := ⟨_, rfl⟩
      have ge_t : n0 ≤ t := Nat.le_trans F513 (Nat.le_of_eq g509.symm)
      have F514 : Keep h0 h491 [] := (Keep.refl h0 []).ext E491
      have F515 : Keep h0 h494 [] := F514.wr W494 (Or.inr sz_cs_)
      have F516 : Keep h0 h497 [] := F515.wr W497 (Or.inr sz_cs_)
      have F517 : Keep h0 h501 [] := F516.ext E501
      have sz_t : h0.size ≤ t := Nat.le_trans F517.1 (Nat.le_of_eq g509.symm)
      have F518 : Exa Z h501 cs_ "[C" := F506.ext E501
      have ne_cs__t : cs_ ≠ t := Nat.ne_of_lt (Nat.lt_of_lt_of_le F518.lt (Nat.le_of_eq g509.symm))
      obtain ⟨T509, h509, X509, e509, E509, A509, D509, -, st509⟩ := newO X501 hx hZ501 hown501 (hw _ (List.mem_of_getElem? (i := 31) rfl)) (hw _ (List.mem_of_getElem? (i := 32) rfl)) (hw _ (List.mem_of_getElem? (i := 33) rfl)) e501 (g := (mkF m 59 #[.val (.int p0), .val (.int p1), .val (.int p2), .val (.int p3), .val (.int (5 : Int32)), .val (.ref cs_), .val (.ref st), .unset, .unset] [])) rfl (hb hby at_59) (by decide) (by decide)
      rw [← g509] at A509 D509 st509
      have C519 : CHr Z own_EL s.vm h0 T501.vm h509 := C507.trans (CHr.ext E509 C507.1)
      have Sf520 : Safe Z own_EL T501.vm h509 cs_ := Safe.ext E509 C507.1 Sf508
      have Sf521 : Safe Z own_EL T501.vm h509 t := Safe.ext E509 C507.1 (Safe.new (Nat.le_of_eq g509.symm))
      have F_kind_t : Fld Z h509 t "com/example/attache/attache/query/Token" "kind" "Lcom/example/attache/attache/query/Token$Kind;" .null := D509 (Or.inr (hw _ (List.mem_of_getElem? (i := 51) rfl))) (ty := (.object "com/example/attache/attache/query/Token$Kind")) (by decide)
      have F_text_t : Fld Z h509 t "com/example/attache/attache/query/Token" "text" "Ljava/lang/String;" .null := D509 (Or.inr (hw _ (List.mem_of_getElem? (i := 53) rfl))) (ty := (.object "java/lang/String")) (by decide)
      have F_position_t : Fld Z h509 t "com/example/attache/attache/query/Token" "position" "I" (.int (0 : Int32)) := D509 (Or.inr (hw _ (List.mem_of_getElem? (i := 55) rfl))) (ty := .int) (by decide)
      refine Go.by st509 ?_
      show Go _ _ _ _ T509 (mkF m 62 #[.val (.int p0), .val (.int p1), .val (.int p2), .val (.int p3), .val (.int (5 : Int32)), .val (.ref cs_), .val (.ref st), .unset, .unset] [(.ref t)])
      refine Go.by (fun _ gk => XS.dup X509.here hx rfl (hb hby at_62) rfl rfl gk) ?_
      show Go _ _ _ _ T509 (mkF m 63 #[.val (.int p0), .val (.int p1), .val (.int p2), .val (.int p3), .val (.int (5 : Int32)), .val (.ref cs_), .val (.ref st), .unset, .unset] [(.ref t), (.ref t)])
      refine Go.by (fun _ gk => XS.iload X509.here hx rfl (hb hby at_63) rfl gk) ?_
      show Go _ _ _ _ T509 (mkF m 65 #[.val (.int p0), .val (.int p1), .val (.int p2), .val (.int p3), .val (.int (5 : Int32)), .val (.ref cs_), .val (.ref st), .unset, .unset] [(.int (5 : Int32)), (.ref t), (.ref t)])
      have F522 : Old Z n0 h491 := O0.ext E491
      have F523 : Old Z n0 h494 := F522.wr W494 ge_cs_
      have F524 : Old Z n0 h497 := F523.wr W497 ge_cs_
      have F525 : Old Z n0 h501 := F524.ext E501
      have F526 : Old Z n0 h509 := F525.ext E509
      have F527 : n0 ≤ h509.size := Nat.le_trans F513 E509.1
      obtain ⟨_, _, ⟨T528, L528, k528, n528⟩, -, X528, ⟨Lc528, hQ528, l528, y528, z528⟩, st528⟩ := Jvm.LawKit.callS X509 hx (y := (⟨"com/example/attache/attache/query/TokenIsParameterPinLaw", "kindOf", "(I)Lcom/example/attache/attache/query/Token$Kind;"⟩ : MethodName)) hown501 (mvT hZ501 (hw _ (List.mem_of_getElem? (i := 34) rfl))) (mvT hZ501 (hw _ (List.mem_of_getElem? (i := 35) rfl))) (mvT hZ501 (hw _ (List.mem_of_getElem? (i := 36) rfl))) (mvT hZ501 (hw _ (List.mem_of_getElem? (i := 37) rfl))) (by decide) (backOf (W := 2) (rmKind l Z a0 hw [] (5 : Int32) c_SYMBOL c_WORD c_STRING c_NUMBER c_NAMED_PARAMETER c_POSITIONAL_PARAMETER c_SYMBOL c_END h509 n0 F527 F526 (Or.inr (Or.inr (Or.inr (Or.inr (Or.inr (Or.inl ⟨rfl, rfl⟩)))))) S_c_WORD E_c_WORD O_c_WORD S_c_STRING E_c_STRING O_c_STRING S_c_NUMBER E_c_NUMBER O_c_NUMBER S_c_NAMED_PARAMETER E_c_NAMED_PARAMETER O_c_NAMED_PARAMETER S_c_POSITIONAL_PARAMETER E_c_POSITIONAL_PARAMETER O_c_POSITIONAL_PARAMETER S_c_SYMBOL E_c_SYMBOL O_c_SYMBOL S_c_END E_c_END O_c_END) hZ501 (hw _ (List.mem_of_getElem? (i := 37) rfl)) (hw _ (List.mem_of_getElem? (i := 36) rfl)) (by decide) (by decide)) (g := (mkF m 65 #[.val (.int p0), .val (.int p1), .val (.int p2), .val (.int p3), .val (.int (5 : Int32)), .val (.ref cs_), .val (.ref st), .unset, .unset] [(.int (5 : Int32)), (.ref t), (.ref t)])) rfl (by rw [hml]; rfl) (argsL := [(.int (5 : Int32))]) (rest := [(.ref t), (.ref t)]) (lenOf pd_153 rfl) rfl (by show 2 * 0 + _ ≤ _; exact Nat.le_of_eq rfl) (hb hby at_65) (fun _ _ => ⟨rfl, e509, (by decide : 4 + 0 ≤ _), (by decide : 9 + 0 ≤ _)⟩)
      dsimp only [Pt.U, Pt.locs, Pt.cells, Pt.slots] at X528 l528 y528 z528 st528 hQ528
      subst l528 y528 z528
      obtain ⟨rfl, N528q, e528⟩ := hQ528
      have N528 := Fr.app N497 N528q
      refine Go.by st528 ?_
      show Go _ _ _ _ T528 (mkF m 68 #[.val (.int p0), .val (.int p1), .val (.int p2), .val (.int p3), .val (.int (5 : Int32)), .val (.ref cs_), .val (.ref st), .unset, .unset] [(.ref c_SYMBOL), (.ref t), (.ref t)])
      refine Go.by (fun _ gk => XS.aload X528.here hx rfl (hb hby at_68) rfl rfl gk) ?_
      show Go _ _ _ _ T528 (mkF m 70 #[.val (.int p0), .val (.int p1), .val (.int p2), .val (.int p3), .val (.int (5 : Int32)), .val (.ref cs_), .val (.ref st), .unset, .unset] [(.ref st), (.ref c_SYMBOL), (.ref t), (.ref t)])
      refine Go.by (fun _ gk => XS.iloadN X528.here hx rfl (hb hby at_70) rfl gk) ?_
      show Go _ _ _ _ T528 (mkF m 71 #[.val (.int p0), .val (.int p1), .val (.int p2), .val (.int p3), .val (.int (5 : Int32)), .val (.ref cs_), .val (.ref st), .unset, .unset] [(.int p2), (.ref st), (.ref c_SYMBOL), (.ref t), (.ref t)])
      obtain ⟨_, _, ⟨T529, L529, k529, n529⟩, -, X529, ⟨Lc529, hQ529, l529, y529, z529⟩, st529⟩ := X528.specialBack hx (y := (⟨"com/example/attache/attache/query/Token", "<init>", "(Lcom/example/attache/attache/query/Token$Kind;Ljava/lang/String;I)V"⟩ : MethodName)) rfl hown501 (mvT hZ501 (hw _ (List.mem_of_getElem? (i := 41) rfl))) (mvT hZ501 (hw _ (List.mem_of_getElem? (i := 42) rfl))) (mvT hZ501 (hw _ (List.mem_of_getElem? (i := 43) rfl))) (by decide) (backOf (W := 1) (rmToken l Z a0 hw [] t c_SYMBOL st p2 h509 n0 F527 A509 F_kind_t F_text_t F_position_t ge_t) hZ501 (hw _ (List.mem_of_getElem? (i := 43) rfl)) (hw _ (List.mem_of_getElem? (i := 33) rfl)) (by decide) (by decide)) (g := (mkF m 71 #[.val (.int p0), .val (.int p1), .val (.int p2), .val (.int p3), .val (.int (5 : Int32)), .val (.ref cs_), .val (.ref st), .unset, .unset] [(.int p2), (.ref st), (.ref c_SYMBOL), (.ref t), (.ref t)])) rfl (by rw [hml]; rfl) (Steps.refl _) (a := t) (argsL := [(.ref c_SYMBOL), (.ref st), (.int p2)]) (rest := [(.ref t)]) (lenOf pd_154 rfl) rfl (by show 2 * 0 + _ ≤ _; exact Nat.le_of_eq rfl) (hb hby at_71) (fun _ _ => ⟨rfl, e528, (by decide : 4 + 0 ≤ _), (by decide : 9 + 0 ≤ _)⟩)
      dsimp only [Pt.U, Pt.locs, Pt.cells, Pt.slots] at X529 l529 y529 z529 st529 hQ529
      subst l529 y529 z529
      obtain ⟨rfl, N529q, K529, Q529_0, Q529_1⟩ := hQ529
      have N529 := Fr.app N528 N529q
      have C530 : CHr Z own_EL s.vm h0 T501.vm T529.heap := C519.trans (CHr.keep K529 (sfS Sf521 sf0) C519.1)
      have Sf531 : Safe Z own_EL T501.vm T529.heap cs_ := Safe.keep K529 (sfS Sf521 sf0) C519.1 Sf520
      have Sf532 : Safe Z own_EL T501.vm T529.heap t := Safe.keep K529 (sfS Sf521 sf0) C519.1 Sf521
      refine Go.to st529 ?_
      show Go _ _ _ _ T529 (mkF m 74 #[.val (.int p0), .val (.int p1), .val (.int p2), .val (.int p3), .val (.int (5 : Int32)), .val (.ref cs_), .val (.ref st), .unset, .unset] [(.ref t)])
      refine Go.by (fun _ gk => XS.astore X529.here hx rfl (hb hby at_74) rfl rfl (l' := #[.val (.int p0), .val (.int p1), .val (.int p2), .val (.int p3), .val (.int (5 : Int32)), .val (.ref cs_), .val (.ref st), .val (.ref t), .unset]) rfl gk) ?_
      show Go _ _ _ _ T529 (mkF m 76 #[.val (.int p0), .val (.int p1), .val (.int p2), .val (.int p3), .val (.int (5 : Int32)), .val (.ref cs_), .val (.ref st), .val (.ref t), .unset] [])
      refine Go.by (fun _ gk => XS.iload X529.here hx rfl (hb hby at_76) rfl gk) ?_
      show Go _ _ _ _ T529 (mkF m 78 #[.val (.int p0), .val (.int p1), .val (.int p2), .val (.int p3), .val (.int (5 : Int32)), .val (.ref cs_), .val (.ref st), .val (.ref t), .unset] [(.int (5 : Int32))])
      refine Go.by (fun _ gk => XT.iconstV X529.here hx rfl (3 : Int32) (hb hby at_78) (by decide) gk) ?_
      show Go _ _ _ _ T529 (mkF m 79 #[.val (.int p0), .val (.int p1), .val (.int p2), .val (.int p3), .val (.int (5 : Int32)), .val (.ref cs_), .val (.ref st), .val (.ref t), .unset] [(.int (3 : Int32)), (.int (5 : Int32))])
      refine Go.by (fun _ gk => XS.icmpNo X529.here hx rfl (hb hby at_79) rfl (XT.ii_eq_f (by decide)) gk) ?_
      show Go _ _ _ _ T529 (mkF m 82 #[.val (.int p0), .val (.int p1), .val (.int p2), .val (.int p3), .val (.int (5 : Int32)), .val (.ref cs_), .val (.ref st), .val (.ref t), .unset] [])
      refine Go.by (fun _ gk => XS.iload X529.here hx rfl (hb hby at_82) rfl gk) ?_
      show Go _ _ _ _ T529 (mkF m 84 #[.val (.int p0), .val (.int p1), .val (.int p2), .val (.int p3), .val (.int (5 : Int32)), .val (.ref cs_), .val (.ref st), .val (.ref t), .unset] [(.int (5 : Int32))])
      refine Go.by (fun _ gk => XT.iconstV X529.here hx rfl (4 : Int32) (hb hby at_84) (by decide) gk) ?_
      show Go _ _ _ _ T529 (mkF m 85 #[.val (.int p0), .val (.int p1), .val (.int p2), .val (.int p3), .val (.int (5 : Int32)), .val (.ref cs_), .val (.ref st), .val (.ref t), .unset] [(.int (4 : Int32)), (.int (5 : Int32))])
      refine Go.by (fun _ gk => XS.icmpYes X529.here hx rfl (pc0 := 85) (pc' := 92) rfl (hb hby at_85) rfl (XT.ii_ne_t (by decide)) (by decide) (by decide) gk) ?_
      show Go _ _ _ _ T529 (mkF m 92 #[.val (.int p0), .val (.int p1), .val (.int p2), .val (.int p3), .val (.int (5 : Int32)), .val (.ref cs_), .val (.ref st), .val (.ref t), .unset] [])
      refine Go.by (fun _ gk => XT.iconstV X529.here hx rfl (0 : Int32) (hb hby at_92) (by decide) gk) ?_
      show Go _ _ _ _ T529 (mkF m 93 #[.val (.int p0), .val (.int p1), .val (.int p2), .val (.int p3), .val (.int (5 : Int32)), .val (.ref cs_), .val (.ref st), .val (.ref t), .unset] [(.int (0 : Int32))])
      refine Go.by (fun _ gk => XS.istore X529.here hx rfl (hb hby at_93) rfl (l' := #[.val (.int p0), .val (.int p1), .val (.int p2), .val (.int p3), .val (.int (5 : Int32)), .val (.ref cs_), .val (.ref st), .val (.ref t), .val (.int (0 : Int32))]) rfl gk) ?_
      show Go _ _ _ _ T529 (mkF m 95 #[.val (.int p0), .val (.int p1), .val (.int p2), .val (.int p3), .val (.int (5 : Int32)), .val (.ref cs_), .val (.ref st), .val (.ref t), .val (.int (0 : Int32))] [])
      refine Go.by (fun _ gk => XS.aload X529.here hx rfl (hb hby at_95) rfl rfl gk) ?_
      show Go _ _ _ _ T529 (mkF m 97 #[.val (.int p0), .val (.int p1), .val (.int p2), .val (.int p3), .val (.int (5 : Int32)), .val (.ref cs_), .val (.ref st), .val (.ref t), .val (.int (0 : Int32))] [(.ref t)])
      have F533 : Old Z n0 T529.heap := F526.keep K529 (allS ge_t all0)
      have F534 : n0 ≤ T529.heap.size := Nat.le_trans F527 K529.1
      obtain ⟨cq535, kq535, q535a, q535b, q535c⟩ := isOf hZ501 rfl Q529_0
      obtain ⟨_, _, ⟨T535, L535, k535, n535⟩, -, X535, ⟨Lc535, hQ535, l535, y535, z535⟩, st535⟩ := X529.virtualBack hx (y := (⟨"com/example/attache/attache/query/Token", "isParameter", "()Z"⟩ : MethodName)) (z := (⟨"com/example/attache/attache/query/Token", "isParameter", "()Z"⟩ : MethodName)) hown501 (mvT hZ501 (hw _ (List.mem_of_getElem? (i := 56) rfl))) (mvT hZ501 (hw _ (List.mem_of_getElem? (i := 57) rfl))) (notFace_of_selects (args := #[]) (mvT hZ501 (hw _ (List.mem_of_getElem? (i := 59) rfl)))) (mvT hZ501 (hw _ (List.mem_of_getElem? (i := 59) rfl))) (mvT hZ501 (hw _ (List.mem_of_getElem? (i := 58) rfl))) (by decide) (backOf (W := 0) (rmIsP l Z a0 hw [] t c_SYMBOL (0 : Int32) c_WORD c_STRING c_NUMBER c_NAMED_PARAMETER c_POSITIONAL_PARAMETER c_SYMBOL c_END T529.heap n0 F534 F533 Q529_1 (Or.inr (Or.inr (Or.inr (Or.inr (Or.inr (Or.inl ⟨rfl, rfl⟩)))))) S_c_WORD E_c_WORD O_c_WORD S_c_STRING E_c_STRING O_c_STRING S_c_NUMBER E_c_NUMBER O_c_NUMBER S_c_NAMED_PARAMETER E_c_NAMED_PARAMETER O_c_NAMED_PARAMETER S_c_POSITIONAL_PARAMETER E_c_POSITIONAL_PARAMETER O_c_POSITIONAL_PARAMETER S_c_SYMBOL E_c_SYMBOL O_c_SYMBOL S_c_END E_c_END O_c_END) hZ501 (hw _ (List.mem_of_getElem? (i := 60) rfl)) (hw _ (List.mem_of_getElem? (i := 33) rfl)) (by decide) (by decide)) q535a q535c (g := (mkF m 97 #[.val (.int p0), .val (.int p1), .val (.int p2), .val (.int p3), .val (.int (5 : Int32)), .val (.ref cs_), .val (.ref st), .val (.ref t), .val (.int (0 : Int32))] [(.ref t)])) rfl (by rw [hml]; rfl) (Steps.refl _) (argsL := []) (rest := []) (lenOf pd_155 rfl) rfl (by show 2 * 0 + _ ≤ _; exact Nat.le_of_eq rfl) (hb hby at_97) (fun _ _ => ⟨rfl, rfl, (by decide : 4 + 0 ≤ _), (by decide : 9 + 0 ≤ _)⟩)
      dsimp only [Pt.U, Pt.locs, Pt.cells, Pt.slots] at X535 l535 y535 z535 st535 hQ535
      subst l535 y535 z535
      obtain ⟨rfl, N535q, e535⟩ := hQ535
      have N535 := Fr.app N529 N535q
      refine Go.to st535 ?_
      show Go _ _ _ _ T535 (mkF m 100 #[.val (.int p0), .val (.int p1), .val (.int p2), .val (.int p3), .val (.int (5 : Int32)), .val (.ref cs_), .val (.ref st), .val (.ref t), .val (.int (0 : Int32))] [(.int (0 : Int32))])
      refine Go.by (fun _ gk => XS.iload X535.here hx rfl (hb hby at_100) rfl gk) ?_
      show Go _ _ _ _ T535 (mkF m 102 #[.val (.int p0), .val (.int p1), .val (.int p2), .val (.int p3), .val (.int (5 : Int32)), .val (.ref cs_), .val (.ref st), .val (.ref t), .val (.int (0 : Int32))] [(.int (0 : Int32)), (.int (0 : Int32))])
      refine Go.by (fun _ gk => XS.icmpNo X535.here hx rfl (hb hby at_102) rfl (XT.ii_ne_f rfl) gk) ?_
      show Go _ _ _ _ T535 (mkF m 105 #[.val (.int p0), .val (.int p1), .val (.int p2), .val (.int p3), .val (.int (5 : Int32)), .val (.ref cs_), .val (.ref st), .val (.ref t), .val (.int (0 : Int32))] [])
      refine Go.by (fun _ gk => XT.iconstV X535.here hx rfl (1 : Int32) (hb hby at_105) (by decide) gk) ?_
      show Go _ _ _ _ T535 (mkF m 106 #[.val (.int p0), .val (.int p1), .val (.int p2), .val (.int p3), .val (.int (5 : Int32)), .val (.ref cs_), .val (.ref st), .val (.ref t), .val (.int (0 : Int32))] [(.int (1 : Int32))])
      refine Go.by (fun _ gk => XS.goto X535.here hx rfl (pc0 := 106) (pc' := 110) rfl (hb hby at_106) (by decide) (by decide) gk) ?_
      show Go _ _ _ _ T535 (mkF m 110 #[.val (.int p0), .val (.int p1), .val (.int p2), .val (.int p3), .val (.int (5 : Int32)), .val (.ref cs_), .val (.ref st), .val (.ref t), .val (.int (0 : Int32))] [(.int (1 : Int32))])
      have F536 : kq501 ≤ h509.size := Nat.le_trans hk501 E509.1
      have F537 : kq501 ≤ T529.heap.size := Nat.le_trans F536 K529.1
      exact Go.retIW X535 hx Bd.notSynchronized hS501 (by rw [e535]; exact F537) hZ501 hEL (by rw [hh, e535]; exact C530) Bd.returns rfl (by simp) (hb hby at_110) (by rw [e535]; exact ⟨rfl, N535⟩) (by decide) (by decide)
    · refine Go.by (fun _ gk => XS.ifNo X497.here hx rfl (hb hby at_40) rfl (XT.i0_eq_f hb500) gk) ?_
      show Go _ _ _ _ T497 (mkF m 43 #[.val (.int p0), .val (.int p1), .val (.int p2), .val (.int p3), .val (.int (5 : Int32)), .val (.ref cs_), .unset, .unset, .unset] [])
      have F539 : n0 ≤ h491.size := Nat.le_trans Z0 E491.1
      have F540 : n0 ≤ h494.size := Nat.le_trans F539 (Nat.le_of_eq (Wr.size W494).symm)
      have F541 : n0 ≤ h497.size := Nat.le_trans F540 (Nat.le_of_eq (Wr.size W497).symm)
      obtain ⟨st, g538⟩ : ∃ z, z = h497.size := ⟨_, rfl⟩
      have ge_st : n0 ≤ st := Nat.le_trans F541 (Nat.le_of_eq g538.symm)
      have F542 : Keep h0 h491 [] := (Keep.refl h0 []).ext E491
      have F543 : Keep h0 h494 [] := F542.wr W494 (Or.inr sz_cs_)
      have F544 : Keep h0 h497 [] := F543.wr W497 (Or.inr sz_cs_)
      have sz_st : h0.size ≤ st := Nat.le_trans F544.1 (Nat.le_of_eq g538.symm)
      have F545 : Exa Z h494 cs_ "[C" := Ea491.wr W494
      have F546 : Exa Z h497 cs_ "[C" := F545.wr W497
      have ne_cs__st : cs_ ≠ st := Nat.ne_of_lt (Nat.lt_of_lt_of_le F546.lt (Nat.le_of_eq g538.symm))
      obtain ⟨T538, h538, X538, e538, E538, A538, D538, -, st538⟩ := newO X497 hx hZ hown (hw _ (List.mem_of_getElem? (i := 2) rfl)) (hw _ (List.mem_of_getElem? (i := 3) rfl)) (hw _ (List.mem_of_getElem? (i := 4) rfl)) e497 (g := (mkF m 43 #[.val (.int p0), .val (.int p1), .val (.int p2), .val (.int p3), .val (.int (5 : Int32)), .val (.ref cs_), .unset, .unset, .unset] [])) rfl (hb hby at_43) (by decide) (by decide)
      rw [← g538] at A538 D538 st538
      have C547 : CHr Z own_EL s.vm h0 s.vm h538 := C498.trans (CHr.ext E538 C498.1)
      have Sf548 : Safe Z own_EL s.vm h538 cs_ := Safe.ext E538 C498.1 Sf499
      have Sf549 : Safe Z own_EL s.vm h538 st := Safe.ext E538 C498.1 (Safe.new (Nat.le_of_eq g538.symm))
      have F_coder_st : Fld Z h538 st "java/lang/String" "coder" "B" (.int (0 : Int32)) := D538 (Or.inr (hw _ (List.mem_of_getElem? (i := 28) rfl))) (ty := .byte) (by decide)
      have F_value_st : Fld Z h538 st "java/lang/String" "value" "[B" .null := D538 (Or.inr (hw _ (List.mem_of_getElem? (i := 30) rfl))) (ty := (.array .byte)) (by decide)
      refine Go.by st538 ?_
      show Go _ _ _ _ T538 (mkF m 46 #[.val (.int p0), .val (.int p1), .val (.int p2), .val (.int p3), .val (.int (5 : Int32)), .val (.ref cs_), .unset, .unset, .unset] [(.ref st)])
      refine Go.by (fun _ gk => XS.dup X538.here hx rfl (hb hby at_46) rfl rfl gk) ?_
      show Go _ _ _ _ T538 (mkF m 47 #[.val (.int p0), .val (.int p1), .val (.int p2), .val (.int p3), .val (.int (5 : Int32)), .val (.ref cs_), .unset, .unset, .unset] [(.ref st), (.ref st)])
      refine Go.by (fun _ gk => XS.aload X538.here hx rfl (hb hby at_47) rfl rfl gk) ?_
      show Go _ _ _ _ T538 (mkF m 49 #[.val (.int p0), .val (.int p1), .val (.int p2), .val (.int p3), .val (.int (5 : Int32)), .val (.ref cs_), .unset, .unset, .unset] [(.ref cs_), (.ref st), (.ref st)])
      have F550 : Old Z n0 h491 := O0.ext E491
      have F551 : Old Z n0 h494 := F550.wr W494 ge_cs_
      have F552 : Old Z n0 h497 := F551.wr W497 ge_cs_
      have F553 : Old Z n0 h538 := F552.ext E538
      have F554 : Arv Z h538 cs_ k491 .char (2 : Int32) [(.int (p1 &&& (255 : Int32))), (.int ((XT.ushr p1 (8 : Int32)) &&& (255 : Int32)))] (.int (0 : Int32)) := V497.ext E538
      have F555 : n0 ≤ h538.size := Nat.le_trans F541 E538.1
      have F556 : Keep h0 h538 [] := F544.ext E538
      have F557 : Exa Z h538 cs_ "[C" := F546.ext E538
      obtain ⟨_, _, ⟨T558, L558, k558, n558⟩, -, X558, ⟨Lc558, hQ558, l558, y558, z558⟩, st558⟩ := X538.specialBack hx (y := (⟨"java/lang/String", "<init>", "([C)V"⟩ : MethodName)) rfl hown (mvT hZ (hw _ (List.mem_of_getElem? (i := 5) rfl))) (mvT hZ (hw _ (List.mem_of_getElem? (i := 6) rfl))) (mvT hZ (hw _ (List.mem_of_getElem? (i := 7) rfl))) (by decide) (backOf (W := 1) (rmS1_2 l Z a0 hw [] st cs_ k491 (p1 &&& (255 : Int32)) ((XT.ushr p1 (8 : Int32)) &&& (255 : Int32)) cs h538 n0 F555 F553 A538 F_value_st F_coder_st ge_st F554 (own_255 _) (own_255 _) S_cs n_cs) hZ (hw _ (List.mem_of_getElem? (i := 7) rfl)) (hw _ (List.mem_of_getElem? (i := 4) rfl)) (by decide) (by decide)) (g := (mkF m 49 #[.val (.int p0), .val (.int p1), .val (.int p2), .val (.int p3), .val (.int (5 : Int32)), .val (.ref cs_), .unset, .unset, .unset] [(.ref cs_), (.ref st), (.ref st)])) rfl (by rw [hml]; rfl) (Steps.refl _) (a := st) (argsL := [(.ref cs_)]) (rest := [(.ref st)]) (lenOf pd_156 rfl) rfl (by show 2 * 0 + _ ≤ _; exact Nat.le_of_eq rfl) (hb hby at_49) (fun _ _ => ⟨rfl, e538, (by decide : 2 + 1 ≤ _), (by decide : 6 + 2 ≤ _)⟩)
      dsimp only [Pt.U, Pt.locs, Pt.cells, Pt.slots] at X558 l558 y558 z558 st558 hQ558
      subst l558 y558 z558
      obtain ⟨b_558, kb_558, rfl, N558q, K558, Q558_0, Q558_1, Q558_2, Q558_3, Q558_4⟩ := hQ558
      have N558 := Fr.app N497 N558q
      have C559 : CHr Z own_EL s.vm h0 s.vm T558.heap := C547.trans (CHr.keep K558 (sfS Sf549 sf0) C547.1)
      have Sf560 : Safe Z own_EL s.vm T558.heap cs_ := Safe.keep K558 (sfS Sf549 sf0) C547.1 Sf548
      have Sf561 : Safe Z own_EL s.vm T558.heap st := Safe.keep K558 (sfS Sf549 sf0) C547.1 Sf549
      refine Go.to st558 ?_
      show Go _ _ _ _ T558 (mkF m 52 #[.val (.int p0), .val (.int p1), .val (.int p2), .val (.int p3), .val (.int (5 : Int32)), .val (.ref cs_), .unset, .unset, .unset] [(.ref st)])
      have ge_b_558 : n0 ≤ b_558 := Nat.le_trans F555 Q558_4
      have sz_b_558 : h0.size ≤ b_558 := Nat.le_trans F556.1 Q558_4
      have ne_cs__b_558 : cs_ ≠ b_558 := Nat.ne_of_lt (Nat.lt_of_lt_of_le F554.lt Q558_4)
      have ne_st_b_558 : st ≠ b_558 := Nat.ne_of_lt (Nat.lt_of_lt_of_le A538.lt Q558_4)
      refine Go.by (fun _ gk => XS.goto X558.here hx rfl (pc0 := 52) (pc' := 57) rfl (hb hby at_52) (by decide) (by decide) gk) ?_
      show Go _ _ _ _ T558 (mkF m 57 #[.val (.int p0), .val (.int p1), .val (.int p2), .val (.int p3), .val (.int (5 : Int32)), .val (.ref cs_), .unset, .unset, .unset] [(.ref st)])
      refine Go.by (fun _ gk => XS.astore X558.here hx rfl (hb hby at_57) rfl rfl (l' := #[.val (.int p0), .val (.int p1), .val (.int p2), .val (.int p3), .val (.int (5 : Int32)), .val (.ref cs_), .val (.ref st), .unset, .unset]) rfl gk) ?_
      show Go _ _ _ _ T558 (mkF m 59 #[.val (.int p0), .val (.int p1), .val (.int p2), .val (.int p3), .val (.int (5 : Int32)), .val (.ref cs_), .val (.ref st), .unset, .unset] [])
      have F563 : n0 ≤ T558.heap.size := Nat.le_trans F555 K558.1
      obtain ⟨t, g562⟩ : ∃ z, z = T558.heap.size := ⟨_, rfl⟩
      have ge_t : n0 ≤ t := Nat.le_trans F563 (Nat.le_of_eq g562.symm)
      have F564 : Keep h0 T558.heap [] := F556.trans K558 (allS (Or.inr sz_st) all0)
      have sz_t : h0.size ≤ t := Nat.le_trans F564.1 (Nat.le_of_eq g562.symm)
      have ne_b_558_t : b_558 ≠ t := Nat.ne_of_lt (Nat.lt_of_lt_of_le Q558_3.lt (Nat.le_of_eq g562.symm))
      have F565 : Exa Z T558.heap cs_ "[C" := F557.keep K558
      have ne_cs__t : cs_ ≠ t := Nat.ne_of_lt (Nat.lt_of_lt_of_le F565.lt (Nat.le_of_eq g562.symm))
      have ne_st_t : st ≠ t := Nat.ne_of_lt (Nat.lt_of_lt_of_le Q558_0.lt (Nat.le_of_eq g562.symm))
      obtain ⟨T562, h562, X562, e562, E562, A562, D562, -, st562⟩ := newO X558 hx hZ hown (hw _ (List.mem_of_getElem? (i := 31) rfl)) (hw _ (List.mem_of_getElem? (i := 32) rfl)) (hw _ (List.mem_of_getElem? (i := 33) rfl)) rfl (g := (mkF m 59 #[.val (.int p0), .val (.int p1), .val (.int p2), .val (.int p3), .val (.int (5 : Int32)), .val (.ref cs_), .val (.ref st), .unset, .unset] [])) rfl (hb hby at_59) (by decide) (by decide)
      rw [← g562] at A562 D562 st562
      have C566 : CHr Z own_EL s.vm h0 s.vm h562 := C559.trans (CHr.ext E562 C559.1)
      have Sf567 : Safe Z own_EL s.vm h562 cs_ := Safe.ext E562 C559.1 Sf560
      have Sf568 : Safe Z own_EL s.vm h562 st := Safe.ext E562 C559.1 Sf561
      have Sf569 : Safe Z own_EL s.vm h562 t := Safe.ext E562 C559.1 (Safe.new (Nat.le_of_eq g562.symm))
      have F_kind_t : Fld Z h562 t "com/example/attache/attache/query/Token" "kind" "Lcom/example/attache/attache/query/Token$Kind;" .null := D562 (Or.inr (hw _ (List.mem_of_getElem? (i := 51) rfl))) (ty := (.object "com/example/attache/attache/query/Token$Kind")) (by decide)
      have F_text_t : Fld Z h562 t "com/example/attache/attache/query/Token" "text" "Ljava/lang/String;" .null := D562 (Or.inr (hw _ (List.mem_of_getElem? (i := 53) rfl))) (ty := (.object "java/lang/String")) (by decide)
      have F_position_t : Fld Z h562 t "com/example/attache/attache/query/Token" "position" "I" (.int (0 : Int32)) := D562 (Or.inr (hw _ (List.mem_of_getElem? (i := 55) rfl))) (ty := .int) (by decide)
      refine Go.by st562 ?_
      show Go _ _ _ _ T562 (mkF m 62 #[.val (.int p0), .val (.int p1), .val (.int p2), .val (.int p3), .val (.int (5 : Int32)), .val (.ref cs_), .val (.ref st), .unset, .unset] [(.ref t)])
      refine Go.by (fun _ gk => XS.dup X562.here hx rfl (hb hby at_62) rfl rfl gk) ?_
      show Go _ _ _ _ T562 (mkF m 63 #[.val (.int p0), .val (.int p1), .val (.int p2), .val (.int p3), .val (.int (5 : Int32)), .val (.ref cs_), .val (.ref st), .unset, .unset] [(.ref t), (.ref t)])
      refine Go.by (fun _ gk => XS.iload X562.here hx rfl (hb hby at_63) rfl gk) ?_
      show Go _ _ _ _ T562 (mkF m 65 #[.val (.int p0), .val (.int p1), .val (.int p2), .val (.int p3), .val (.int (5 : Int32)), .val (.ref cs_), .val (.ref st), .unset, .unset] [(.int (5 : Int32)), (.ref t), (.ref t)])
      have F570 : Old Z n0 T558.heap := F553.keep K558 (allS ge_st all0)
      have F571 : Old Z n0 h562 := F570.ext E562
      have F572 : n0 ≤ h562.size := Nat.le_trans F563 E562.1
      obtain ⟨_, _, ⟨T573, L573, k573, n573⟩, -, X573, ⟨Lc573, hQ573, l573, y573, z573⟩, st573⟩ := Jvm.LawKit.callS X562 hx (y := (⟨"com/example/attache/attache/query/TokenIsParameterPinLaw", "kindOf", "(I)Lcom/example/attache/attache/query/Token$Kind;"⟩ : MethodName)) hown (mvT hZ (hw _ (List.mem_of_getElem? (i := 34) rfl))) (mvT hZ (hw _ (List.mem_of_getElem? (i := 35) rfl))) (mvT hZ (hw _ (List.mem_of_getElem? (i := 36) rfl))) (mvT hZ (hw _ (List.mem_of_getElem? (i := 37) rfl))) (by decide) (backOf (W := 2) (rmKind l Z a0 hw [] (5 : Int32) c_SYMBOL c_WORD c_STRING c_NUMBER c_NAMED_PARAMETER c_POSITIONAL_PARAMETER c_SYMBOL c_END h562 n0 F572 F571 (Or.inr (Or.inr (Or.inr (Or.inr (Or.inr (Or.inl ⟨rfl, rfl⟩)))))) S_c_WORD E_c_WORD O_c_WORD S_c_STRING E_c_STRING O_c_STRING S_c_NUMBER E_c_NUMBER O_c_NUMBER S_c_NAMED_PARAMETER E_c_NAMED_PARAMETER O_c_NAMED_PARAMETER S_c_POSITIONAL_PARAMETER E_c_POSITIONAL_PARAMETER O_c_POSITIONAL_PARAMETER S_c_SYMBOL E_c_SYMBOL O_c_SYMBOL S_c_END E_c_END O_c_END) hZ (hw _ (List.mem_of_getElem? (i := 37) rfl)) (hw _ (List.mem_of_getElem? (i := 36) rfl)) (by decide) (by decide)) (g := (mkF m 65 #[.val (.int p0), .val (.int p1), .val (.int p2), .val (.int p3), .val (.int (5 : Int32)), .val (.ref cs_), .val (.ref st), .unset, .unset] [(.int (5 : Int32)), (.ref t), (.ref t)])) rfl (by rw [hml]; rfl) (argsL := [(.int (5 : Int32))]) (rest := [(.ref t), (.ref t)]) (lenOf pd_153 rfl) rfl (by show 2 * 0 + _ ≤ _; exact Nat.le_of_eq rfl) (hb hby at_65) (fun _ _ => ⟨rfl, e562, (by decide : 4 + 0 ≤ _), (by decide : 11 + 0 ≤ _)⟩)
      dsimp only [Pt.U, Pt.locs, Pt.cells, Pt.slots] at X573 l573 y573 z573 st573 hQ573
      subst l573 y573 z573
      obtain ⟨rfl, N573q, e573⟩ := hQ573
      have N573 := Fr.app N558 N573q
      refine Go.by st573 ?_
      show Go _ _ _ _ T573 (mkF m 68 #[.val (.int p0), .val (.int p1), .val (.int p2), .val (.int p3), .val (.int (5 : Int32)), .val (.ref cs_), .val (.ref st), .unset, .unset] [(.ref c_SYMBOL), (.ref t), (.ref t)])
      refine Go.by (fun _ gk => XS.aload X573.here hx rfl (hb hby at_68) rfl rfl gk) ?_
      show Go _ _ _ _ T573 (mkF m 70 #[.val (.int p0), .val (.int p1), .val (.int p2), .val (.int p3), .val (.int (5 : Int32)), .val (.ref cs_), .val (.ref st), .unset, .unset] [(.ref st), (.ref c_SYMBOL), (.ref t), (.ref t)])
      refine Go.by (fun _ gk => XS.iloadN X573.here hx rfl (hb hby at_70) rfl gk) ?_
      show Go _ _ _ _ T573 (mkF m 71 #[.val (.int p0), .val (.int p1), .val (.int p2), .val (.int p3), .val (.int (5 : Int32)), .val (.ref cs_), .val (.ref st), .unset, .unset] [(.int p2), (.ref st), (.ref c_SYMBOL), (.ref t), (.ref t)])
      obtain ⟨_, _, ⟨T574, L574, k574, n574⟩, -, X574, ⟨Lc574, hQ574, l574, y574, z574⟩, st574⟩ := X573.specialBack hx (y := (⟨"com/example/attache/attache/query/Token", "<init>", "(Lcom/example/attache/attache/query/Token$Kind;Ljava/lang/String;I)V"⟩ : MethodName)) rfl hown (mvT hZ (hw _ (List.mem_of_getElem? (i := 41) rfl))) (mvT hZ (hw _ (List.mem_of_getElem? (i := 42) rfl))) (mvT hZ (hw _ (List.mem_of_getElem? (i := 43) rfl))) (by decide) (backOf (W := 1) (rmToken l Z a0 hw [] t c_SYMBOL st p2 h562 n0 F572 A562 F_kind_t F_text_t F_position_t ge_t) hZ (hw _ (List.mem_of_getElem? (i := 43) rfl)) (hw _ (List.mem_of_getElem? (i := 33) rfl)) (by decide) (by decide)) (g := (mkF m 71 #[.val (.int p0), .val (.int p1), .val (.int p2), .val (.int p3), .val (.int (5 : Int32)), .val (.ref cs_), .val (.ref st), .unset, .unset] [(.int p2), (.ref st), (.ref c_SYMBOL), (.ref t), (.ref t)])) rfl (by rw [hml]; rfl) (Steps.refl _) (a := t) (argsL := [(.ref c_SYMBOL), (.ref st), (.int p2)]) (rest := [(.ref t)]) (lenOf pd_154 rfl) rfl (by show 2 * 0 + _ ≤ _; exact Nat.le_of_eq rfl) (hb hby at_71) (fun _ _ => ⟨rfl, e573, (by decide : 4 + 0 ≤ _), (by decide : 11 + 0 ≤ _)⟩)
      dsimp only [Pt.U, Pt.locs, Pt.cells, Pt.slots] at X574 l574 y574 z574 st574 hQ574
      subst l574 y574 z574
      obtain ⟨rfl, N574q, K574, Q574_0, Q574_1⟩ := hQ574
      have N574 := Fr.app N573 N574q
      have C575 : CHr Z own_EL s.vm h0 s.vm T574.heap := C566.trans (CHr.keep K574 (sfS Sf569 sf0) C566.1)
      have Sf576 : Safe Z own_EL s.vm T574.heap cs_ := Safe.keep K574 (sfS Sf569 sf0) C566.1 Sf567
      have Sf577 : Safe Z own_EL s.vm T574.heap st := Safe.keep K574 (sfS Sf569 sf0) C566.1 Sf568
      have Sf578 : Safe Z own_EL s.vm T574.heap t := Safe.keep K574 (sfS Sf569 sf0) C566.1 Sf569
      refine Go.to st574 ?_
      show Go _ _ _ _ T574 (mkF m 74 #[.val (.int p0), .val (.int p1), .val (.int p2), .val (.int p3), .val (.int (5 : Int32)), .val (.ref cs_), .val (.ref st), .unset, .unset] [(.ref t)])
      refine Go.by (fun _ gk => XS.astore X574.here hx rfl (hb hby at_74) rfl rfl (l' := #[.val (.int p0), .val (.int p1), .val (.int p2), .val (.int p3), .val (.int (5 : Int32)), .val (.ref cs_), .val (.ref st), .val (.ref t), .unset]) rfl gk) ?_
      show Go _ _ _ _ T574 (mkF m 76 #[.val (.int p0), .val (.int p1), .val (.int p2), .val (.int p3), .val (.int (5 : Int32)), .val (.ref cs_), .val (.ref st), .val (.ref t), .unset] [])
      refine Go.by (fun _ gk => XS.iload X574.here hx rfl (hb hby at_76) rfl gk) ?_
      show Go _ _ _ _ T574 (mkF m 78 #[.val (.int p0), .val (.int p1), .val (.int p2), .val (.int p3), .val (.int (5 : Int32)), .val (.ref cs_), .val (.ref st), .val (.ref t), .unset] [(.int (5 : Int32))])
      refine Go.by (fun _ gk => XT.iconstV X574.here hx rfl (3 : Int32) (hb hby at_78) (by decide) gk) ?_
      show Go _ _ _ _ T574 (mkF m 79 #[.val (.int p0), .val (.int p1), .val (.int p2), .val (.int p3), .val (.int (5 : Int32)), .val (.ref cs_), .val (.ref st), .val (.ref t), .unset] [(.int (3 : Int32)), (.int (5 : Int32))])
      refine Go.by (fun _ gk => XS.icmpNo X574.here hx rfl (hb hby at_79) rfl (XT.ii_eq_f (by decide)) gk) ?_
      show Go _ _ _ _ T574 (mkF m 82 #[.val (.int p0), .val (.int p1), .val (.int p2), .val (.int p3), .val (.int (5 : Int32)), .val (.ref cs_), .val (.ref st), .val (.ref t), .unset] [])
      refine Go.by (fun _ gk => XS.iload X574.here hx rfl (hb hby at_82) rfl gk) ?_
      show Go _ _ _ _ T574 (mkF m 84 #[.val (.int p0), .val (.int p1), .val (.int p2), .val (.int p3), .val (.int (5 : Int32)), .val (.ref cs_), .val (.ref st), .val (.ref t), .unset] [(.int (5 : Int32))])
      refine Go.by (fun _ gk => XT.iconstV X574.here hx rfl (4 : Int32) (hb hby at_84) (by decide) gk) ?_
      show Go _ _ _ _ T574 (mkF m 85 #[.val (.int p0), .val (.int p1), .val (.int p2), .val (.int p3), .val (.int (5 : Int32)), .val (.ref cs_), .val (.ref st), .val (.ref t), .unset] [(.int (4 : Int32)), (.int (5 : Int32))])
      refine Go.by (fun _ gk => XS.icmpYes X574.here hx rfl (pc0 := 85) (pc' := 92) rfl (hb hby at_85) rfl (XT.ii_ne_t (by decide)) (by decide) (by decide) gk) ?_
      show Go _ _ _ _ T574 (mkF m 92 #[.val (.int p0), .val (.int p1), .val (.int p2), .val (.int p3), .val (.int (5 : Int32)), .val (.ref cs_), .val (.ref st), .val (.ref t), .unset] [])
      refine Go.by (fun _ gk => XT.iconstV X574.here hx rfl (0 : Int32) (hb hby at_92) (by decide) gk) ?_
      show Go _ _ _ _ T574 (mkF m 93 #[.val (.int p0), .val (.int p1), .val (.int p2), .val (.int p3), .val (.int (5 : Int32)), .val (.ref cs_), .val (.ref st), .val (.ref t), .unset] [(.int (0 : Int32))])
      refine Go.by (fun _ gk => XS.istore X574.here hx rfl (hb hby at_93) rfl (l' := #[.val (.int p0), .val (.int p1), .val (.int p2), .val (.int p3), .val (.int (5 : Int32)), .val (.ref cs_), .val (.ref st), .val (.ref t), .val (.int (0 : Int32))]) rfl gk) ?_
      show Go _ _ _ _ T574 (mkF m 95 #[.val (.int p0), .val (.int p1), .val (.int p2), .val (.int p3), .val (.int (5 : Int32)), .val (.ref cs_), .val (.ref st), .val (.ref t), .val (.int (0 : Int32))] [])
      refine Go.by (fun _ gk => XS.aload X574.here hx rfl (hb hby at_95) rfl rfl gk) ?_
      show Go _ _ _ _ T574 (mkF m 97 #[.val (.int p0), .val (.int p1), .val (.int p2), .val (.int p3), .val (.int (5 : Int32)), .val (.ref cs_), .val (.ref st), .val (.ref t), .val (.int (0 : Int32))] [(.ref t)])
      have F579 : Old Z n0 T574.heap := F571.keep K574 (allS ge_t all0)
      have F580 : n0 ≤ T574.heap.size := Nat.le_trans F572 K574.1
      obtain ⟨cq581, kq581, q581a, q581b, q581c⟩ := isOf hZ rfl Q574_0
      obtain ⟨_, _, ⟨T581, L581, k581, n581⟩, -, X581, ⟨Lc581, hQ581, l581, y581, z581⟩, st581⟩ := X574.virtualBack hx (y := (⟨"com/example/attache/attache/query/Token", "isParameter", "()Z"⟩ : MethodName)) (z := (⟨"com/example/attache/attache/query/Token", "isParameter", "()Z"⟩ : MethodName)) hown (mvT hZ (hw _ (List.mem_of_getElem? (i := 56) rfl))) (mvT hZ (hw _ (List.mem_of_getElem? (i := 57) rfl))) (notFace_of_selects (args := #[]) (mvT hZ (hw _ (List.mem_of_getElem? (i := 59) rfl)))) (mvT hZ (hw _ (List.mem_of_getElem? (i := 59) rfl))) (mvT hZ (hw _ (List.mem_of_getElem? (i := 58) rfl))) (by decide) (backOf (W := 0) (rmIsP l Z a0 hw [] t c_SYMBOL (0 : Int32) c_WORD c_STRING c_NUMBER c_NAMED_PARAMETER c_POSITIONAL_PARAMETER c_SYMBOL c_END T574.heap n0 F580 F579 Q574_1 (Or.inr (Or.inr (Or.inr (Or.inr (Or.inr (Or.inl ⟨rfl, rfl⟩)))))) S_c_WORD E_c_WORD O_c_WORD S_c_STRING E_c_STRING O_c_STRING S_c_NUMBER E_c_NUMBER O_c_NUMBER S_c_NAMED_PARAMETER E_c_NAMED_PARAMETER O_c_NAMED_PARAMETER S_c_POSITIONAL_PARAMETER E_c_POSITIONAL_PARAMETER O_c_POSITIONAL_PARAMETER S_c_SYMBOL E_c_SYMBOL O_c_SYMBOL S_c_END E_c_END O_c_END) hZ (hw _ (List.mem_of_getElem? (i := 60) rfl)) (hw _ (List.mem_of_getElem? (i := 33) rfl)) (by decide) (by decide)) q581a q581c (g := (mkF m 97 #[.val (.int p0), .val (.int p1), .val (.int p2), .val (.int p3), .val (.int (5 : Int32)), .val (.ref cs_), .val (.ref st), .val (.ref t), .val (.int (0 : Int32))] [(.ref t)])) rfl (by rw [hml]; rfl) (Steps.refl _) (argsL := []) (rest := []) (lenOf pd_155 rfl) rfl (by show 2 * 0 + _ ≤ _; exact Nat.le_of_eq rfl) (hb hby at_97) (fun _ _ => ⟨rfl, rfl, (by decide : 4 + 0 ≤ _), (by decide : 11 + 0 ≤ _)⟩)
      dsimp only [Pt.U, Pt.locs, Pt.cells, Pt.slots] at X581 l581 y581 z581 st581 hQ581
      subst l581 y581 z581
      obtain ⟨rfl, N581q, e581⟩ := hQ581
      have N581 := Fr.app N574 N581q
      refine Go.to st581 ?_
      show Go _ _ _ _ T581 (mkF m 100 #[.val (.int p0), .val (.int p1), .val (.int p2), .val (.int p3), .val (.int (5 : Int32)), .val (.ref cs_), .val (.ref st), .val (.ref t), .val (.int (0 : Int32))] [(.int (0 : Int32))])
      refine Go.by (fun _ gk => XS.iload X581.here hx rfl (hb hby at_100) rfl gk) ?_
      show Go _ _ _ _ T581 (mkF m 102 #[.val (.int p0), .val (.int p1), .val (.int p2), .val (.int p3), .val (.int (5 : Int32)), .val (.ref cs_), .val (.ref st), .val (.ref t), .val (.int (0 : Int32))] [(.int (0 : Int32)), (.int (0 : Int32))])
      refine Go.by (fun _ gk => XS.icmpNo X581.here hx rfl (hb hby at_102) rfl (XT.ii_ne_f rfl) gk) ?_
      show Go _ _ _ _ T581 (mkF m 105 #[.val (.int p0), .val (.int p1), .val (.int p2), .val (.int p3), .val (.int (5 : Int32)), .val (.ref cs_), .val (.ref st), .val (.ref t), .val (.int (0 : Int32))] [])
      refine Go.by (fun _ gk => XT.iconstV X581.here hx rfl (1 : Int32) (hb hby at_105) (by decide) gk) ?_
      show Go _ _ _ _ T581 (mkF m 106 #[.val (.int p0), .val (.int p1), .val (.int p2), .val (.int p3), .val (.int (5 : Int32)), .val (.ref cs_), .val (.ref st), .val (.ref t), .val (.int (0 : Int32))] [(.int (1 : Int32))])
      refine Go.by (fun _ gk => XS.goto X581.here hx rfl (pc0 := 106) (pc' := 110) rfl (hb hby at_106) (by decide) (by decide) gk) ?_
      show Go _ _ _ _ T581 (mkF m 110 #[.val (.int p0), .val (.int p1), .val (.int p2), .val (.int p3), .val (.int (5 : Int32)), .val (.ref cs_), .val (.ref st), .val (.ref t), .val (.int (0 : Int32))] [(.int (1 : Int32))])
      have F582 : s.heap.size ≤ h491.size := Nat.le_trans hk0 E491.1
      have F583 : s.heap.size ≤ h494.size := Nat.le_trans F582 (Nat.le_of_eq (Wr.size W494).symm)
      have F584 : s.heap.size ≤ h497.size := Nat.le_trans F583 (Nat.le_of_eq (Wr.size W497).symm)
      have F585 : s.heap.size ≤ h538.size := Nat.le_trans F584 E538.1
      have F586 : s.heap.size ≤ T558.heap.size := Nat.le_trans F585 K558.1
      have F587 : s.heap.size ≤ h562.size := Nat.le_trans F586 E562.1
      have F588 : s.heap.size ≤ T574.heap.size := Nat.le_trans F587 K574.1
      exact Go.retIW X581 hx Bd.notSynchronized hS0 (by rw [e581]; exact F588) hZ hEL (by rw [hh, e581]; exact C575) Bd.returns rfl (by simp) (hb hby at_110) (by rw [e581]; exact ⟨rfl, N581⟩) (by decide) (by decide)
  · show Go _ _ _ _ s₁ (mkF m 9 #[.val (.int p0), .val (.int p1), .val (.int p2), .val (.int p3), .val (.int (6 : Int32)), .unset, .unset, .unset, .unset] [])
    refine Go.by (fun _ gk => XT.iconstV X0.here hx rfl (2 : Int32) (hb hby at_9) (by decide) gk) ?_
    show Go _ _ _ _ s₁ (mkF m 10 #[.val (.int p0), .val (.int p1), .val (.int p2), .val (.int p3), .val (.int (6 : Int32)), .unset, .unset, .unset, .unset] [(.int (2 : Int32))])
    obtain ⟨cs_, g589⟩ : ∃ z, z = h0.size := ⟨_, rfl⟩
    have ge_cs_ : n0 ≤ cs_ := Nat.le_trans Z0 (Nat.le_of_eq g589.symm)
    have sz_cs_ : h0.size ≤ cs_ := Nat.le_trans (Keep.refl h0 []).1 (Nat.le_of_eq g589.symm)
    obtain ⟨T589, h589, k589, X589, e589, E589, A589, Ea589, st589⟩ := newPE X0 hx hZ (hw _ (List.mem_of_getElem? (i := 1) rfl)) e0 (g := (mkF m 10 #[.val (.int p0), .val (.int p1), .val (.int p2), .val (.int p3), .val (.int (6 : Int32)), .unset, .unset, .unset, .unset] [(.int (2 : Int32))])) rfl (hb hby at_10) rfl (by decide) (cap := 2) (by decide) (by decide) (by decide) (by decide) (ad := "[C") rfl
    rw [← g589] at A589 Ea589 st589
    have C590 : CHr Z own_EL s.vm h0 s.vm h589 := C0.trans (CHr.ext E589 C0.1)
    have Sf591 : Safe Z own_EL s.vm h589 cs_ := Safe.ext E589 C0.1 (Safe.new (Nat.le_of_eq g589.symm))
    have V_cs_ : Arv Z h589 cs_ k589 .char (2 : Int32) [(.int (0 : Int32)), (.int (0 : Int32))] (.int (0 : Int32)) := (Arv.new A589 (by decide)).pad (pad_rep [] (.int (0 : Int32)) 2)
    refine Go.by st589 ?_
    show Go _ _ _ _ T589 (mkF m 12 #[.val (.int p0), .val (.int p1), .val (.int p2), .val (.int p3), .val (.int (6 : Int32)), .unset, .unset, .unset, .unset] [(.ref cs_)])
    refine Go.by (fun _ gk => XS.astore X589.here hx rfl (hb hby at_12) rfl rfl (l' := #[.val (.int p0), .val (.int p1), .val (.int p2), .val (.int p3), .val (.int (6 : Int32)), .val (.ref cs_), .unset, .unset, .unset]) rfl gk) ?_
    show Go _ _ _ _ T589 (mkF m 14 #[.val (.int p0), .val (.int p1), .val (.int p2), .val (.int p3), .val (.int (6 : Int32)), .val (.ref cs_), .unset, .unset, .unset] [])
    refine Go.by (fun _ gk => XS.aload X589.here hx rfl (hb hby at_14) rfl rfl gk) ?_
    show Go _ _ _ _ T589 (mkF m 16 #[.val (.int p0), .val (.int p1), .val (.int p2), .val (.int p3), .val (.int (6 : Int32)), .val (.ref cs_), .unset, .unset, .unset] [(.ref cs_)])
    refine Go.by (fun _ gk => XT.iconstV X589.here hx rfl (0 : Int32) (hb hby at_16) (by decide) gk) ?_
    show Go _ _ _ _ T589 (mkF m 17 #[.val (.int p0), .val (.int p1), .val (.int p2), .val (.int p3), .val (.int (6 : Int32)), .val (.ref cs_), .unset, .unset, .unset] [(.int (0 : Int32)), (.ref cs_)])
    refine Go.by (fun _ gk => XS.iloadN X589.here hx rfl (hb hby at_17) rfl gk) ?_
    show Go _ _ _ _ T589 (mkF m 18 #[.val (.int p0), .val (.int p1), .val (.int p2), .val (.int p3), .val (.int (6 : Int32)), .val (.ref cs_), .unset, .unset, .unset] [(.int p1), (.int (0 : Int32)), (.ref cs_)])
    refine Go.by (fun _ gk => XT.sipushV X589.here hx rfl (255 : Int32) (hb hby at_18) (by decide) gk) ?_
    show Go _ _ _ _ T589 (mkF m 21 #[.val (.int p0), .val (.int p1), .val (.int p2), .val (.int p3), .val (.int (6 : Int32)), .val (.ref cs_), .unset, .unset, .unset] [(.int (255 : Int32)), (.int p1), (.int (0 : Int32)), (.ref cs_)])
    refine Go.by (fun _ gk => XS.iand X589.here hx rfl (hb hby at_21) rfl gk) ?_
    show Go _ _ _ _ T589 (mkF m 22 #[.val (.int p0), .val (.int p1), .val (.int p2), .val (.int p3), .val (.int (6 : Int32)), .val (.ref cs_), .unset, .unset, .unset] [(.int (p1 &&& (255 : Int32))), (.int (0 : Int32)), (.ref cs_)])
    refine Go.by (fun _ gk => XT.i2c X589.here hx rfl (hb hby at_22) rfl gk) ?_
    show Go _ _ _ _ T589 (mkF m 23 #[.val (.int p0), .val (.int p1), .val (.int p2), .val (.int p3), .val (.int (6 : Int32)), .val (.ref cs_), .unset, .unset, .unset] [(.int ((p1 &&& (255 : Int32)).toUInt32.toUInt16.toUInt32.toInt32)), (.int (0 : Int32)), (.ref cs_)])
    rw [i2c_mask]
    show Go _ _ _ _ T589 (mkF m 23 #[.val (.int p0), .val (.int p1), .val (.int p2), .val (.int p3), .val (.int (6 : Int32)), .val (.ref cs_), .unset, .unset, .unset] [(.int (p1 &&& (255 : Int32))), (.int (0 : Int32)), (.ref cs_)])
    obtain ⟨cl592, Ar592, q592, S592, M592, H592, G592⟩ := id V_cs_
    have hin592 : ¬ ((0 : Int32) < 0 ∨ cl592.slots.size ≤ (0 : Int32).toNatClampNeg) := inb_of S592 ⟨by decide, by decide⟩
    obtain ⟨T592, h592, X592, e592, W592, st592⟩ := stC X589 hx hZ e589 Ar592 (j := (0 : Int32)) hin592 (g := (mkF m 23 #[.val (.int p0), .val (.int p1), .val (.int p2), .val (.int p3), .val (.int (6 : Int32)), .val (.ref cs_), .unset, .unset, .unset] [(.int (p1 &&& (255 : Int32))), (.int (0 : Int32)), (.ref cs_)])) rfl rfl (hb hby at_23)
    have C593 : CHr Z own_EL s.vm h0 s.vm h592 := C590.trans (CHr.wr W592 Sf591 C590.1)
    have Sf594 : Safe Z own_EL s.vm h592 cs_ := Safe.wr W592 Sf591 C590.1 Sf591
    have N592 := Fr.snoc X592 N0 ge_cs_
    have V592 : Arv Z h592 cs_ k589 .char (2 : Int32) [(.int (nar .char (p1 &&& (255 : Int32)))), (.int (0 : Int32))] (.int (0 : Int32)) := Arv.set Ar592 q592 S592 M592 H592 G592 (fits_nar_char _) W592 0 rfl (Nat.le_of_ble_eq_true rfl)
    refine Go.by st592 ?_
    show Go _ _ _ _ T592 (mkF m 24 #[.val (.int p0), .val (.int p1), .val (.int p2), .val (.int p3), .val (.int (6 : Int32)), .val (.ref cs_), .unset, .unset, .unset] [])
    rw [own_nc] at V592
    refine Go.by (fun _ gk => XS.aload X592.here hx rfl (hb hby at_24) rfl rfl gk) ?_
    show Go _ _ _ _ T592 (mkF m 26 #[.val (.int p0), .val (.int p1), .val (.int p2), .val (.int p3), .val (.int (6 : Int32)), .val (.ref cs_), .unset, .unset, .unset] [(.ref cs_)])
    refine Go.by (fun _ gk => XT.iconstV X592.here hx rfl (1 : Int32) (hb hby at_26) (by decide) gk) ?_
    show Go _ _ _ _ T592 (mkF m 27 #[.val (.int p0), .val (.int p1), .val (.int p2), .val (.int p3), .val (.int (6 : Int32)), .val (.ref cs_), .unset, .unset, .unset] [(.int (1 : Int32)), (.ref cs_)])
    refine Go.by (fun _ gk => XS.iloadN X592.here hx rfl (hb hby at_27) rfl gk) ?_
    show Go _ _ _ _ T592 (mkF m 28 #[.val (.int p0), .val (.int p1), .val (.int p2), .val (.int p3), .val (.int (6 : Int32)), .val (.ref cs_), .unset, .unset, .unset] [(.int p1), (.int (1 : Int32)), (.ref cs_)])
    refine Go.by (fun _ gk => XT.bipushV X592.here hx rfl (8 : Int32) (hb hby at_28) (by decide) gk) ?_
    show Go _ _ _ _ T592 (mkF m 30 #[.val (.int p0), .val (.int p1), .val (.int p2), .val (.int p3), .val (.int (6 : Int32)), .val (.ref cs_), .unset, .unset, .unset] [(.int (8 : Int32)), (.int p1), (.int (1 : Int32)), (.ref cs_)])
    refine Go.by (fun _ gk => XT.iushr X592.here hx rfl (hb hby at_30) rfl gk) ?_
    show Go _ _ _ _ T592 (mkF m 31 #[.val (.int p0), .val (.int p1), .val (.int p2), .val (.int p3), .val (.int (6 : Int32)), .val (.ref cs_), .unset, .unset, .unset] [(.int (XT.ushr p1 (8 : Int32))), (.int (1 : Int32)), (.ref cs_)])
    refine Go.by (fun _ gk => XT.sipushV X592.here hx rfl (255 : Int32) (hb hby at_31) (by decide) gk) ?_
    show Go _ _ _ _ T592 (mkF m 34 #[.val (.int p0), .val (.int p1), .val (.int p2), .val (.int p3), .val (.int (6 : Int32)), .val (.ref cs_), .unset, .unset, .unset] [(.int (255 : Int32)), (.int (XT.ushr p1 (8 : Int32))), (.int (1 : Int32)), (.ref cs_)])
    refine Go.by (fun _ gk => XS.iand X592.here hx rfl (hb hby at_34) rfl gk) ?_
    show Go _ _ _ _ T592 (mkF m 35 #[.val (.int p0), .val (.int p1), .val (.int p2), .val (.int p3), .val (.int (6 : Int32)), .val (.ref cs_), .unset, .unset, .unset] [(.int ((XT.ushr p1 (8 : Int32)) &&& (255 : Int32))), (.int (1 : Int32)), (.ref cs_)])
    refine Go.by (fun _ gk => XT.i2c X592.here hx rfl (hb hby at_35) rfl gk) ?_
    show Go _ _ _ _ T592 (mkF m 36 #[.val (.int p0), .val (.int p1), .val (.int p2), .val (.int p3), .val (.int (6 : Int32)), .val (.ref cs_), .unset, .unset, .unset] [(.int (((XT.ushr p1 (8 : Int32)) &&& (255 : Int32)).toUInt32.toUInt16.toUInt32.toInt32)), (.int (1 : Int32)), (.ref cs_)])
    rw [i2c_mask]
    show Go _ _ _ _ T592 (mkF m 36 #[.val (.int p0), .val (.int p1), .val (.int p2), .val (.int p3), .val (.int (6 : Int32)), .val (.ref cs_), .unset, .unset, .unset] [(.int ((XT.ushr p1 (8 : Int32)) &&& (255 : Int32))), (.int (1 : Int32)), (.ref cs_)])
    obtain ⟨cl595, Ar595, q595, S595, M595, H595, G595⟩ := id V592
    have hin595 : ¬ ((1 : Int32) < 0 ∨ cl595.slots.size ≤ (1 : Int32).toNatClampNeg) := inb_of S595 ⟨by decide, by decide⟩
    obtain ⟨T595, h595, X595, e595, W595, st595⟩ := stC X592 hx hZ e592 Ar595 (j := (1 : Int32)) hin595 (g := (mkF m 36 #[.val (.int p0), .val (.int p1), .val (.int p2), .val (.int p3), .val (.int (6 : Int32)), .val (.ref cs_), .unset, .unset, .unset] [(.int ((XT.ushr p1 (8 : Int32)) &&& (255 : Int32))), (.int (1 : Int32)), (.ref cs_)])) rfl rfl (hb hby at_36)
    have C596 : CHr Z own_EL s.vm h0 s.vm h595 := C593.trans (CHr.wr W595 Sf594 C593.1)
    have Sf597 : Safe Z own_EL s.vm h595 cs_ := Safe.wr W595 Sf594 C593.1 Sf594
    have N595 := Fr.snoc X595 N592 ge_cs_
    have V595 : Arv Z h595 cs_ k589 .char (2 : Int32) [(.int (p1 &&& (255 : Int32))), (.int (nar .char ((XT.ushr p1 (8 : Int32)) &&& (255 : Int32))))] (.int (0 : Int32)) := Arv.set Ar595 q595 S595 M595 H595 G595 (fits_nar_char _) W595 1 rfl (Nat.le_of_ble_eq_true rfl)
    refine Go.by st595 ?_
    show Go _ _ _ _ T595 (mkF m 37 #[.val (.int p0), .val (.int p1), .val (.int p2), .val (.int p3), .val (.int (6 : Int32)), .val (.ref cs_), .unset, .unset, .unset] [])
    rw [own_nc] at V595
    refine Go.by (fun _ gk => XS.iloadN X595.here hx rfl (hb hby at_37) rfl gk) ?_
    show Go _ _ _ _ T595 (mkF m 38 #[.val (.int p0), .val (.int p1), .val (.int p2), .val (.int p3), .val (.int (6 : Int32)), .val (.ref cs_), .unset, .unset, .unset] [(.int p3)])
    refine Go.by (fun _ gk => XT.iconstV X595.here hx rfl (1 : Int32) (hb hby at_38) (by decide) gk) ?_
    show Go _ _ _ _ T595 (mkF m 39 #[.val (.int p0), .val (.int p1), .val (.int p2), .val (.int p3), .val (.int (6 : Int32)), .val (.ref cs_), .unset, .unset, .unset] [(.int (1 : Int32)), (.int p3)])
    refine Go.by (fun _ gk => XS.iand X595.here hx rfl (hb hby at_39) rfl gk) ?_
    show Go _ _ _ _ T595 (mkF m 40 #[.val (.int p0), .val (.int p1), .val (.int p2), .val (.int p3), .val (.int (6 : Int32)), .val (.ref cs_), .unset, .unset, .unset] [(.int (p3 &&& (1 : Int32)))])
    by_cases hb598 : (p3 &&& (1 : Int32)) = 0
    · refine Go.by (fun _ gk => XS.ifYes X595.here hx rfl (pc0 := 40) (pc' := 55) rfl (hb hby at_40) rfl (XT.i0_eq_t hb598) (by decide) (by decide) gk) ?_
      show Go _ _ _ _ T595 (mkF m 55 #[.val (.int p0), .val (.int p1), .val (.int p2), .val (.int p3), .val (.int (6 : Int32)), .val (.ref cs_), .unset, .unset, .unset] [])
      have F600 : s.heap.size ≤ h589.size := Nat.le_trans hk0 E589.1
      have F601 : s.heap.size ≤ h592.size := Nat.le_trans F600 (Nat.le_of_eq (Wr.size W592).symm)
      have F602 : s.heap.size ≤ h595.size := Nat.le_trans F601 (Nat.le_of_eq (Wr.size W595).symm)
      have F603 : Exa Z h592 cs_ "[C" := Ea589.wr W592
      have F604 : Exa Z h595 cs_ "[C" := F603.wr W595
      obtain ⟨st, T599, h599, kq599, X599, e599, E599, hS599, hk599, hZ599, hown599, CH599, -, st599⟩ := ldcOH X595 hx hZ hown (hw _ (List.mem_of_getElem? (i := 65) rfl)) hSA e595 hS0 F602 hEL C596.1 (g := (mkF m 55 #[.val (.int p0), .val (.int p1), .val (.int p2), .val (.int p3), .val (.int (6 : Int32)), .val (.ref cs_), .unset, .unset, .unset] [])) rfl (hb hby at_55) (n := 0) (by decide) (by decide) (by decide) (by decide)
      have C605 : CHr Z own_EL s.vm h0 T599.vm h599 := C596.trans CH599
      have Sf606 : Safe Z own_EL T599.vm h599 cs_ := CH599.safe F604.lt Sf597
      refine Go.by st599 ?_
      show Go _ _ _ _ T599 (mkF m 57 #[.val (.int p0), .val (.int p1), .val (.int p2), .val (.int p3), .val (.int (6 : Int32)), .val (.ref cs_), .unset, .unset, .unset] [(.ref st)])
      refine Go.by (fun _ gk => XS.astore X599.here hx rfl (hb hby at_57) rfl rfl (l' := #[.val (.int p0), .val (.int p1), .val (.int p2), .val (.int p3), .val (.int (6 : Int32)), .val (.ref cs_), .val (.ref st), .unset, .unset]) rfl gk) ?_
      show Go _ _ _ _ T599 (mkF m 59 #[.val (.int p0), .val (.int p1), .val (.int p2), .val (.int p3), .val (.int (6 : Int32)), .val (.ref cs_), .val (.ref st), .unset, .unset] [])
      have F608 : n0 ≤ h589.size := Nat.le_trans Z0 E589.1
      have F609 : n0 ≤ h592.size := Nat.le_trans F608 (Nat.le_of_eq (Wr.size W592).symm)
      have F610 : n0 ≤ h595.size := Nat.le_trans F609 (Nat.le_of_eq (Wr.size W595).symm)
      have F611 : n0 ≤ h599.size := Nat.le_trans F610 E599.1
      obtain ⟨t, g607⟩ : ∃ z, z = h599.size := ⟨_, rfl⟩
      have ge_t : n0 ≤ t := Nat.le_trans F611 (Nat.le_of_eq g607.symm)
      have F612 : Keep h0 h589 [] := (Keep.refl h0 []).ext E589
      have F613 : Keep h0 h592 [] := F612.wr W592 (Or.inr sz_cs_)
      have F614 : Keep h0 h595 [] := F613.wr W595 (Or.inr sz_cs_)
      have F615 : Keep h0 h599 [] := F614.ext E599
      have sz_t : h0.size ≤ t := Nat.le_trans F615.1 (Nat.le_of_eq g607.symm)
      have F616 : Exa Z h599 cs_ "[C" := F604.ext E599
      have ne_cs__t : cs_ ≠ t := Nat.ne_of_lt (Nat.lt_of_lt_of_le F616.lt (Nat.le_of_eq g607.symm))
      obtain ⟨T607, h607, X607, e607, E607, A607, D607, -, st607⟩ := newO X599 hx hZ599 hown599 (hw _ (List.mem_of_getElem? (i := 31) rfl)) (hw _ (List.mem_of_getElem? (i := 32) rfl)) (hw _ (List.mem_of_getElem? (i := 33) rfl)) e599 (g := (mkF m 59 #[.val (.int p0), .val (.int p1), .val (.int p2), .val (.int p3), .val (.int (6 : Int32)), .val (.ref cs_), .val (.ref st), .unset, .unset] [])) rfl (hb hby at_59) (by decide) (by decide)
      rw [← g607] at A607 D607 st607
      have C617 : CHr Z own_EL s.vm h0 T599.vm h607 := C605.trans (CHr.ext E607 C605.1)
      have Sf618 : Safe Z own_EL T599.vm h607 cs_ := Safe.ext E607 C605.1 Sf606
      have Sf619 : Safe Z own_EL T599.vm h607 t := Safe.ext E607 C605.1 (Safe.new (Nat.le_of_eq g607.symm))
      have F_kind_t : Fld Z h607 t "com/example/attache/attache/query/Token" "kind" "Lcom/example/attache/attache/query/Token$Kind;" .null := D607 (Or.inr (hw _ (List.mem_of_getElem? (i := 51) rfl))) (ty := (.object "com/example/attache/attache/query/Token$Kind")) (by decide)
      have F_text_t : Fld Z h607 t "com/example/attache/attache/query/Token" "text" "Ljava/lang/String;" .null := D607 (Or.inr (hw _ (List.mem_of_getElem? (i := 53) rfl))) (ty := (.object "java/lang/String")) (by decide)
      have F_position_t : Fld Z h607 t "com/example/attache/attache/query/Token" "position" "I" (.int (0 : Int32)) := D607 (Or.inr (hw _ (List.mem_of_getElem? (i := 55) rfl))) (ty := .int) (by decide)
      refine Go.by st607 ?_
      show Go _ _ _ _ T607 (mkF m 62 #[.val (.int p0), .val (.int p1), .val (.int p2), .val (.int p3), .val (.int (6 : Int32)), .val (.ref cs_), .val (.ref st), .unset, .unset] [(.ref t)])
      refine Go.by (fun _ gk => XS.dup X607.here hx rfl (hb hby at_62) rfl rfl gk) ?_
      show Go _ _ _ _ T607 (mkF m 63 #[.val (.int p0), .val (.int p1), .val (.int p2), .val (.int p3), .val (.int (6 : Int32)), .val (.ref cs_), .val (.ref st), .unset, .unset] [(.ref t), (.ref t)])
      refine Go.by (fun _ gk => XS.iload X607.here hx rfl (hb hby at_63) rfl gk) ?_
      show Go _ _ _ _ T607 (mkF m 65 #[.val (.int p0), .val (.int p1), .val (.int p2), .val (.int p3), .val (.int (6 : Int32)), .val (.ref cs_), .val (.ref st), .unset, .unset] [(.int (6 : Int32)), (.ref t), (.ref t)])
      have F620 : Old Z n0 h589 := O0.ext E589
      have F621 : Old Z n0 h592 := F620.wr W592 ge_cs_
      have F622 : Old Z n0 h595 := F621.wr W595 ge_cs_
      have F623 : Old Z n0 h599 := F622.ext E599
      have F624 : Old Z n0 h607 := F623.ext E607
      have F625 : n0 ≤ h607.size := Nat.le_trans F611 E607.1
      obtain ⟨_, _, ⟨T626, L626, k626, n626⟩, -, X626, ⟨Lc626, hQ626, l626, y626, z626⟩, st626⟩ := Jvm.LawKit.callS X607 hx (y := (⟨"com/example/attache/attache/query/TokenIsParameterPinLaw", "kindOf", "(I)Lcom/example/attache/attache/query/Token$Kind;"⟩ : MethodName)) hown599 (mvT hZ599 (hw _ (List.mem_of_getElem? (i := 34) rfl))) (mvT hZ599 (hw _ (List.mem_of_getElem? (i := 35) rfl))) (mvT hZ599 (hw _ (List.mem_of_getElem? (i := 36) rfl))) (mvT hZ599 (hw _ (List.mem_of_getElem? (i := 37) rfl))) (by decide) (backOf (W := 2) (rmKind l Z a0 hw [] (6 : Int32) c_END c_WORD c_STRING c_NUMBER c_NAMED_PARAMETER c_POSITIONAL_PARAMETER c_SYMBOL c_END h607 n0 F625 F624 (Or.inr (Or.inr (Or.inr (Or.inr (Or.inr (Or.inr (⟨rfl, rfl⟩))))))) S_c_WORD E_c_WORD O_c_WORD S_c_STRING E_c_STRING O_c_STRING S_c_NUMBER E_c_NUMBER O_c_NUMBER S_c_NAMED_PARAMETER E_c_NAMED_PARAMETER O_c_NAMED_PARAMETER S_c_POSITIONAL_PARAMETER E_c_POSITIONAL_PARAMETER O_c_POSITIONAL_PARAMETER S_c_SYMBOL E_c_SYMBOL O_c_SYMBOL S_c_END E_c_END O_c_END) hZ599 (hw _ (List.mem_of_getElem? (i := 37) rfl)) (hw _ (List.mem_of_getElem? (i := 36) rfl)) (by decide) (by decide)) (g := (mkF m 65 #[.val (.int p0), .val (.int p1), .val (.int p2), .val (.int p3), .val (.int (6 : Int32)), .val (.ref cs_), .val (.ref st), .unset, .unset] [(.int (6 : Int32)), (.ref t), (.ref t)])) rfl (by rw [hml]; rfl) (argsL := [(.int (6 : Int32))]) (rest := [(.ref t), (.ref t)]) (lenOf pd_153 rfl) rfl (by show 2 * 0 + _ ≤ _; exact Nat.le_of_eq rfl) (hb hby at_65) (fun _ _ => ⟨rfl, e607, (by decide : 4 + 0 ≤ _), (by decide : 9 + 0 ≤ _)⟩)
      dsimp only [Pt.U, Pt.locs, Pt.cells, Pt.slots] at X626 l626 y626 z626 st626 hQ626
      subst l626 y626 z626
      obtain ⟨rfl, N626q, e626⟩ := hQ626
      have N626 := Fr.app N595 N626q
      refine Go.by st626 ?_
      show Go _ _ _ _ T626 (mkF m 68 #[.val (.int p0), .val (.int p1), .val (.int p2), .val (.int p3), .val (.int (6 : Int32)), .val (.ref cs_), .val (.ref st), .unset, .unset] [(.ref c_END), (.ref t), (.ref t)])
      refine Go.by (fun _ gk => XS.aload X626.here hx rfl (hb hby at_68) rfl rfl gk) ?_
      show Go _ _ _ _ T626 (mkF m 70 #[.val (.int p0), .val (.int p1), .val (.int p2), .val (.int p3), .val (.int (6 : Int32)), .val (.ref cs_), .val (.ref st), .unset, .unset] [(.ref st), (.ref c_END), (.ref t), (.ref t)])
      refine Go.by (fun _ gk => XS.iloadN X626.here hx rfl (hb hby at_70) rfl gk) ?_
      show Go _ _ _ _ T626 (mkF m 71 #[.val (.int p0), .val (.int p1), .val (.int p2), .val (.int p3), .val (.int (6 : Int32)), .val (.ref cs_), .val (.ref st), .unset, .unset] [(.int p2), (.ref st), (.ref c_END), (.ref t), (.ref t)])
      obtain ⟨_, _, ⟨T627, L627, k627, n627⟩, -, X627, ⟨Lc627, hQ627, l627, y627, z627⟩, st627⟩ := X626.specialBack hx (y := (⟨"com/example/attache/attache/query/Token", "<init>", "(Lcom/example/attache/attache/query/Token$Kind;Ljava/lang/String;I)V"⟩ : MethodName)) rfl hown599 (mvT hZ599 (hw _ (List.mem_of_getElem? (i := 41) rfl))) (mvT hZ599 (hw _ (List.mem_of_getElem? (i := 42) rfl))) (mvT hZ599 (hw _ (List.mem_of_getElem? (i := 43) rfl))) (by decide) (backOf (W := 1) (rmToken l Z a0 hw [] t c_END st p2 h607 n0 F625 A607 F_kind_t F_text_t F_position_t ge_t) hZ599 (hw _ (List.mem_of_getElem? (i := 43) rfl)) (hw _ (List.mem_of_getElem? (i := 33) rfl)) (by decide) (by decide)) (g := (mkF m 71 #[.val (.int p0), .val (.int p1), .val (.int p2), .val (.int p3), .val (.int (6 : Int32)), .val (.ref cs_), .val (.ref st), .unset, .unset] [(.int p2), (.ref st), (.ref c_END), (.ref t), (.ref t)])) rfl (by rw [hml]; rfl) (Steps.refl _) (a := t) (argsL := [(.ref c_END), (.ref st), (.int p2)]) (rest := [(.ref t)]) (lenOf pd_154 rfl) rfl (by show 2 * 0 + _ ≤ _; exact Nat.le_of_eq rfl) (hb hby at_71) (fun _ _ => ⟨rfl, e626, (by decide : 4 + 0 ≤ _), (by decide : 9 + 0 ≤ _)⟩)
      dsimp only [Pt.U, Pt.locs, Pt.cells, Pt.slots] at X627 l627 y627 z627 st627 hQ627
      subst l627 y627 z627
      obtain ⟨rfl, N627q, K627, Q627_0, Q627_1⟩ := hQ627
      have N627 := Fr.app N626 N627q
      have C628 : CHr Z own_EL s.vm h0 T599.vm T627.heap := C617.trans (CHr.keep K627 (sfS Sf619 sf0) C617.1)
      have Sf629 : Safe Z own_EL T599.vm T627.heap cs_ := Safe.keep K627 (sfS Sf619 sf0) C617.1 Sf618
      have Sf630 : Safe Z own_EL T599.vm T627.heap t := Safe.keep K627 (sfS Sf619 sf0) C617.1 Sf619
      refine Go.to st627 ?_
      show Go _ _ _ _ T627 (mkF m 74 #[.val (.int p0), .val (.int p1), .val (.int p2), .val (.int p3), .val (.int (6 : Int32)), .val (.ref cs_), .val (.ref st), .unset, .unset] [(.ref t)])
      refine Go.by (fun _ gk => XS.astore X627.here hx rfl (hb hby at_74) rfl rfl (l' := #[.val (.int p0), .val (.int p1), .val (.int p2), .val (.int p3), .val (.int (6 : Int32)), .val (.ref cs_), .val (.ref st), .val (.ref t), .unset]) rfl gk) ?_
      show Go _ _ _ _ T627 (mkF m 76 #[.val (.int p0), .val (.int p1), .val (.int p2), .val (.int p3), .val (.int (6 : Int32)), .val (.ref cs_), .val (.ref st), .val (.ref t), .unset] [])
      refine Go.by (fun _ gk => XS.iload X627.here hx rfl (hb hby at_76) rfl gk) ?_
      show Go _ _ _ _ T627 (mkF m 78 #[.val (.int p0), .val (.int p1), .val (.int p2), .val (.int p3), .val (.int (6 : Int32)), .val (.ref cs_), .val (.ref st), .val (.ref t), .unset] [(.int (6 : Int32))])
      refine Go.by (fun _ gk => XT.iconstV X627.here hx rfl (3 : Int32) (hb hby at_78) (by decide) gk) ?_
      show Go _ _ _ _ T627 (mkF m 79 #[.val (.int p0), .val (.int p1), .val (.int p2), .val (.int p3), .val (.int (6 : Int32)), .val (.ref cs_), .val (.ref st), .val (.ref t), .unset] [(.int (3 : Int32)), (.int (6 : Int32))])
      refine Go.by (fun _ gk => XS.icmpNo X627.here hx rfl (hb hby at_79) rfl (XT.ii_eq_f (by decide)) gk) ?_
      show Go _ _ _ _ T627 (mkF m 82 #[.val (.int p0), .val (.int p1), .val (.int p2), .val (.int p3), .val (.int (6 : Int32)), .val (.ref cs_), .val (.ref st), .val (.ref t), .unset] [])
      refine Go.by (fun _ gk => XS.iload X627.here hx rfl (hb hby at_82) rfl gk) ?_
      show Go _ _ _ _ T627 (mkF m 84 #[.val (.int p0), .val (.int p1), .val (.int p2), .val (.int p3), .val (.int (6 : Int32)), .val (.ref cs_), .val (.ref st), .val (.ref t), .unset] [(.int (6 : Int32))])
      refine Go.by (fun _ gk => XT.iconstV X627.here hx rfl (4 : Int32) (hb hby at_84) (by decide) gk) ?_
      show Go _ _ _ _ T627 (mkF m 85 #[.val (.int p0), .val (.int p1), .val (.int p2), .val (.int p3), .val (.int (6 : Int32)), .val (.ref cs_), .val (.ref st), .val (.ref t), .unset] [(.int (4 : Int32)), (.int (6 : Int32))])
      refine Go.by (fun _ gk => XS.icmpYes X627.here hx rfl (pc0 := 85) (pc' := 92) rfl (hb hby at_85) rfl (XT.ii_ne_t (by decide)) (by decide) (by decide) gk) ?_
      show Go _ _ _ _ T627 (mkF m 92 #[.val (.int p0), .val (.int p1), .val (.int p2), .val (.int p3), .val (.int (6 : Int32)), .val (.ref cs_), .val (.ref st), .val (.ref t), .unset] [])
      refine Go.by (fun _ gk => XT.iconstV X627.here hx rfl (0 : Int32) (hb hby at_92) (by decide) gk) ?_
      show Go _ _ _ _ T627 (mkF m 93 #[.val (.int p0), .val (.int p1), .val (.int p2), .val (.int p3), .val (.int (6 : Int32)), .val (.ref cs_), .val (.ref st), .val (.ref t), .unset] [(.int (0 : Int32))])
      refine Go.by (fun _ gk => XS.istore X627.here hx rfl (hb hby at_93) rfl (l' := #[.val (.int p0), .val (.int p1), .val (.int p2), .val (.int p3), .val (.int (6 : Int32)), .val (.ref cs_), .val (.ref st), .val (.ref t), .val (.int (0 : Int32))]) rfl gk) ?_
      show Go _ _ _ _ T627 (mkF m 95 #[.val (.int p0), .val (.int p1), .val (.int p2), .val (.int p3), .val (.int (6 : Int32)), .val (.ref cs_), .val (.ref st), .val (.ref t), .val (.int (0 : Int32))] [])
      refine Go.by (fun _ gk => XS.aload X627.here hx rfl (hb hby at_95) rfl rfl gk) ?_
      show Go _ _ _ _ T627 (mkF m 97 #[.val (.int p0), .val (.int p1), .val (.int p2), .val (.int p3), .val (.int (6 : Int32)), .val (.ref cs_), .val (.ref st), .val (.ref t), .val (.int (0 : Int32))] [(.ref t)])
      have F631 : Old Z n0 T627.heap := F624.keep K627 (allS ge_t all0)
      have F632 : n0 ≤ T627.heap.size := Nat.le_trans F625 K627.1
      obtain ⟨cq633, kq633, q633a, q633b, q633c⟩ := isOf hZ599 rfl Q627_0
      obtain ⟨_, _, ⟨T633, L633, k633, n633⟩, -, X633, ⟨Lc633, hQ633, l633, y633, z633⟩, st633⟩ := X627.virtualBack hx (y := (⟨"com/example/attache/attache/query/Token", "isParameter", "()Z"⟩ : MethodName)) (z := (⟨"com/example/attache/attache/query/Token", "isParameter", "()Z"⟩ : MethodName)) hown599 (mvT hZ599 (hw _ (List.mem_of_getElem? (i := 56) rfl))) (mvT hZ599 (hw _ (List.mem_of_getElem? (i := 57) rfl))) (notFace_of_selects (args := #[]) (mvT hZ599 (hw _ (List.mem_of_getElem? (i := 59) rfl)))) (mvT hZ599 (hw _ (List.mem_of_getElem? (i := 59) rfl))) (mvT hZ599 (hw _ (List.mem_of_getElem? (i := 58) rfl))) (by decide) (backOf (W := 0) (rmIsP l Z a0 hw [] t c_END (0 : Int32) c_WORD c_STRING c_NUMBER c_NAMED_PARAMETER c_POSITIONAL_PARAMETER c_SYMBOL c_END T627.heap n0 F632 F631 Q627_1 (Or.inr (Or.inr (Or.inr (Or.inr (Or.inr (Or.inr (⟨rfl, rfl⟩))))))) S_c_WORD E_c_WORD O_c_WORD S_c_STRING E_c_STRING O_c_STRING S_c_NUMBER E_c_NUMBER O_c_NUMBER S_c_NAMED_PARAMETER E_c_NAMED_PARAMETER O_c_NAMED_PARAMETER S_c_POSITIONAL_PARAMETER E_c_POSITIONAL_PARAMETER O_c_POSITIONAL_PARAMETER S_c_SYMBOL E_c_SYMBOL O_c_SYMBOL S_c_END E_c_END O_c_END) hZ599 (hw _ (List.mem_of_getElem? (i := 60) rfl)) (hw _ (List.mem_of_getElem? (i := 33) rfl)) (by decide) (by decide)) q633a q633c (g := (mkF m 97 #[.val (.int p0), .val (.int p1), .val (.int p2), .val (.int p3), .val (.int (6 : Int32)), .val (.ref cs_), .val (.ref st), .val (.ref t), .val (.int (0 : Int32))] [(.ref t)])) rfl (by rw [hml]; rfl) (Steps.refl _) (argsL := []) (rest := []) (lenOf pd_155 rfl) rfl (by show 2 * 0 + _ ≤ _; exact Nat.le_of_eq rfl) (hb hby at_97) (fun _ _ => ⟨rfl, rfl, (by decide : 4 + 0 ≤ _), (by decide : 9 + 0 ≤ _)⟩)
      dsimp only [Pt.U, Pt.locs, Pt.cells, Pt.slots] at X633 l633 y633 z633 st633 hQ633
      subst l633 y633 z633
      obtain ⟨rfl, N633q, e633⟩ := hQ633
      have N633 := Fr.app N627 N633q
      refine Go.to st633 ?_
      show Go _ _ _ _ T633 (mkF m 100 #[.val (.int p0), .val (.int p1), .val (.int p2), .val (.int p3), .val (.int (6 : Int32)), .val (.ref cs_), .val (.ref st), .val (.ref t), .val (.int (0 : Int32))] [(.int (0 : Int32))])
      refine Go.by (fun _ gk => XS.iload X633.here hx rfl (hb hby at_100) rfl gk) ?_
      show Go _ _ _ _ T633 (mkF m 102 #[.val (.int p0), .val (.int p1), .val (.int p2), .val (.int p3), .val (.int (6 : Int32)), .val (.ref cs_), .val (.ref st), .val (.ref t), .val (.int (0 : Int32))] [(.int (0 : Int32)), (.int (0 : Int32))])
      refine Go.by (fun _ gk => XS.icmpNo X633.here hx rfl (hb hby at_102) rfl (XT.ii_ne_f rfl) gk) ?_
      show Go _ _ _ _ T633 (mkF m 105 #[.val (.int p0), .val (.int p1), .val (.int p2), .val (.int p3), .val (.int (6 : Int32)), .val (.ref cs_), .val (.ref st), .val (.ref t), .val (.int (0 : Int32))] [])
      refine Go.by (fun _ gk => XT.iconstV X633.here hx rfl (1 : Int32) (hb hby at_105) (by decide) gk) ?_
      show Go _ _ _ _ T633 (mkF m 106 #[.val (.int p0), .val (.int p1), .val (.int p2), .val (.int p3), .val (.int (6 : Int32)), .val (.ref cs_), .val (.ref st), .val (.ref t), .val (.int (0 : Int32))] [(.int (1 : Int32))])
      refine Go.by (fun _ gk => XS.goto X633.here hx rfl (pc0 := 106) (pc' := 110) rfl (hb hby at_106) (by decide) (by decide) gk) ?_
      show Go _ _ _ _ T633 (mkF m 110 #[.val (.int p0), .val (.int p1), .val (.int p2), .val (.int p3), .val (.int (6 : Int32)), .val (.ref cs_), .val (.ref st), .val (.ref t), .val (.int (0 : Int32))] [(.int (1 : Int32))])
      have F634 : kq599 ≤ h607.size := Nat.le_trans hk599 E607.1
      have F635 : kq599 ≤ T627.heap.size := Nat.le_trans F634 K627.1
      exact Go.retIW X633 hx Bd.notSynchronized hS599 (by rw [e633]; exact F635) hZ599 hEL (by rw [hh, e633]; exact C628) Bd.returns rfl (by simp) (hb hby at_110) (by rw [e633]; exact ⟨rfl, N633⟩) (by decide) (by decide)
    · refine Go.by (fun _ gk => XS.ifNo X595.here hx rfl (hb hby at_40) rfl (XT.i0_eq_f hb598) gk) ?_
      show Go _ _ _ _ T595 (mkF m 43 #[.val (.int p0), .val (.int p1), .val (.int p2), .val (.int p3), .val (.int (6 : Int32)), .val (.ref cs_), .unset, .unset, .unset] [])
      have F637 : n0 ≤ h589.size := Nat.le_trans Z0 E589.1
      have F638 : n0 ≤ h592.size := Nat.le_trans F637 (Nat.le_of_eq (Wr.size W592).symm)
      have F639 : n0 ≤ h595.size := Nat.le_trans F638 (Nat.le_of_eq (Wr.size W595).symm)
      obtain ⟨st, g636⟩ : ∃ z, z = h595.size := ⟨_, rfl⟩
      have ge_st : n0 ≤ st := Nat.le_trans F639 (Nat.le_of_eq g636.symm)
      have F640 : Keep h0 h589 [] := (Keep.refl h0 []).ext E589
      have F641 : Keep h0 h592 [] := F640.wr W592 (Or.inr sz_cs_)
      have F642 : Keep h0 h595 [] := F641.wr W595 (Or.inr sz_cs_)
      have sz_st : h0.size ≤ st := Nat.le_trans F642.1 (Nat.le_of_eq g636.symm)
      have F643 : Exa Z h592 cs_ "[C" := Ea589.wr W592
      have F644 : Exa Z h595 cs_ "[C" := F643.wr W595
      have ne_cs__st : cs_ ≠ st := Nat.ne_of_lt (Nat.lt_of_lt_of_le F644.lt (Nat.le_of_eq g636.symm))
      obtain ⟨T636, h636, X636, e636, E636, A636, D636, -, st636⟩ := newO X595 hx hZ hown (hw _ (List.mem_of_getElem? (i := 2) rfl)) (hw _ (List.mem_of_getElem? (i := 3) rfl)) (hw _ (List.mem_of_getElem? (i := 4) rfl)) e595 (g := (mkF m 43 #[.val (.int p0), .val (.int p1), .val (.int p2), .val (.int p3), .val (.int (6 : Int32)), .val (.ref cs_), .unset, .unset, .unset] [])) rfl (hb hby at_43) (by decide) (by decide)
      rw [← g636] at A636 D636 st636
      have C645 : CHr Z own_EL s.vm h0 s.vm h636 := C596.trans (CHr.ext E636 C596.1)
      have Sf646 : Safe Z own_EL s.vm h636 cs_ := Safe.ext E636 C596.1 Sf597
      have Sf647 : Safe Z own_EL s.vm h636 st := Safe.ext E636 C596.1 (Safe.new (Nat.le_of_eq g636.symm))
      have F_coder_st : Fld Z h636 st "java/lang/String" "coder" "B" (.int (0 : Int32)) := D636 (Or.inr (hw _ (List.mem_of_getElem? (i := 28) rfl))) (ty := .byte) (by decide)
      have F_value_st : Fld Z h636 st "java/lang/String" "value" "[B" .null := D636 (Or.inr (hw _ (List.mem_of_getElem? (i := 30) rfl))) (ty := (.array .byte)) (by decide)
      refine Go.by st636 ?_
      show Go _ _ _ _ T636 (mkF m 46 #[.val (.int p0), .val (.int p1), .val (.int p2), .val (.int p3), .val (.int (6 : Int32)), .val (.ref cs_), .unset, .unset, .unset] [(.ref st)])
      refine Go.by (fun _ gk => XS.dup X636.here hx rfl (hb hby at_46) rfl rfl gk) ?_
      show Go _ _ _ _ T636 (mkF m 47 #[.val (.int p0), .val (.int p1), .val (.int p2), .val (.int p3), .val (.int (6 : Int32)), .val (.ref cs_), .unset, .unset, .unset] [(.ref st), (.ref st)])
      refine Go.by (fun _ gk => XS.aload X636.here hx rfl (hb hby at_47) rfl rfl gk) ?_
      show Go _ _ _ _ T636 (mkF m 49 #[.val (.int p0), .val (.int p1), .val (.int p2), .val (.int p3), .val (.int (6 : Int32)), .val (.ref cs_), .unset, .unset, .unset] [(.ref cs_), (.ref st), (.ref st)])
      have F648 : Old Z n0 h589 := O0.ext E589
      have F649 : Old Z n0 h592 := F648.wr W592 ge_cs_
      have F650 : Old Z n0 h595 := F649.wr W595 ge_cs_
      have F651 : Old Z n0 h636 := F650.ext E636
      have F652 : Arv Z h636 cs_ k589 .char (2 : Int32) [(.int (p1 &&& (255 : Int32))), (.int ((XT.ushr p1 (8 : Int32)) &&& (255 : Int32)))] (.int (0 : Int32)) := V595.ext E636
      have F653 : n0 ≤ h636.size := Nat.le_trans F639 E636.1
      have F654 : Keep h0 h636 [] := F642.ext E636
      have F655 : Exa Z h636 cs_ "[C" := F644.ext E636
      obtain ⟨_, _, ⟨T656, L656, k656, n656⟩, -, X656, ⟨Lc656, hQ656, l656, y656, z656⟩, st656⟩ := X636.specialBack hx (y := (⟨"java/lang/String", "<init>", "([C)V"⟩ : MethodName)) rfl hown (mvT hZ (hw _ (List.mem_of_getElem? (i := 5) rfl))) (mvT hZ (hw _ (List.mem_of_getElem? (i := 6) rfl))) (mvT hZ (hw _ (List.mem_of_getElem? (i := 7) rfl))) (by decide) (backOf (W := 1) (rmS1_2 l Z a0 hw [] st cs_ k589 (p1 &&& (255 : Int32)) ((XT.ushr p1 (8 : Int32)) &&& (255 : Int32)) cs h636 n0 F653 F651 A636 F_value_st F_coder_st ge_st F652 (own_255 _) (own_255 _) S_cs n_cs) hZ (hw _ (List.mem_of_getElem? (i := 7) rfl)) (hw _ (List.mem_of_getElem? (i := 4) rfl)) (by decide) (by decide)) (g := (mkF m 49 #[.val (.int p0), .val (.int p1), .val (.int p2), .val (.int p3), .val (.int (6 : Int32)), .val (.ref cs_), .unset, .unset, .unset] [(.ref cs_), (.ref st), (.ref st)])) rfl (by rw [hml]; rfl) (Steps.refl _) (a := st) (argsL := [(.ref cs_)]) (rest := [(.ref st)]) (lenOf pd_156 rfl) rfl (by show 2 * 0 + _ ≤ _; exact Nat.le_of_eq rfl) (hb hby at_49) (fun _ _ => ⟨rfl, e636, (by decide : 2 + 1 ≤ _), (by decide : 6 + 2 ≤ _)⟩)
      dsimp only [Pt.U, Pt.locs, Pt.cells, Pt.slots] at X656 l656 y656 z656 st656 hQ656
      subst l656 y656 z656
      obtain ⟨b_656, kb_656, rfl, N656q, K656, Q656_0, Q656_1, Q656_2, Q656_3, Q656_4⟩ := hQ656
      have N656 := Fr.app N595 N656q
      have C657 : CHr Z own_EL s.vm h0 s.vm T656.heap := C645.trans (CHr.keep K656 (sfS Sf647 sf0) C645.1)
      have Sf658 : Safe Z own_EL s.vm T656.heap cs_ := Safe.keep K656 (sfS Sf647 sf0) C645.1 Sf646
      have Sf659 : Safe Z own_EL s.vm T656.heap st := Safe.keep K656 (sfS Sf647 sf0) C645.1 Sf647
      refine Go.to st656 ?_
      show Go _ _ _ _ T656 (mkF m 52 #[.val (.int p0), .val (.int p1), .val (.int p2), .val (.int p3), .val (.int (6 : Int32)), .val (.ref cs_), .unset, .unset, .unset] [(.ref st)])
      have ge_b_656 : n0 ≤ b_656 := Nat.le_trans F653 Q656_4
      have sz_b_656 : h0.size ≤ b_656 := Nat.le_trans F654.1 Q656_4
      have ne_cs__b_656 : cs_ ≠ b_656 := Nat.ne_of_lt (Nat.lt_of_lt_of_le F652.lt Q656_4)
      have ne_st_b_656 : st ≠ b_656 := Nat.ne_of_lt (Nat.lt_of_lt_of_le A636.lt Q656_4)
      refine Go.by (fun _ gk => XS.goto X656.here hx rfl (pc0 := 52) (pc' := 57) rfl (hb hby at_52) (by decide) (by decide) gk) ?_
      show Go _ _ _ _ T656 (mkF m 57 #[.val (.int p0), .val (.int p1), .val (.int p2), .val (.int p3), .val (.int (6 : Int32)), .val (.ref cs_), .unset, .unset, .unset] [(.ref st)])
      refine Go.by (fun _ gk => XS.astore X656.here hx rfl (hb hby at_57) rfl rfl (l' := #[.val (.int p0), .val (.int p1), .val (.int p2), .val (.int p3), .val (.int (6 : Int32)), .val (.ref cs_), .val (.ref st), .unset, .unset]) rfl gk) ?_
      show Go _ _ _ _ T656 (mkF m 59 #[.val (.int p0), .val (.int p1), .val (.int p2), .val (.int p3), .val (.int (6 : Int32)), .val (.ref cs_), .val (.ref st), .unset, .unset] [])
      have F661 : n0 ≤ T656.heap.size := Nat.le_trans F653 K656.1
      obtain ⟨t, g660⟩ : ∃ z, z = T656.heap.size := ⟨_, rfl⟩
      have ge_t : n0 ≤ t := Nat.le_trans F661 (Nat.le_of_eq g660.symm)
      have F662 : Keep h0 T656.heap [] := F654.trans K656 (allS (Or.inr sz_st) all0)
      have sz_t : h0.size ≤ t := Nat.le_trans F662.1 (Nat.le_of_eq g660.symm)
      have ne_b_656_t : b_656 ≠ t := Nat.ne_of_lt (Nat.lt_of_lt_of_le Q656_3.lt (Nat.le_of_eq g660.symm))
      have F663 : Exa Z T656.heap cs_ "[C" := F655.keep K656
      have ne_cs__t : cs_ ≠ t := Nat.ne_of_lt (Nat.lt_of_lt_of_le F663.lt (Nat.le_of_eq g660.symm))
      have ne_st_t : st ≠ t := Nat.ne_of_lt (Nat.lt_of_lt_of_le Q656_0.lt (Nat.le_of_eq g660.symm))
      obtain ⟨T660, h660, X660, e660, E660, A660, D660, -, st660⟩ := newO X656 hx hZ hown (hw _ (List.mem_of_getElem? (i := 31) rfl)) (hw _ (List.mem_of_getElem? (i := 32) rfl)) (hw _ (List.mem_of_getElem? (i := 33) rfl)) rfl (g := (mkF m 59 #[.val (.int p0), .val (.int p1), .val (.int p2), .val (.int p3), .val (.int (6 : Int32)), .val (.ref cs_), .val (.ref st), .unset, .unset] [])) rfl (hb hby at_59) (by decide) (by decide)
      rw [← g660] at A660 D660 st660
      have C664 : CHr Z own_EL s.vm h0 s.vm h660 := C657.trans (CHr.ext E660 C657.1)
      have Sf665 : Safe Z own_EL s.vm h660 cs_ := Safe.ext E660 C657.1 Sf658
      have Sf666 : Safe Z own_EL s.vm h660 st := Safe.ext E660 C657.1 Sf659
      have Sf667 : Safe Z own_EL s.vm h660 t := Safe.ext E660 C657.1 (Safe.new (Nat.le_of_eq g660.symm))
      have F_kind_t : Fld Z h660 t "com/example/attache/attache/query/Token" "kind" "Lcom/example/attache/attache/query/Token$Kind;" .null := D660 (Or.inr (hw _ (List.mem_of_getElem? (i := 51) rfl))) (ty := (.object "com/example/attache/attache/query/Token$Kind")) (by decide)
      have F_text_t : Fld Z h660 t "com/example/attache/attache/query/Token" "text" "Ljava/lang/String;" .null := D660 (Or.inr (hw _ (List.mem_of_getElem? (i := 53) rfl))) (ty := (.object "java/lang/String")) (by decide)
      have F_position_t : Fld Z h660 t "com/example/attache/attache/query/Token" "position" "I" (.int (0 : Int32)) := D660 (Or.inr (hw _ (List.mem_of_getElem? (i := 55) rfl))) (ty := .int) (by decide)
      refine Go.by st660 ?_
      show Go _ _ _ _ T660 (mkF m 62 #[.val (.int p0), .val (.int p1), .val (.int p2), .val (.int p3), .val (.int (6 : Int32)), .val (.ref cs_), .val (.ref st), .unset, .unset] [(.ref t)])
      refine Go.by (fun _ gk => XS.dup X660.here hx rfl (hb hby at_62) rfl rfl gk) ?_
      show Go _ _ _ _ T660 (mkF m 63 #[.val (.int p0), .val (.int p1), .val (.int p2), .val (.int p3), .val (.int (6 : Int32)), .val (.ref cs_), .val (.ref st), .unset, .unset] [(.ref t), (.ref t)])
      refine Go.by (fun _ gk => XS.iload X660.here hx rfl (hb hby at_63) rfl gk) ?_
      show Go _ _ _ _ T660 (mkF m 65 #[.val (.int p0), .val (.int p1), .val (.int p2), .val (.int p3), .val (.int (6 : Int32)), .val (.ref cs_), .val (.ref st), .unset, .unset] [(.int (6 : Int32)), (.ref t), (.ref t)])
      have F668 : Old Z n0 T656.heap := F651.keep K656 (allS ge_st all0)
      have F669 : Old Z n0 h660 := F668.ext E660
      have F670 : n0 ≤ h660.size := Nat.le_trans F661 E660.1
      obtain ⟨_, _, ⟨T671, L671, k671, n671⟩, -, X671, ⟨Lc671, hQ671, l671, y671, z671⟩, st671⟩ := Jvm.LawKit.callS X660 hx (y := (⟨"com/example/attache/attache/query/TokenIsParameterPinLaw", "kindOf", "(I)Lcom/example/attache/attache/query/Token$Kind;"⟩ : MethodName)) hown (mvT hZ (hw _ (List.mem_of_getElem? (i := 34) rfl))) (mvT hZ (hw _ (List.mem_of_getElem? (i := 35) rfl))) (mvT hZ (hw _ (List.mem_of_getElem? (i := 36) rfl))) (mvT hZ (hw _ (List.mem_of_getElem? (i := 37) rfl))) (by decide) (backOf (W := 2) (rmKind l Z a0 hw [] (6 : Int32) c_END c_WORD c_STRING c_NUMBER c_NAMED_PARAMETER c_POSITIONAL_PARAMETER c_SYMBOL c_END h660 n0 F670 F669 (Or.inr (Or.inr (Or.inr (Or.inr (Or.inr (Or.inr (⟨rfl, rfl⟩))))))) S_c_WORD E_c_WORD O_c_WORD S_c_STRING E_c_STRING O_c_STRING S_c_NUMBER E_c_NUMBER O_c_NUMBER S_c_NAMED_PARAMETER E_c_NAMED_PARAMETER O_c_NAMED_PARAMETER S_c_POSITIONAL_PARAMETER E_c_POSITIONAL_PARAMETER O_c_POSITIONAL_PARAMETER S_c_SYMBOL E_c_SYMBOL O_c_SYMBOL S_c_END E_c_END O_c_END) hZ (hw _ (List.mem_of_getElem? (i := 37) rfl)) (hw _ (List.mem_of_getElem? (i := 36) rfl)) (by decide) (by decide)) (g := (mkF m 65 #[.val (.int p0), .val (.int p1), .val (.int p2), .val (.int p3), .val (.int (6 : Int32)), .val (.ref cs_), .val (.ref st), .unset, .unset] [(.int (6 : Int32)), (.ref t), (.ref t)])) rfl (by rw [hml]; rfl) (argsL := [(.int (6 : Int32))]) (rest := [(.ref t), (.ref t)]) (lenOf pd_153 rfl) rfl (by show 2 * 0 + _ ≤ _; exact Nat.le_of_eq rfl) (hb hby at_65) (fun _ _ => ⟨rfl, e660, (by decide : 4 + 0 ≤ _), (by decide : 11 + 0 ≤ _)⟩)
      dsimp only [Pt.U, Pt.locs, Pt.cells, Pt.slots] at X671 l671 y671 z671 st671 hQ671
      subst l671 y671 z671
      obtain ⟨rfl, N671q, e671⟩ := hQ671
      have N671 := Fr.app N656 N671q
      refine Go.by st671 ?_
      show Go _ _ _ _ T671 (mkF m 68 #[.val (.int p0), .val (.int p1), .val (.int p2), .val (.int p3), .val (.int (6 : Int32)), .val (.ref cs_), .val (.ref st), .unset, .unset] [(.ref c_END), (.ref t), (.ref t)])
      refine Go.by (fun _ gk => XS.aload X671.here hx rfl (hb hby at_68) rfl rfl gk) ?_
      show Go _ _ _ _ T671 (mkF m 70 #[.val (.int p0), .val (.int p1), .val (.int p2), .val (.int p3), .val (.int (6 : Int32)), .val (.ref cs_), .val (.ref st), .unset, .unset] [(.ref st), (.ref c_END), (.ref t), (.ref t)])
      refine Go.by (fun _ gk => XS.iloadN X671.here hx rfl (hb hby at_70) rfl gk) ?_
      show Go _ _ _ _ T671 (mkF m 71 #[.val (.int p0), .val (.int p1), .val (.int p2), .val (.int p3), .val (.int (6 : Int32)), .val (.ref cs_), .val (.ref st), .unset, .unset] [(.int p2), (.ref st), (.ref c_END), (.ref t), (.ref t)])
      obtain ⟨_, _, ⟨T672, L672, k672, n672⟩, -, X672, ⟨Lc672, hQ672, l672, y672, z672⟩, st672⟩ := X671.specialBack hx (y := (⟨"com/example/attache/attache/query/Token", "<init>", "(Lcom/example/attache/attache/query/Token$Kind;Ljava/lang/String;I)V"⟩ : MethodName)) rfl hown (mvT hZ (hw _ (List.mem_of_getElem? (i := 41) rfl))) (mvT hZ (hw _ (List.mem_of_getElem? (i := 42) rfl))) (mvT hZ (hw _ (List.mem_of_getElem? (i := 43) rfl))) (by decide) (backOf (W := 1) (rmToken l Z a0 hw [] t c_END st p2 h660 n0 F670 A660 F_kind_t F_text_t F_position_t ge_t) hZ (hw _ (List.mem_of_getElem? (i := 43) rfl)) (hw _ (List.mem_of_getElem? (i := 33) rfl)) (by decide) (by decide)) (g := (mkF m 71 #[.val (.int p0), .val (.int p1), .val (.int p2), .val (.int p3), .val (.int (6 : Int32)), .val (.ref cs_), .val (.ref st), .unset, .unset] [(.int p2), (.ref st), (.ref c_END), (.ref t), (.ref t)])) rfl (by rw [hml]; rfl) (Steps.refl _) (a := t) (argsL := [(.ref c_END), (.ref st), (.int p2)]) (rest := [(.ref t)]) (lenOf pd_154 rfl) rfl (by show 2 * 0 + _ ≤ _; exact Nat.le_of_eq rfl) (hb hby at_71) (fun _ _ => ⟨rfl, e671, (by decide : 4 + 0 ≤ _), (by decide : 11 + 0 ≤ _)⟩)
      dsimp only [Pt.U, Pt.locs, Pt.cells, Pt.slots] at X672 l672 y672 z672 st672 hQ672
      subst l672 y672 z672
      obtain ⟨rfl, N672q, K672, Q672_0, Q672_1⟩ := hQ672
      have N672 := Fr.app N671 N672q
      have C673 : CHr Z own_EL s.vm h0 s.vm T672.heap := C664.trans (CHr.keep K672 (sfS Sf667 sf0) C664.1)
      have Sf674 : Safe Z own_EL s.vm T672.heap cs_ := Safe.keep K672 (sfS Sf667 sf0) C664.1 Sf665
      have Sf675 : Safe Z own_EL s.vm T672.heap st := Safe.keep K672 (sfS Sf667 sf0) C664.1 Sf666
      have Sf676 : Safe Z own_EL s.vm T672.heap t := Safe.keep K672 (sfS Sf667 sf0) C664.1 Sf667
      refine Go.to st672 ?_
      show Go _ _ _ _ T672 (mkF m 74 #[.val (.int p0), .val (.int p1), .val (.int p2), .val (.int p3), .val (.int (6 : Int32)), .val (.ref cs_), .val (.ref st), .unset, .unset] [(.ref t)])
      refine Go.by (fun _ gk => XS.astore X672.here hx rfl (hb hby at_74) rfl rfl (l' := #[.val (.int p0), .val (.int p1), .val (.int p2), .val (.int p3), .val (.int (6 : Int32)), .val (.ref cs_), .val (.ref st), .val (.ref t), .unset]) rfl gk) ?_
      show Go _ _ _ _ T672 (mkF m 76 #[.val (.int p0), .val (.int p1), .val (.int p2), .val (.int p3), .val (.int (6 : Int32)), .val (.ref cs_), .val (.ref st), .val (.ref t), .unset] [])
      refine Go.by (fun _ gk => XS.iload X672.here hx rfl (hb hby at_76) rfl gk) ?_
      show Go _ _ _ _ T672 (mkF m 78 #[.val (.int p0), .val (.int p1), .val (.int p2), .val (.int p3), .val (.int (6 : Int32)), .val (.ref cs_), .val (.ref st), .val (.ref t), .unset] [(.int (6 : Int32))])
      refine Go.by (fun _ gk => XT.iconstV X672.here hx rfl (3 : Int32) (hb hby at_78) (by decide) gk) ?_
      show Go _ _ _ _ T672 (mkF m 79 #[.val (.int p0), .val (.int p1), .val (.int p2), .val (.int p3), .val (.int (6 : Int32)), .val (.ref cs_), .val (.ref st), .val (.ref t), .unset] [(.int (3 : Int32)), (.int (6 : Int32))])
      refine Go.by (fun _ gk => XS.icmpNo X672.here hx rfl (hb hby at_79) rfl (XT.ii_eq_f (by decide)) gk) ?_
      show Go _ _ _ _ T672 (mkF m 82 #[.val (.int p0), .val (.int p1), .val (.int p2), .val (.int p3), .val (.int (6 : Int32)), .val (.ref cs_), .val (.ref st), .val (.ref t), .unset] [])
      refine Go.by (fun _ gk => XS.iload X672.here hx rfl (hb hby at_82) rfl gk) ?_
      show Go _ _ _ _ T672 (mkF m 84 #[.val (.int p0), .val (.int p1), .val (.int p2), .val (.int p3), .val (.int (6 : Int32)), .val (.ref cs_), .val (.ref st), .val (.ref t), .unset] [(.int (6 : Int32))])
      refine Go.by (fun _ gk => XT.iconstV X672.here hx rfl (4 : Int32) (hb hby at_84) (by decide) gk) ?_
      show Go _ _ _ _ T672 (mkF m 85 #[.val (.int p0), .val (.int p1), .val (.int p2), .val (.int p3), .val (.int (6 : Int32)), .val (.ref cs_), .val (.ref st), .val (.ref t), .unset] [(.int (4 : Int32)), (.int (6 : Int32))])
      refine Go.by (fun _ gk => XS.icmpYes X672.here hx rfl (pc0 := 85) (pc' := 92) rfl (hb hby at_85) rfl (XT.ii_ne_t (by decide)) (by decide) (by decide) gk) ?_
      show Go _ _ _ _ T672 (mkF m 92 #[.val (.int p0), .val (.int p1), .val (.int p2), .val (.int p3), .val (.int (6 : Int32)), .val (.ref cs_), .val (.ref st), .val (.ref t), .unset] [])
      refine Go.by (fun _ gk => XT.iconstV X672.here hx rfl (0 : Int32) (hb hby at_92) (by decide) gk) ?_
      show Go _ _ _ _ T672 (mkF m 93 #[.val (.int p0), .val (.int p1), .val (.int p2), .val (.int p3), .val (.int (6 : Int32)), .val (.ref cs_), .val (.ref st), .val (.ref t), .unset] [(.int (0 : Int32))])
      refine Go.by (fun _ gk => XS.istore X672.here hx rfl (hb hby at_93) rfl (l' := #[.val (.int p0), .val (.int p1), .val (.int p2), .val (.int p3), .val (.int (6 : Int32)), .val (.ref cs_), .val (.ref st), .val (.ref t), .val (.int (0 : Int32))]) rfl gk) ?_
      show Go _ _ _ _ T672 (mkF m 95 #[.val (.int p0), .val (.int p1), .val (.int p2), .val (.int p3), .val (.int (6 : Int32)), .val (.ref cs_), .val (.ref st), .val (.ref t), .val (.int (0 : Int32))] [])
      refine Go.by (fun _ gk => XS.aload X672.here hx rfl (hb hby at_95) rfl rfl gk) ?_
      show Go _ _ _ _ T672 (mkF m 97 #[.val (.int p0), .val (.int p1), .val (.int p2), .val (.int p3), .val (.int (6 : Int32)), .val (.ref cs_), .val (.ref st), .val (.ref t), .val (.int (0 : Int32))] [(.ref t)])
      have F677 : Old Z n0 T672.heap := F669.keep K672 (allS ge_t all0)
      have F678 : n0 ≤ T672.heap.size := Nat.le_trans F670 K672.1
      obtain ⟨cq679, kq679, q679a, q679b, q679c⟩ := isOf hZ rfl Q672_0
      obtain ⟨_, _, ⟨T679, L679, k679, n679⟩, -, X679, ⟨Lc679, hQ679, l679, y679, z679⟩, st679⟩ := X672.virtualBack hx (y := (⟨"com/example/attache/attache/query/Token", "isParameter", "()Z"⟩ : MethodName)) (z := (⟨"com/example/attache/attache/query/Token", "isParameter", "()Z"⟩ : MethodName)) hown (mvT hZ (hw _ (List.mem_of_getElem? (i := 56) rfl))) (mvT hZ (hw _ (List.mem_of_getElem? (i := 57) rfl))) (notFace_of_selects (args := #[]) (mvT hZ (hw _ (List.mem_of_getElem? (i := 59) rfl)))) (mvT hZ (hw _ (List.mem_of_getElem? (i := 59) rfl))) (mvT hZ (hw _ (List.mem_of_getElem? (i := 58) rfl))) (by decide) (backOf (W := 0) (rmIsP l Z a0 hw [] t c_END (0 : Int32) c_WORD c_STRING c_NUMBER c_NAMED_PARAMETER c_POSITIONAL_PARAMETER c_SYMBOL c_END T672.heap n0 F678 F677 Q672_1 (Or.inr (Or.inr (Or.inr (Or.inr (Or.inr (Or.inr (⟨rfl, rfl⟩))))))) S_c_WORD E_c_WORD O_c_WORD S_c_STRING E_c_STRING O_c_STRING S_c_NUMBER E_c_NUMBER O_c_NUMBER S_c_NAMED_PARAMETER E_c_NAMED_PARAMETER O_c_NAMED_PARAMETER S_c_POSITIONAL_PARAMETER E_c_POSITIONAL_PARAMETER O_c_POSITIONAL_PARAMETER S_c_SYMBOL E_c_SYMBOL O_c_SYMBOL S_c_END E_c_END O_c_END) hZ (hw _ (List.mem_of_getElem? (i := 60) rfl)) (hw _ (List.mem_of_getElem? (i := 33) rfl)) (by decide) (by decide)) q679a q679c (g := (mkF m 97 #[.val (.int p0), .val (.int p1), .val (.int p2), .val (.int p3), .val (.int (6 : Int32)), .val (.ref cs_), .val (.ref st), .val (.ref t), .val (.int (0 : Int32))] [(.ref t)])) rfl (by rw [hml]; rfl) (Steps.refl _) (argsL := []) (rest := []) (lenOf pd_155 rfl) rfl (by show 2 * 0 + _ ≤ _; exact Nat.le_of_eq rfl) (hb hby at_97) (fun _ _ => ⟨rfl, rfl, (by decide : 4 + 0 ≤ _), (by decide : 11 + 0 ≤ _)⟩)
      dsimp only [Pt.U, Pt.locs, Pt.cells, Pt.slots] at X679 l679 y679 z679 st679 hQ679
      subst l679 y679 z679
      obtain ⟨rfl, N679q, e679⟩ := hQ679
      have N679 := Fr.app N672 N679q
      refine Go.to st679 ?_
      show Go _ _ _ _ T679 (mkF m 100 #[.val (.int p0), .val (.int p1), .val (.int p2), .val (.int p3), .val (.int (6 : Int32)), .val (.ref cs_), .val (.ref st), .val (.ref t), .val (.int (0 : Int32))] [(.int (0 : Int32))])
      refine Go.by (fun _ gk => XS.iload X679.here hx rfl (hb hby at_100) rfl gk) ?_
      show Go _ _ _ _ T679 (mkF m 102 #[.val (.int p0), .val (.int p1), .val (.int p2), .val (.int p3), .val (.int (6 : Int32)), .val (.ref cs_), .val (.ref st), .val (.ref t), .val (.int (0 : Int32))] [(.int (0 : Int32)), (.int (0 : Int32))])
      refine Go.by (fun _ gk => XS.icmpNo X679.here hx rfl (hb hby at_102) rfl (XT.ii_ne_f rfl) gk) ?_
      show Go _ _ _ _ T679 (mkF m 105 #[.val (.int p0), .val (.int p1), .val (.int p2), .val (.int p3), .val (.int (6 : Int32)), .val (.ref cs_), .val (.ref st), .val (.ref t), .val (.int (0 : Int32))] [])
      refine Go.by (fun _ gk => XT.iconstV X679.here hx rfl (1 : Int32) (hb hby at_105) (by decide) gk) ?_
      show Go _ _ _ _ T679 (mkF m 106 #[.val (.int p0), .val (.int p1), .val (.int p2), .val (.int p3), .val (.int (6 : Int32)), .val (.ref cs_), .val (.ref st), .val (.ref t), .val (.int (0 : Int32))] [(.int (1 : Int32))])
      refine Go.by (fun _ gk => XS.goto X679.here hx rfl (pc0 := 106) (pc' := 110) rfl (hb hby at_106) (by decide) (by decide) gk) ?_
      show Go _ _ _ _ T679 (mkF m 110 #[.val (.int p0), .val (.int p1), .val (.int p2), .val (.int p3), .val (.int (6 : Int32)), .val (.ref cs_), .val (.ref st), .val (.ref t), .val (.int (0 : Int32))] [(.int (1 : Int32))])
      have F680 : s.heap.size ≤ h589.size := Nat.le_trans hk0 E589.1
      have F681 : s.heap.size ≤ h592.size := Nat.le_trans F680 (Nat.le_of_eq (Wr.size W592).symm)
      have F682 : s.heap.size ≤ h595.size := Nat.le_trans F681 (Nat.le_of_eq (Wr.size W595).symm)
      have F683 : s.heap.size ≤ h636.size := Nat.le_trans F682 E636.1
      have F684 : s.heap.size ≤ T656.heap.size := Nat.le_trans F683 K656.1
      have F685 : s.heap.size ≤ h660.size := Nat.le_trans F684 E660.1
      have F686 : s.heap.size ≤ T672.heap.size := Nat.le_trans F685 K672.1
      exact Go.retIW X679 hx Bd.notSynchronized hS0 (by rw [e679]; exact F686) hZ hEL (by rw [hh, e679]; exact C673) Bd.returns rfl (by simp) (hb hby at_110) (by rw [e679]; exact ⟨rfl, N679⟩) (by decide) (by decide)
set_option maxRecDepth 65536 in
set_option maxHeartbeats 40000000 in
theorem comes_1 {Post : Tables → Env → Array Value → State → Outcome → State → Prop} (hpost : ∀ tb e args s v u, (limb_1_1.after args s (.returned v) u = true ∧ limb_1_2.after args s (.returned v) u = true ∧ True) → ReturnedEndW s (.returned v) u (Jvm.fieldLocs frame_1_writes args s ++ Jvm.arrayLocs frame_1_arrays args s ++ Jvm.staticLocs frame_1_statics s) 24 1152 → Post tb e args s (.returned v) u) :
    ArmFor flags0 classFile x code maxLocals ret World_1 tables_1 room_1 Calls_1 rest_1 Pre_1 Post := by
  intro l hfl _ _ p e ha hc hk s m args below hf hA hF happ hP
  obtain ⟨hcalls, hrest, hpre⟩ := hP
  obtain ⟨-, -, -, hnamed, -, -, -, hat⟩ := (Spec.applies_iff hf).mp happ
  obtain ⟨hg, hn⟩ := and_e (Cond.before_iff.mp (show (Jvm.Cond.and given_1 narrow_1).before args s = true from hpre))
  obtain ⟨hcount, hg0⟩ := and_e hg
  obtain ⟨ha0, hg1⟩ := and_e hg0
  obtain ⟨ha1, hg2⟩ := and_e hg1
  obtain ⟨ha2, hg3⟩ := and_e hg2
  have ha3 := hg3
  obtain ⟨w0, w1, w2, w3, rfl⟩ : ∃ w0 w1 w2 w3 : Value, args = #[w0, w1, w2, w3] := by
    have hs : args.size = 4 := by simpa [Cond.value, given_1] using hcount
    obtain ⟨L⟩ := args
    match L, hs with
    | [w0, w1, w2, w3], _ => exact ⟨w0, w1, w2, w3, rfl⟩
  have hw := fun d (hd : d ∈ tables_1) => atoms_spec (ws := Jvm.Cond.code x code maxLocals ret :: tables_1) hat d (List.mem_cons_of_mem _ hd)
  obtain ⟨hsets, hown0⟩ := atoms_of _ (rest_1_c_eq ▸ (show rest_1_c.before _ s = true from hrest))
  have hr0 := Cond.before_iff.mp hown0
  have hfit : Fit s := fun {y c} hc i hi => by
    obtain ⟨ha, rfl⟩ := Array.getElem?_eq_some_iff.mp hc
    have q := List.all_eq_true.mp ((Array.all_eq_true_iff_forall_mem.mp hF) _ (Array.getElem_mem ha)) i (List.mem_range.mpr hi)
    simpa [Array.getElem?_eq_getElem hi] using q
  obtain ⟨i0, ei0⟩ := is_v ha0
  obtain rfl : w0 = (.int i0) := Option.some.inj ei0
  obtain ⟨i1, ei1⟩ := is_v ha1
  obtain rfl : w1 = (.int i1) := Option.some.inj ei1
  obtain ⟨i2, ei2⟩ := is_v ha2
  obtain rfl : w2 = (.int i2) := Option.some.inj ei2
  obtain ⟨i3, ei3⟩ := is_v ha3
  obtain rfl : w3 = (.int i3) := Option.some.inj ei3
  have hnr0 := hn
  obtain ⟨nr0, hnr1⟩ := and_e hnr0
  obtain ⟨nr1, hnr2⟩ := and_e hnr1
  obtain ⟨nr2, hnr3⟩ := and_e hnr2
  obtain ⟨nr3, hnr4⟩ := and_e hnr3
  obtain ⟨nr4, hnr5⟩ := and_e hnr4
  obtain ⟨nr5, hnr6⟩ := and_e hnr5
  obtain ⟨nr6, hnr7⟩ := and_e hnr6
  obtain ⟨nr7, hnr8⟩ := and_e hnr7
  obtain ⟨nr8, hnr9⟩ := and_e hnr8
  obtain ⟨nr9, hnr10⟩ := and_e hnr9
  obtain ⟨nr10, hnr11⟩ := and_e hnr10
  obtain ⟨nr11, hnr12⟩ := and_e hnr11
  obtain ⟨nr12, hnr13⟩ := and_e hnr12
  have nr13 := hnr13
  obtain ⟨c_WORD, ev_c_WORD⟩ := exa_v nr0
  have S_c_WORD : Sta s s.heap "com/example/attache/attache/query/Token$Kind" "WORD" "Lcom/example/attache/attache/query/Token$Kind;" (.ref c_WORD) := Sta.start ev_c_WORD (Or.inr ⟨(hw _ (List.mem_of_getElem? (i := 39) rfl)), (hw _ (List.mem_of_getElem? (i := 40) rfl))⟩)
  have E_c_WORD := Exa.start ev_c_WORD nr0
  have O_c_WORD := Fld.start (own_ord nr2 ev_c_WORD)
  obtain ⟨c_STRING, ev_c_STRING⟩ := exa_v nr10
  have S_c_STRING : Sta s s.heap "com/example/attache/attache/query/Token$Kind" "STRING" "Lcom/example/attache/attache/query/Token$Kind;" (.ref c_STRING) := Sta.start ev_c_STRING (Or.inr ⟨(hw _ (List.mem_of_getElem? (i := 39) rfl)), (hw _ (List.mem_of_getElem? (i := 73) rfl))⟩)
  have E_c_STRING := Exa.start ev_c_STRING nr10
  have O_c_STRING := Fld.start (own_ord nr11 ev_c_STRING)
  obtain ⟨c_NUMBER, ev_c_NUMBER⟩ := exa_v nr8
  have S_c_NUMBER : Sta s s.heap "com/example/attache/attache/query/Token$Kind" "NUMBER" "Lcom/example/attache/attache/query/Token$Kind;" (.ref c_NUMBER) := Sta.start ev_c_NUMBER (Or.inr ⟨(hw _ (List.mem_of_getElem? (i := 39) rfl)), (hw _ (List.mem_of_getElem? (i := 71) rfl))⟩)
  have E_c_NUMBER := Exa.start ev_c_NUMBER nr8
  have O_c_NUMBER := Fld.start (own_ord nr9 ev_c_NUMBER)
  obtain ⟨c_NAMED_PARAMETER, ev_c_NAMED_PARAMETER⟩ := exa_v nr1
  have S_c_NAMED_PARAMETER : Sta s s.heap "com/example/attache/attache/query/Token$Kind" "NAMED_PARAMETER" "Lcom/example/attache/attache/query/Token$Kind;" (.ref c_NAMED_PARAMETER) := Sta.start ev_c_NAMED_PARAMETER (Or.inr ⟨(hw _ (List.mem_of_getElem? (i := 39) rfl)), (hw _ (List.mem_of_getElem? (i := 62) rfl))⟩)
  have E_c_NAMED_PARAMETER := Exa.start ev_c_NAMED_PARAMETER nr1
  have O_c_NAMED_PARAMETER := Fld.start (own_ord nr3 ev_c_NAMED_PARAMETER)
  obtain ⟨c_POSITIONAL_PARAMETER, ev_c_POSITIONAL_PARAMETER⟩ := exa_v nr4
  have S_c_POSITIONAL_PARAMETER : Sta s s.heap "com/example/attache/attache/query/Token$Kind" "POSITIONAL_PARAMETER" "Lcom/example/attache/attache/query/Token$Kind;" (.ref c_POSITIONAL_PARAMETER) := Sta.start ev_c_POSITIONAL_PARAMETER (Or.inr ⟨(hw _ (List.mem_of_getElem? (i := 39) rfl)), (hw _ (List.mem_of_getElem? (i := 64) rfl))⟩)
  have E_c_POSITIONAL_PARAMETER := Exa.start ev_c_POSITIONAL_PARAMETER nr4
  have O_c_POSITIONAL_PARAMETER := Fld.start (own_ord nr5 ev_c_POSITIONAL_PARAMETER)
  obtain ⟨c_SYMBOL, ev_c_SYMBOL⟩ := exa_v nr6
  have S_c_SYMBOL : Sta s s.heap "com/example/attache/attache/query/Token$Kind" "SYMBOL" "Lcom/example/attache/attache/query/Token$Kind;" (.ref c_SYMBOL) := Sta.start ev_c_SYMBOL (Or.inr ⟨(hw _ (List.mem_of_getElem? (i := 39) rfl)), (hw _ (List.mem_of_getElem? (i := 69) rfl))⟩)
  have E_c_SYMBOL := Exa.start ev_c_SYMBOL nr6
  have O_c_SYMBOL := Fld.start (own_ord nr7 ev_c_SYMBOL)
  obtain ⟨c_END, ev_c_END⟩ := exa_v nr12
  have S_c_END : Sta s s.heap "com/example/attache/attache/query/Token$Kind" "END" "Lcom/example/attache/attache/query/Token$Kind;" (.ref c_END) := Sta.start ev_c_END (Or.inr ⟨(hw _ (List.mem_of_getElem? (i := 39) rfl)), (hw _ (List.mem_of_getElem? (i := 77) rfl))⟩)
  have E_c_END := Exa.start ev_c_END nr12
  have O_c_END := Fld.start (own_ord nr13 ev_c_END)
  obtain ⟨cs, ev_cs⟩ := is_v (Cond.before_iff.mp (hsets _ (List.mem_of_getElem? (i := 1) rfl)))
  have S_cs := Sta.start ev_cs (Or.inl (hsets _ (List.mem_of_getElem? (i := 0) rfl)))
  have n_cs : ¬ (cs = (0 : Int32)) := gotF (Cond.eq_ints ev_cs (Term.int_eval (0))) (not_v (Cond.before_iff.mp (hsets _ (List.mem_of_getElem? (i := 2) rfl))))
  have hCH : CHv s own_EL s.vm s.heap := fun _ hp => by cases hp
  obtain ⟨n, o, h1, h2, h3, _, L, rfl, ⟨rfl, N⟩, -, hq⟩ := rm0 l s _ hw tables_1 i0 i1 i2 i3 c_WORD c_STRING c_NUMBER c_NAMED_PARAMETER c_POSITIONAL_PARAMETER c_SYMBOL c_END cs s.heap s.heap.size (Nat.le_refl _) (Old.start s) S_c_WORD E_c_WORD O_c_WORD S_c_STRING E_c_STRING O_c_STRING S_c_NUMBER E_c_NUMBER O_c_NUMBER S_c_NAMED_PARAMETER E_c_NAMED_PARAMETER O_c_NAMED_PARAMETER S_c_POSITIONAL_PARAMETER E_c_POSITIONAL_PARAMETER O_c_POSITIONAL_PARAMETER S_c_SYMBOL E_c_SYMBOL O_c_SYMBOL S_c_END E_c_END O_c_END S_cs n_cs p e ha hc hk s m _ below hf ((Spec.applies_iff_loose hf).mp happ).1 ⟨rfl, State.Warmed39.refl s, rfl, hCH⟩ trivial
  refine ⟨n, _, h1, h2, h3, hpost _ _ _ _ _ _ ⟨Cond.after_iff.mpr rfl, Cond.after_iff.mpr (eq_i res_at (Term.int_eval (1)) rfl), trivial⟩ ⟨hq.1, hq.2.1, hq.2.2.1, (hq.2.2.2.sift fun y hy => Or.inr (N y hy)).mono (by decide) (by decide)⟩⟩
theorem main_1_1 : Claimed_1_1 := comes_1 fun _ _ _ _ _ _ h hF => ⟨h.1, hF⟩
theorem main_1_2 : Claimed_1_2 := comes_1 fun _ _ _ _ _ _ h hF => ⟨h.2.1, hF⟩
end Jvm.Pilot.@@N@@
namespace Jvm.Pilot.@@N@@
open Jvm Jvm.ClassFile Sem Op Lib Jvm.Free Jvm.Stand Jvm.Pilot.@@N@@.Jvm.D
/-! MADE BY PROGRAM (witnessworld.py) out of the Statement's table words and the real class files: 23 classes; the members and pool entries that the words name. The judged class is class 1, her method 2. -/
namespace start1
open Jvm.ClassFile
def u (s : String) : CpInfo := .utf8 (stringToUtf16 s)
/-- a pool by its gaps: so many unusable entries, then the entry; so many at the end -/
def gap : Nat → List CpInfo → List CpInfo
  | 0, r => r
  | n + 1, r => .unusable :: gap n r
def poolList (es : List (Nat × CpInfo)) (last : Nat) : List CpInfo := es.foldr (fun e r => gap e.1 (e.2 :: r)) (gap last [])
def pool (es : List (Nat × CpInfo)) (last : Nat) : Array CpInfo := ⟨poolList es last⟩
def fileOf (pool : Array CpInfo) (this : Nat) (attrs : Array Attribute := #[]) (ms : Array MethodInfo := #[]) (fl : Nat := 33) (sup : Nat := 0) (ifs : Array Nat := #[]) (fds : Array FieldInfo := #[]) : ClassFile where
  minorVersion := 0
  majorVersion := 65
  constantPool := pool
  accessFlags := fl
  thisClass := this
  superClass := sup
  interfaces := ifs
  fields := fds
  methods := ms
  attributes := attrs
def plain (name : String) (sup : Option ClassId) : Class where
  name := name
  kind := .ordinary
  loader := none
  accessFlags := 33
  super := sup
  interfaces := #[]
  cf := none
  fields := #[]
  methods := #[]
  instanceTypes := #[]
  staticTypes := #[]
  resolved := #[]
  callSites := []
  init := .initialized
  statics := none
  mirror := none

def pool0 : Array CpInfo := pool [(5, u "<init>"), (0, u "()V"), (1, .class_ 10), (1, u "java/lang/Object")] 113

def k0c0 : Code := { maxStack := 0, maxLocals := 1, code := object_method_1_code, exceptionTable := #[], attributes := #[] }
def k0m0 : Method := { name := "<init>", desc := "()V", sig := { parameters := [], returnType := none }, accessFlags := 1, code := some k0c0 }
/-- java/lang/Object -/
def k0 : Class := { plain "java/lang/Object" none with
  accessFlags := 33
  interfaces := #[]
  cf := some (fileOf pool0 8 #[] #[{ accessFlags := 1, nameIndex := 5, descriptorIndex := 6, attributes := #[] }] 33 0 #[] #[])
  fields := #[]
  methods := #[k0m0]
  instanceTypes := #[]
  staticTypes := #[]
  resolved := Array.replicate 124 none
  statics := none }

def pool1 : Array CpInfo := pool [(2, .class_ 4), (1, u "java/lang/Object"), (0, u "<init>"), (0, u "()V"), (0, .fieldref 8 9), (0, .class_ 10), (0, .nameAndType 11 12), (0, u "com/example/attache/attache/query/Token$Kind"), (0, u "WORD"), (0, u "Lcom/example/attache/attache/query/Token$Kind;"), (0, .fieldref 8 14), (0, .nameAndType 15 12), (0, u "STRING"), (0, .fieldref 8 17), (0, .nameAndType 18 12), (0, u "NUMBER"), (0, .fieldref 8 20), (0, .nameAndType 21 12), (0, u "NAMED_PARAMETER"), (0, .fieldref 8 23), (0, .nameAndType 24 12), (0, u "POSITIONAL_PARAMETER"), (0, .fieldref 8 26), (0, .nameAndType 27 12), (0, u "SYMBOL"), (0, .fieldref 8 29), (0, .nameAndType 30 12), (0, u "END"), (0, .integer 2147483647), (0, .class_ 33), (0, u "java/lang/String"), (0, .methodref 32 35), (0, .nameAndType 5 36), (0, u "([C)V"), (0, .string 38), (0, u ""), (0, .class_ 40), (0, u "com/example/attache/attache/query/Token"), (0, .methodref 42 43), (0, .class_ 44), (0, .nameAndType 45 46), (0, u "com/example/attache/attache/query/TokenIsParameterPinLaw"), (0, u "kindOf"), (0, u "(I)Lcom/example/attache/attache/query/Token$Kind;"), (0, .methodref 39 48), (0, .nameAndType 5 49), (0, u "(Lcom/example/attache/attache/query/Token$Kind;Ljava/lang/String;I)V"), (0, .methodref 39 51), (0, .nameAndType 52 53), (0, u "isParameter"), (0, u "()Z"), (3, u "law"), (0, u "(IIII)Z")] 6

def k1m0 : Method := { name := "<init>", desc := "()V", sig := { parameters := [], returnType := none }, accessFlags := 1, code := none }
def k1c1 : Code := { maxStack := 2, maxLocals := 1, code := method_2_code, exceptionTable := #[], attributes := #[] }
def k1m1 : Method := { name := "kindOf", desc := "(I)Lcom/example/attache/attache/query/Token$Kind;", sig := { parameters := [.int], returnType := some (.object "com/example/attache/attache/query/Token$Kind") }, accessFlags := 10, code := some k1c1 }
def k1c2 : Code := { maxStack := 5, maxLocals := 9, code := code, exceptionTable := #[], attributes := #[] }
def k1m2 : Method := { name := "law", desc := "(IIII)Z", sig := { parameters := [.int, .int, .int, .int], returnType := some .boolean }, accessFlags := 9, code := some k1c2 }
/-- com/example/attache/attache/query/TokenIsParameterPinLaw -/
def k1 : Class := { plain "com/example/attache/attache/query/TokenIsParameterPinLaw" (some 0) with
  accessFlags := 49
  interfaces := #[]
  cf := some (fileOf pool1 42 #[] #[{ accessFlags := 1, nameIndex := 5, descriptorIndex := 6, attributes := #[] }, { accessFlags := 10, nameIndex := 45, descriptorIndex := 46, attributes := #[] }, { accessFlags := 9, nameIndex := 57, descriptorIndex := 58, attributes := #[] }] 49 2 #[] #[])
  fields := #[]
  methods := #[k1m0, k1m1, k1m2]
  instanceTypes := #[]
  staticTypes := #[]
  resolved := Array.replicate 65 none
  statics := none }

def pool2 : Array CpInfo := pool [(1, .class_ 2), (0, u "java/io/Serializable"), (0, .class_ 4), (0, u "java/lang/Object")] 2

/-- java/io/Serializable -/
def k2 : Class := { plain "java/io/Serializable" (some 0) with
  accessFlags := 1537
  interfaces := #[]
  cf := some (fileOf pool2 1 #[] #[] 1537 3 #[] #[])
  fields := #[]
  methods := #[]
  instanceTypes := #[]
  staticTypes := #[]
  resolved := Array.replicate 7 none
  statics := none }

def pool3 : Array CpInfo := pool [(1, .class_ 2), (0, u "java/lang/Comparable"), (0, .class_ 4), (0, u "java/lang/Object")] 7

/-- java/lang/Comparable -/
def k3 : Class := { plain "java/lang/Comparable" (some 0) with
  accessFlags := 1537
  interfaces := #[]
  cf := some (fileOf pool3 1 #[] #[] 1537 3 #[] #[])
  fields := #[]
  methods := #[]
  instanceTypes := #[]
  staticTypes := #[]
  resolved := Array.replicate 12 none
  statics := none }

def pool4 : Array CpInfo := pool [(2, .class_ 4), (1, u "java/lang/CharSequence"), (42, .class_ 48), (0, u "java/lang/CharSequence$1CodePointIterator"), (10, .class_ 60), (0, u "java/lang/CharSequence$1CharIterator"), (5, .class_ 67), (0, u "java/lang/Object")] 63

/-- java/lang/CharSequence -/
def k4 : Class := { plain "java/lang/CharSequence" (some 0) with
  accessFlags := 1537
  interfaces := #[]
  cf := some (fileOf pool4 2 #[.nestMembers #[47, 59]] #[] 1537 66 #[] #[])
  fields := #[]
  methods := #[]
  instanceTypes := #[]
  staticTypes := #[]
  resolved := Array.replicate 131 none
  statics := none }

def pool5 : Array CpInfo := pool [(1, .class_ 2), (0, u "java/lang/constant/Constable"), (0, .class_ 4), (0, u "java/lang/Object")] 6

/-- java/lang/constant/Constable -/
def k5 : Class := { plain "java/lang/constant/Constable" (some 0) with
  accessFlags := 1537
  interfaces := #[]
  cf := some (fileOf pool5 1 #[] #[] 1537 3 #[] #[])
  fields := #[]
  methods := #[]
  instanceTypes := #[]
  staticTypes := #[]
  resolved := Array.replicate 11 none
  statics := none }

def pool6 : Array CpInfo := pool [(1, .class_ 2), (0, u "java/lang/constant/ConstantDesc"), (0, .class_ 4), (0, u "java/lang/Object")] 32

/-- java/lang/constant/ConstantDesc -/
def k6 : Class := { plain "java/lang/constant/ConstantDesc" (some 0) with
  accessFlags := 1537
  interfaces := #[]
  cf := some (fileOf pool6 1 #[] #[] 1537 3 #[] #[])
  fields := #[]
  methods := #[]
  instanceTypes := #[]
  staticTypes := #[]
  resolved := Array.replicate 37 none
  statics := none }

def pool7 : Array CpInfo := pool [(1, .methodref 2 3), (0, .class_ 4), (0, .nameAndType 5 6), (0, u "java/lang/Object"), (0, u "<init>"), (0, u "()V"), (2, .fieldref 10 11), (0, .class_ 12), (0, .nameAndType 13 14), (0, u "java/lang/String"), (0, u "value"), (0, u "[B"), (0, .fieldref 10 16), (0, .nameAndType 17 18), (0, u "coder"), (0, u "B"), (2, u "hash"), (0, u "I"), (2, u "hashIsZero"), (0, u "Z"), (0, .methodref 10 28), (0, .nameAndType 5 29), (0, u "([CIILjava/lang/Void;)V"), (8, .fieldref 10 39), (0, .nameAndType 40 26), (0, u "COMPACT_STRINGS"), (1, .class_ 44), (1, u "java/lang/StringUTF16"), (0, u "compress"), (1, .methodref 42 48), (0, .nameAndType 49 50), (0, u "coderFromArrayLen"), (0, u "([BI)B"), (126, .methodref 42 178), (0, .nameAndType 45 179), (0, u "([CII)[B"), (395, .class_ 576), (0, u "java/lang/CharSequence"), (22, u "CASE_INSENSITIVE_ORDER"), (0, u "Ljava/util/Comparator;"), (409, u "([C)V"), (90, u "serialPersistentFields"), (0, u "[Ljava/io/ObjectStreamField;"), (0, .class_ 1104), (0, u "java/lang/String$CaseInsensitiveComparator"), (1, .class_ 1107), (0, u "java/io/Serializable"), (0, .class_ 1109), (0, u "java/lang/Comparable"), (0, .class_ 1111), (0, u "java/lang/constant/Constable"), (0, .class_ 1113), (0, u "java/lang/constant/ConstantDesc"), (2, u "serialVersionUID"), (0, u "J"), (3, u "REPL"), (0, u "C"), (2, u "LATIN1"), (1, u "UTF16")] 323

def k7m0 : Method := { name := "<init>", desc := "()V", sig := { parameters := [], returnType := none }, accessFlags := 1, code := none }
def k7c1 : Code := { maxStack := 5, maxLocals := 2, code := jdk_42_method_3_code, exceptionTable := #[], attributes := #[] }
def k7m1 : Method := { name := "<init>", desc := "([C)V", sig := { parameters := [(.array .char)], returnType := none }, accessFlags := 1, code := some k7c1 }
def k7c2 : Code := { maxStack := 4, maxLocals := 6, code := jdk_42_method_149_code, exceptionTable := #[], attributes := #[] }
def k7m2 : Method := { name := "<init>", desc := "([CIILjava/lang/Void;)V", sig := { parameters := [(.array .char), .int, .int, (.object "java/lang/Void")], returnType := none }, accessFlags := 2, code := some k7c2 }
/-- java/lang/String -/
def k7 : Class := { plain "java/lang/String" (some 0) with
  accessFlags := 49
  interfaces := #[2, 3, 4, 5, 6]
  cf := some (fileOf pool7 10 #[.nestMembers #[1103]] #[{ accessFlags := 1, nameIndex := 5, descriptorIndex := 6, attributes := #[] }, { accessFlags := 1, nameIndex := 5, descriptorIndex := 1010, attributes := #[] }, { accessFlags := 2, nameIndex := 5, descriptorIndex := 29, attributes := #[] }] 49 2 #[1106, 1108, 575, 1110, 1112] #[{ accessFlags := 18, nameIndex := 13, descriptorIndex := 14, attributes := #[] }, { accessFlags := 18, nameIndex := 17, descriptorIndex := 18, attributes := #[] }, { accessFlags := 2, nameIndex := 21, descriptorIndex := 22, attributes := #[] }, { accessFlags := 2, nameIndex := 25, descriptorIndex := 26, attributes := #[] }, { accessFlags := 26, nameIndex := 1116, descriptorIndex := 1117, attributes := #[] }, { accessFlags := 24, nameIndex := 40, descriptorIndex := 26, attributes := #[] }, { accessFlags := 26, nameIndex := 1101, descriptorIndex := 1102, attributes := #[] }, { accessFlags := 26, nameIndex := 1121, descriptorIndex := 1122, attributes := #[] }, { accessFlags := 25, nameIndex := 599, descriptorIndex := 600, attributes := #[] }, { accessFlags := 24, nameIndex := 1125, descriptorIndex := 18, attributes := #[] }, { accessFlags := 24, nameIndex := 1127, descriptorIndex := 18, attributes := #[] }])
  fields := #[{ name := "value", type := (.array .byte), accessFlags := 18, slot := 0, constantValue := 0 }, { name := "coder", type := .byte, accessFlags := 18, slot := 1, constantValue := 0 }, { name := "hash", type := .int, accessFlags := 2, slot := 2, constantValue := 0 }, { name := "hashIsZero", type := .boolean, accessFlags := 2, slot := 3, constantValue := 0 }, { name := "serialVersionUID", type := .long, accessFlags := 26, slot := 0, constantValue := 0 }, { name := "COMPACT_STRINGS", type := .boolean, accessFlags := 24, slot := 1, constantValue := 0 }, { name := "serialPersistentFields", type := (.array (.object "java/io/ObjectStreamField")), accessFlags := 26, slot := 2, constantValue := 0 }, { name := "REPL", type := .char, accessFlags := 26, slot := 3, constantValue := 0 }, { name := "CASE_INSENSITIVE_ORDER", type := (.object "java/util/Comparator"), accessFlags := 25, slot := 4, constantValue := 0 }, { name := "LATIN1", type := .byte, accessFlags := 24, slot := 5, constantValue := 0 }, { name := "UTF16", type := .byte, accessFlags := 24, slot := 6, constantValue := 0 }]
  methods := #[k7m0, k7m1, k7m2]
  instanceTypes := #[(.array .byte), .byte, .int, .boolean]
  staticTypes := #[.long, .boolean, (.array (.object "java/io/ObjectStreamField")), .char, (.object "java/util/Comparator"), .byte, .byte]
  resolved := Array.replicate 1451 none
  statics := some 0 }

def pool8 : Array CpInfo := pool [(6, .class_ 8), (1, u "java/lang/Object"), (0, u "<init>"), (0, u "()V"), (1, .class_ 14), (1, u "java/lang/StringUTF16"), (31, u "$assertionsDisabled"), (0, u "Z"), (13, u "HI_BYTE_SHIFT"), (0, u "I"), (2, u "LO_BYTE_SHIFT"), (49, .methodref 12 116), (0, .nameAndType 117 118), (0, u "compress"), (0, u "([CI[BII)I"), (3, u "([CII)[B"), (138, u "coderFromArrayLen"), (0, u "([BI)B"), (106, .class_ 371), (1, u "java/lang/StringUTF16$LinesSpliterator"), (58, u "MAX_LENGTH"), (196, .class_ 628), (0, u "java/lang/StringUTF16$CodePointsSpliterator"), (0, .class_ 630), (0, u "java/lang/StringUTF16$CharsSpliterator")] 4

def k8m0 : Method := { name := "<init>", desc := "()V", sig := { parameters := [], returnType := none }, accessFlags := 0, code := none }
def k8c1 : Code := { maxStack := 2, maxLocals := 2, code := jdk_52_method_15_code, exceptionTable := #[], attributes := #[] }
def k8m1 : Method := { name := "coderFromArrayLen", desc := "([BI)B", sig := { parameters := [(.array .byte), .int], returnType := some .byte }, accessFlags := 8, code := some k8c1 }
def k8c2 : Code := { maxStack := 5, maxLocals := 6, code := jdk_52_method_16_code, exceptionTable := #[], attributes := #[] }
def k8m2 : Method := { name := "compress", desc := "([CII)[B", sig := { parameters := [(.array .char), .int, .int], returnType := some (.array .byte) }, accessFlags := 9, code := some k8c2 }
def k8c3 : Code := { maxStack := 3, maxLocals := 7, code := jdk_52_method_21_code, exceptionTable := #[], attributes := #[] }
def k8m3 : Method := { name := "compress", desc := "([CI[BII)I", sig := { parameters := [(.array .char), .int, (.array .byte), .int, .int], returnType := some .int }, accessFlags := 9, code := some k8c3 }
/-- java/lang/StringUTF16 -/
def k8 : Class := { plain "java/lang/StringUTF16" (some 0) with
  accessFlags := 48
  interfaces := #[]
  cf := some (fileOf pool8 12 #[.nestMembers #[627, 629, 369]] #[{ accessFlags := 0, nameIndex := 9, descriptorIndex := 10, attributes := #[] }, { accessFlags := 8, nameIndex := 261, descriptorIndex := 262, attributes := #[] }, { accessFlags := 9, nameIndex := 117, descriptorIndex := 122, attributes := #[] }, { accessFlags := 9, nameIndex := 117, descriptorIndex := 118, attributes := #[] }] 48 6 #[] #[{ accessFlags := 26, nameIndex := 61, descriptorIndex := 62, attributes := #[] }, { accessFlags := 26, nameIndex := 65, descriptorIndex := 62, attributes := #[] }, { accessFlags := 24, nameIndex := 430, descriptorIndex := 62, attributes := #[] }, { accessFlags := 4120, nameIndex := 46, descriptorIndex := 47, attributes := #[] }])
  fields := #[{ name := "HI_BYTE_SHIFT", type := .int, accessFlags := 26, slot := 0, constantValue := 0 }, { name := "LO_BYTE_SHIFT", type := .int, accessFlags := 26, slot := 1, constantValue := 0 }, { name := "MAX_LENGTH", type := .int, accessFlags := 24, slot := 2, constantValue := 0 }, { name := "$assertionsDisabled", type := .boolean, accessFlags := 4120, slot := 3, constantValue := 0 }]
  methods := #[k8m0, k8m1, k8m2, k8m3]
  instanceTypes := #[]
  staticTypes := #[.int, .int, .int, .boolean]
  resolved := Array.replicate 635 none
  statics := none }

def pool9 : Array CpInfo := pool [(1, .methodref 2 3), (0, .class_ 4), (0, .nameAndType 5 6), (0, u "java/lang/Object"), (0, u "<init>"), (0, u "()V"), (0, .class_ 8), (0, u "java/lang/Record")] 13

def k9c0 : Code := { maxStack := 1, maxLocals := 1, code := jdk_30_method_1_code, exceptionTable := #[], attributes := #[] }
def k9m0 : Method := { name := "<init>", desc := "()V", sig := { parameters := [], returnType := none }, accessFlags := 4, code := some k9c0 }
/-- java/lang/Record -/
def k9 : Class := { plain "java/lang/Record" (some 0) with
  accessFlags := 1057
  interfaces := #[]
  cf := some (fileOf pool9 7 #[] #[{ accessFlags := 4, nameIndex := 5, descriptorIndex := 6, attributes := #[] }] 1057 2 #[] #[])
  fields := #[]
  methods := #[k9m0]
  instanceTypes := #[]
  staticTypes := #[]
  resolved := Array.replicate 22 none
  statics := none }

def pool10 : Array CpInfo := pool [(1, .methodref 2 3), (0, .class_ 4), (0, .nameAndType 5 6), (0, u "java/lang/Record"), (0, u "<init>"), (0, u "()V"), (0, .fieldref 8 9), (0, .class_ 10), (0, .nameAndType 11 12), (0, u "com/example/attache/attache/query/Token"), (0, u "kind"), (0, u "Lcom/example/attache/attache/query/Token$Kind;"), (0, .fieldref 8 14), (0, .nameAndType 15 16), (0, u "text"), (0, u "Ljava/lang/String;"), (0, .fieldref 8 18), (0, .nameAndType 19 20), (0, u "position"), (0, u "I"), (1, .class_ 24), (1, u "com/example/attache/attache/query/Token$Kind"), (10, .fieldref 22 36), (0, .nameAndType 37 12), (0, u "NAMED_PARAMETER"), (0, .fieldref 22 39), (0, .nameAndType 40 12), (0, u "POSITIONAL_PARAMETER"), (22, u "(Lcom/example/attache/attache/query/Token$Kind;Ljava/lang/String;I)V"), (5, u "isParameter"), (0, u "()Z")] 39

def k10c0 : Code := { maxStack := 2, maxLocals := 4, code := prog_40_method_1_code, exceptionTable := #[], attributes := #[] }
def k10m0 : Method := { name := "<init>", desc := "(Lcom/example/attache/attache/query/Token$Kind;Ljava/lang/String;I)V", sig := { parameters := [(.object "com/example/attache/attache/query/Token$Kind"), (.object "java/lang/String"), .int], returnType := none }, accessFlags := 0, code := some k10c0 }
def k10c1 : Code := { maxStack := 2, maxLocals := 1, code := prog_40_method_3_code, exceptionTable := #[], attributes := #[] }
def k10m1 : Method := { name := "isParameter", desc := "()Z", sig := { parameters := [], returnType := some .boolean }, accessFlags := 0, code := some k10c1 }
/-- com/example/attache/attache/query/Token -/
def k10 : Class := { plain "com/example/attache/attache/query/Token" (some 9) with
  accessFlags := 48
  interfaces := #[]
  cf := some (fileOf pool10 8 #[.nestMembers #[22]] #[{ accessFlags := 0, nameIndex := 5, descriptorIndex := 63, attributes := #[] }, { accessFlags := 0, nameIndex := 69, descriptorIndex := 70, attributes := #[] }] 48 2 #[] #[{ accessFlags := 18, nameIndex := 11, descriptorIndex := 12, attributes := #[] }, { accessFlags := 18, nameIndex := 15, descriptorIndex := 16, attributes := #[] }, { accessFlags := 18, nameIndex := 19, descriptorIndex := 20, attributes := #[] }])
  fields := #[{ name := "kind", type := (.object "com/example/attache/attache/query/Token$Kind"), accessFlags := 18, slot := 0, constantValue := 0 }, { name := "text", type := (.object "java/lang/String"), accessFlags := 18, slot := 1, constantValue := 0 }, { name := "position", type := .int, accessFlags := 18, slot := 2, constantValue := 0 }]
  methods := #[k10m0, k10m1]
  instanceTypes := #[(.object "com/example/attache/attache/query/Token$Kind"), (.object "java/lang/String"), .int]
  staticTypes := #[]
  resolved := Array.replicate 110 none
  statics := none }

def pool11 : Array CpInfo := pool [(2, .class_ 4), (1, u "java/lang/Enum"), (0, u "name"), (0, u "Ljava/lang/String;"), (2, u "ordinal"), (0, u "I"), (1, .class_ 14), (1, u "java/lang/Object"), (4, u "hash"), (86, .class_ 108), (1, u "java/lang/Enum$EnumDesc"), (2, .class_ 112), (0, u "java/lang/constant/Constable"), (0, .class_ 114), (0, u "java/lang/Comparable"), (0, .class_ 116), (0, u "java/io/Serializable")] 87

/-- java/lang/Enum -/
def k11 : Class := { plain "java/lang/Enum" (some 0) with
  accessFlags := 1057
  interfaces := #[5, 3, 2]
  cf := some (fileOf pool11 2 #[.nestMembers #[106]] #[] 1057 12 #[111, 113, 115] #[{ accessFlags := 18, nameIndex := 5, descriptorIndex := 6, attributes := #[] }, { accessFlags := 18, nameIndex := 9, descriptorIndex := 10, attributes := #[] }, { accessFlags := 2, nameIndex := 19, descriptorIndex := 10, attributes := #[] }])
  fields := #[{ name := "name", type := (.object "java/lang/String"), accessFlags := 18, slot := 0, constantValue := 0 }, { name := "ordinal", type := .int, accessFlags := 18, slot := 1, constantValue := 0 }, { name := "hash", type := .int, accessFlags := 2, slot := 2, constantValue := 0 }]
  methods := #[]
  instanceTypes := #[(.object "java/lang/String"), .int, .int]
  staticTypes := #[]
  resolved := Array.replicate 204 none
  statics := none }

def pool12 : Array CpInfo := pool [(1, .class_ 2), (0, u "com/example/attache/attache/query/Token$Kind"), (2, u "WORD"), (0, u "Lcom/example/attache/attache/query/Token$Kind;"), (2, u "STRING"), (2, u "NUMBER"), (2, u "NAMED_PARAMETER"), (2, u "POSITIONAL_PARAMETER"), (2, u "SYMBOL"), (2, u "END"), (2, u "$VALUES"), (0, u "[Lcom/example/attache/attache/query/Token$Kind;"), (6, .class_ 37), (1, u "java/lang/Enum"), (30, .class_ 69), (0, u "com/example/attache/attache/query/Token")] 2

/-- com/example/attache/attache/query/Token$Kind -/
def k12 : Class := { plain "com/example/attache/attache/query/Token$Kind" (some 11) with
  accessFlags := 16432
  interfaces := #[]
  cf := some (fileOf pool12 1 #[.nestHost 68] #[] 16432 35 #[] #[{ accessFlags := 16409, nameIndex := 5, descriptorIndex := 6, attributes := #[] }, { accessFlags := 16409, nameIndex := 9, descriptorIndex := 6, attributes := #[] }, { accessFlags := 16409, nameIndex := 12, descriptorIndex := 6, attributes := #[] }, { accessFlags := 16409, nameIndex := 15, descriptorIndex := 6, attributes := #[] }, { accessFlags := 16409, nameIndex := 18, descriptorIndex := 6, attributes := #[] }, { accessFlags := 16409, nameIndex := 21, descriptorIndex := 6, attributes := #[] }, { accessFlags := 16409, nameIndex := 24, descriptorIndex := 6, attributes := #[] }, { accessFlags := 4122, nameIndex := 27, descriptorIndex := 28, attributes := #[] }])
  fields := #[{ name := "WORD", type := (.object "com/example/attache/attache/query/Token$Kind"), accessFlags := 16409, slot := 0, constantValue := 0 }, { name := "STRING", type := (.object "com/example/attache/attache/query/Token$Kind"), accessFlags := 16409, slot := 1, constantValue := 0 }, { name := "NUMBER", type := (.object "com/example/attache/attache/query/Token$Kind"), accessFlags := 16409, slot := 2, constantValue := 0 }, { name := "NAMED_PARAMETER", type := (.object "com/example/attache/attache/query/Token$Kind"), accessFlags := 16409, slot := 3, constantValue := 0 }, { name := "POSITIONAL_PARAMETER", type := (.object "com/example/attache/attache/query/Token$Kind"), accessFlags := 16409, slot := 4, constantValue := 0 }, { name := "SYMBOL", type := (.object "com/example/attache/attache/query/Token$Kind"), accessFlags := 16409, slot := 5, constantValue := 0 }, { name := "END", type := (.object "com/example/attache/attache/query/Token$Kind"), accessFlags := 16409, slot := 6, constantValue := 0 }, { name := "$VALUES", type := (.array (.object "com/example/attache/attache/query/Token$Kind")), accessFlags := 4122, slot := 7, constantValue := 0 }]
  methods := #[]
  instanceTypes := #[(.object "java/lang/String"), .int, .int]
  staticTypes := #[(.object "com/example/attache/attache/query/Token$Kind"), (.object "com/example/attache/attache/query/Token$Kind"), (.object "com/example/attache/attache/query/Token$Kind"), (.object "com/example/attache/attache/query/Token$Kind"), (.object "com/example/attache/attache/query/Token$Kind"), (.object "com/example/attache/attache/query/Token$Kind"), (.object "com/example/attache/attache/query/Token$Kind"), (.array (.object "com/example/attache/attache/query/Token$Kind"))]
  resolved := Array.replicate 72 none
  statics := some 1 }

def pool13 : Array CpInfo := pool [(4, .class_ 6), (1, u "java/lang/Object"), (0, u "<init>"), (0, u "()V"), (5, .class_ 16), (1, u "java/lang/StringLatin1"), (104, u "$assertionsDisabled"), (0, u "Z"), (98, .class_ 223), (1, u "java/lang/StringLatin1$LinesSpliterator"), (166, .class_ 391), (0, u "java/lang/StringLatin1$CharsSpliterator")] 3

def k13m0 : Method := { name := "<init>", desc := "()V", sig := { parameters := [], returnType := none }, accessFlags := 0, code := none }
/-- java/lang/StringLatin1 -/
def k13 : Class := { plain "java/lang/StringLatin1" (some 0) with
  accessFlags := 48
  interfaces := #[]
  cf := some (fileOf pool13 14 #[.nestMembers #[390, 221]] #[{ accessFlags := 0, nameIndex := 7, descriptorIndex := 8, attributes := #[] }] 48 4 #[] #[{ accessFlags := 4120, nameIndex := 121, descriptorIndex := 122, attributes := #[] }])
  fields := #[{ name := "$assertionsDisabled", type := .boolean, accessFlags := 4120, slot := 0, constantValue := 0 }]
  methods := #[k13m0]
  instanceTypes := #[]
  staticTypes := #[.boolean]
  resolved := Array.replicate 395 none
  statics := none }

def pool14 : Array CpInfo := pool [(2, .class_ 4), (1, u "java/lang/Object"), (0, u "<init>"), (0, u "()V"), (17, .class_ 26), (1, u "jdk/internal/util/Preconditions"), (28, .class_ 56), (0, u "jdk/internal/util/Preconditions$4"), (57, .class_ 115), (0, u "jdk/internal/util/Preconditions$1"), (7, u "SIOOBE_FORMATTER"), (0, u "Ljava/util/function/BiFunction;"), (0, .class_ 126), (0, u "jdk/internal/util/Preconditions$2"), (3, u "AIOOBE_FORMATTER"), (0, .class_ 132), (0, u "jdk/internal/util/Preconditions$3"), (3, u "IOOBE_FORMATTER")] 57

def k14m0 : Method := { name := "<init>", desc := "()V", sig := { parameters := [], returnType := none }, accessFlags := 1, code := none }
/-- jdk/internal/util/Preconditions -/
def k14 : Class := { plain "jdk/internal/util/Preconditions" (some 0) with
  accessFlags := 33
  interfaces := #[]
  cf := some (fileOf pool14 24 #[.nestMembers #[55, 131, 125, 114]] #[{ accessFlags := 1, nameIndex := 5, descriptorIndex := 6, attributes := #[] }] 33 2 #[] #[{ accessFlags := 25, nameIndex := 123, descriptorIndex := 124, attributes := #[] }, { accessFlags := 25, nameIndex := 130, descriptorIndex := 124, attributes := #[] }, { accessFlags := 25, nameIndex := 136, descriptorIndex := 124, attributes := #[] }])
  fields := #[{ name := "SIOOBE_FORMATTER", type := (.object "java/util/function/BiFunction"), accessFlags := 25, slot := 0, constantValue := 0 }, { name := "AIOOBE_FORMATTER", type := (.object "java/util/function/BiFunction"), accessFlags := 25, slot := 1, constantValue := 0 }, { name := "IOOBE_FORMATTER", type := (.object "java/util/function/BiFunction"), accessFlags := 25, slot := 2, constantValue := 0 }]
  methods := #[k14m0]
  instanceTypes := #[]
  staticTypes := #[(.object "java/util/function/BiFunction"), (.object "java/util/function/BiFunction"), (.object "java/util/function/BiFunction")]
  resolved := Array.replicate 194 none
  statics := some 2 }

def pool15 : Array CpInfo := pool [(9, u "<init>"), (6, .class_ 18), (1, u "java/lang/Object"), (0, u "()V"), (1, .class_ 23), (1, u "jdk/internal/util/ArraysSupport"), (0, u "LOG2_ARRAY_LONG_INDEX_SCALE"), (0, u "I"), (2, u "U"), (0, u "Ljdk/internal/misc/Unsafe;"), (8, u "BIG_ENDIAN"), (0, u "Z"), (8, u "LOG2_BYTE_BIT_SIZE"), (4, u "LOG2_ARRAY_INT_INDEX_SCALE"), (54, u "JLA"), (0, u "Ljdk/internal/access/JavaLangAccess;"), (11, u "LOG2_ARRAY_BOOLEAN_INDEX_SCALE"), (9, u "LOG2_ARRAY_BYTE_INDEX_SCALE"), (5, u "LOG2_ARRAY_CHAR_INDEX_SCALE"), (5, u "LOG2_ARRAY_SHORT_INDEX_SCALE"), (18, u "LOG2_ARRAY_FLOAT_INDEX_SCALE"), (24, u "LOG2_ARRAY_DOUBLE_INDEX_SCALE"), (89, u "T_BOOLEAN"), (2, u "T_CHAR"), (1, u "T_FLOAT"), (1, u "T_DOUBLE"), (1, u "T_BYTE"), (1, u "T_SHORT"), (1, u "T_INT"), (1, u "T_LONG"), (1, u "SOFT_MAX_ARRAY_LENGTH")] 83

def k15m0 : Method := { name := "<init>", desc := "()V", sig := { parameters := [], returnType := none }, accessFlags := 2, code := none }
/-- jdk/internal/util/ArraysSupport -/
def k15 : Class := { plain "jdk/internal/util/ArraysSupport" (some 0) with
  accessFlags := 33
  interfaces := #[]
  cf := some (fileOf pool15 21 #[] #[{ accessFlags := 2, nameIndex := 9, descriptorIndex := 19, attributes := #[] }] 33 16 #[] #[{ accessFlags := 24, nameIndex := 28, descriptorIndex := 29, attributes := #[] }, { accessFlags := 26, nameIndex := 38, descriptorIndex := 39, attributes := #[] }, { accessFlags := 25, nameIndex := 121, descriptorIndex := 25, attributes := #[] }, { accessFlags := 25, nameIndex := 131, descriptorIndex := 25, attributes := #[] }, { accessFlags := 25, nameIndex := 137, descriptorIndex := 25, attributes := #[] }, { accessFlags := 25, nameIndex := 143, descriptorIndex := 25, attributes := #[] }, { accessFlags := 25, nameIndex := 53, descriptorIndex := 25, attributes := #[] }, { accessFlags := 25, nameIndex := 24, descriptorIndex := 25, attributes := #[] }, { accessFlags := 25, nameIndex := 162, descriptorIndex := 25, attributes := #[] }, { accessFlags := 25, nameIndex := 187, descriptorIndex := 25, attributes := #[] }, { accessFlags := 26, nameIndex := 48, descriptorIndex := 25, attributes := #[] }, { accessFlags := 25, nameIndex := 277, descriptorIndex := 25, attributes := #[] }, { accessFlags := 25, nameIndex := 280, descriptorIndex := 25, attributes := #[] }, { accessFlags := 25, nameIndex := 282, descriptorIndex := 25, attributes := #[] }, { accessFlags := 25, nameIndex := 284, descriptorIndex := 25, attributes := #[] }, { accessFlags := 25, nameIndex := 286, descriptorIndex := 25, attributes := #[] }, { accessFlags := 25, nameIndex := 288, descriptorIndex := 25, attributes := #[] }, { accessFlags := 25, nameIndex := 290, descriptorIndex := 25, attributes := #[] }, { accessFlags := 25, nameIndex := 292, descriptorIndex := 25, attributes := #[] }, { accessFlags := 26, nameIndex := 108, descriptorIndex := 109, attributes := #[] }, { accessFlags := 25, nameIndex := 294, descriptorIndex := 25, attributes := #[] }])
  fields := #[{ name := "U", type := (.object "jdk/internal/misc/Unsafe"), accessFlags := 24, slot := 0, constantValue := 0 }, { name := "BIG_ENDIAN", type := .boolean, accessFlags := 26, slot := 1, constantValue := 0 }, { name := "LOG2_ARRAY_BOOLEAN_INDEX_SCALE", type := .int, accessFlags := 25, slot := 2, constantValue := 0 }, { name := "LOG2_ARRAY_BYTE_INDEX_SCALE", type := .int, accessFlags := 25, slot := 3, constantValue := 0 }, { name := "LOG2_ARRAY_CHAR_INDEX_SCALE", type := .int, accessFlags := 25, slot := 4, constantValue := 0 }, { name := "LOG2_ARRAY_SHORT_INDEX_SCALE", type := .int, accessFlags := 25, slot := 5, constantValue := 0 }, { name := "LOG2_ARRAY_INT_INDEX_SCALE", type := .int, accessFlags := 25, slot := 6, constantValue := 0 }, { name := "LOG2_ARRAY_LONG_INDEX_SCALE", type := .int, accessFlags := 25, slot := 7, constantValue := 0 }, { name := "LOG2_ARRAY_FLOAT_INDEX_SCALE", type := .int, accessFlags := 25, slot := 8, constantValue := 0 }, { name := "LOG2_ARRAY_DOUBLE_INDEX_SCALE", type := .int, accessFlags := 25, slot := 9, constantValue := 0 }, { name := "LOG2_BYTE_BIT_SIZE", type := .int, accessFlags := 26, slot := 10, constantValue := 0 }, { name := "T_BOOLEAN", type := .int, accessFlags := 25, slot := 11, constantValue := 0 }, { name := "T_CHAR", type := .int, accessFlags := 25, slot := 12, constantValue := 0 }, { name := "T_FLOAT", type := .int, accessFlags := 25, slot := 13, constantValue := 0 }, { name := "T_DOUBLE", type := .int, accessFlags := 25, slot := 14, constantValue := 0 }, { name := "T_BYTE", type := .int, accessFlags := 25, slot := 15, constantValue := 0 }, { name := "T_SHORT", type := .int, accessFlags := 25, slot := 16, constantValue := 0 }, { name := "T_INT", type := .int, accessFlags := 25, slot := 17, constantValue := 0 }, { name := "T_LONG", type := .int, accessFlags := 25, slot := 18, constantValue := 0 }, { name := "JLA", type := (.object "jdk/internal/access/JavaLangAccess"), accessFlags := 26, slot := 19, constantValue := 0 }, { name := "SOFT_MAX_ARRAY_LENGTH", type := .int, accessFlags := 25, slot := 20, constantValue := 0 }]
  methods := #[k15m0]
  instanceTypes := #[]
  staticTypes := #[(.object "jdk/internal/misc/Unsafe"), .boolean, .int, .int, .int, .int, .int, .int, .int, .int, .int, .int, .int, .int, .int, .int, .int, .int, .int, (.object "jdk/internal/access/JavaLangAccess"), .int]
  resolved := Array.replicate 378 none
  statics := none }

def pool16 : Array CpInfo := pool [(1, u "java/lang/Cloneable"), (0, .class_ 1), (0, u "java/lang/Object"), (0, .class_ 3)] 3

/-- java/lang/Cloneable -/
def k16 : Class := { plain "java/lang/Cloneable" (some 0) with
  accessFlags := 1537
  interfaces := #[]
  cf := some (fileOf pool16 2 #[] #[] 1537 4 #[] #[])
  fields := #[]
  methods := #[]
  instanceTypes := #[]
  staticTypes := #[]
  resolved := Array.replicate 8 none
  statics := none }

/-- the primitive byte -/
def k17 : Class := { plain "byte" none with kind := .primitive 'B', accessFlags := 0x411 }
/-- [B -/
def k18 : Class := { plain "[B" (some 0) with kind := .array 17 .byte, interfaces := #[16, 2], accessFlags := 1041 }

/-- the primitive char -/
def k19 : Class := { plain "char" none with kind := .primitive 'C', accessFlags := 0x411 }
/-- [C -/
def k20 : Class := { plain "[C" (some 0) with kind := .array 19 .char, interfaces := #[16, 2], accessFlags := 1041 }

/-- the primitive int -/
def k21 : Class := { plain "int" none with kind := .primitive 'I', accessFlags := 0x411 }
/-- [I -/
def k22 : Class := { plain "[I" (some 0) with kind := .array 21 .int, interfaces := #[16, 2], accessFlags := 1041 }

def heap : Heap := #[{ cls := 7, slots := #[.long 0, .int 1, .null, .int 0, .null, .int 0, .int 0], vm := .statics 7 },
  { cls := 12, slots := #[.ref 3, .ref 4, .ref 5, .ref 6, .ref 7, .ref 8, .ref 9, .null], vm := .statics 12 },
  { cls := 14, slots := #[.null, .null, .null], vm := .statics 14 },
  { cls := 12, slots := #[.null, .int 0, .int 0], vm := .none },
  { cls := 12, slots := #[.null, .int 1, .int 0], vm := .none },
  { cls := 12, slots := #[.null, .int 2, .int 0], vm := .none },
  { cls := 12, slots := #[.null, .int 3, .int 0], vm := .none },
  { cls := 12, slots := #[.null, .int 4, .int 0], vm := .none },
  { cls := 12, slots := #[.null, .int 5, .int 0], vm := .none },
  { cls := 12, slots := #[.null, .int 6, .int 0], vm := .none }]
def classes : Array Class := #[k0, k1, k2, k3, k4, k5, k6, k7, k8, k9, k10, k11, k12, k13, k14, k15, k16, k17, k18, k19, k20, k21, k22]
def interned : List (Array UInt16 × Addr) := []
def slotsUsed : Nat := 39
def theMethod : MethodId := ⟨1, 2⟩
def args0 : Array Value := #[.int 3, .int 7, .int 1, .int 1]
def aboutOver (below : List Frame) : State where
  vm := { classes := classes, interned := interned.toArray }
  heap := heap
  slotsUsed := slotsUsed
  threads := #[{ frames := .invoking theMethod args0 :: below }]
def below0 : List Frame := [.native { method := ⟨0, 0⟩, args := #[] }]
def about1 : State := aboutOver below0
def p0 : Program := .bare "" "" ""
def e0 : Env := launch0.env 0 0 0
theorem w_frames : about1.frames = Frame.invoking theMethod args0 :: below0 := rfl
set_option maxRecDepth 65536 in
theorem w_args : argsFit about1.vm theMethod args0 = true := by decide +kernel
set_option maxRecDepth 65536 in
theorem w_heap : heapFits about1 = true := by decide +kernel
set_option maxRecDepth 65536 in
theorem w_runnable : about1.curStatus? = some .runnable := by decide +kernel
set_option maxRecDepth 65536 in
theorem w_alone : about1.alone = true := by decide +kernel
set_option maxRecDepth 65536 in
theorem w_named : about1.methodNamed? x = some theMethod := by decide +kernel
set_option maxRecDepth 65536 in
theorem w_hears : about1.hears theMethod below0 = true := by decide +kernel
set_option maxRecDepth 65536 in
theorem w_ripe : about1.ripe theMethod args0 below0 = true := by decide +kernel
theorem w_running : about1.status = .running := rfl
set_option maxRecDepth 65536 in
theorem w_room : about1.hasRoom e0.platform room_1 = true :=
  launch0.hasRoom_least _ room_1 (by decide +kernel) (by decide +kernel) (by decide +kernel) (by decide +kernel) (by decide +kernel) (by decide +kernel)
theorem allAtoms_all (ts : List Jvm.Cond) (a : Array Jvm.Value) (st : Jvm.State) : (allAtoms ts).before a st = ts.all (fun c => c.before a st) := by
  induction ts with
  | nil => rfl
  | cons c t ih =>
    show (Jvm.Cond.and c (allAtoms t)).before a st = _
    rw [Jvm.Cond.before_and, ih, List.all_cons]
def words1 : List Jvm.Cond := Jvm.Cond.code x code maxLocals ret :: tables_1
/-- a 'code' word, met by the world's own term for the bytes: nothing is compared byte by byte -/
theorem code_word {y : MethodName} {bytes : ByteArray} {mx : Nat} {rt : Option FieldType} {a : Array Value} {s : State} {m : MethodId} {meth : Method} {c : Code} (h1 : s.methodNamed? y = some m) (h2 : s.vm.method? m = some meth) (h3 : meth.code = some c) (h4 : c.code = bytes)
    (h5 : (c.maxLocals == mx && c.exceptionTable.isEmpty && decide (c.maxStack ≤ mostOperands) && decide (meth.sig.returnType = rt) && !meth.locks && decide (parseMethodDescriptor y.desc = some meth.sig)) = true) : (Jvm.Cond.code y bytes mx rt).before a s = true := by
  simp only [Bool.and_eq_true, beq_iff_eq, Bool.not_eq_true', decide_eq_true_eq] at h5
  obtain ⟨⟨⟨⟨⟨g1, g2⟩, g3⟩, g4⟩, g5⟩, g6⟩ := h5
  simp [Cond.before, Cond.holds, Cond.value, h1, h2, h3, h4, g1, g2, g3, g4, g5, g6]
def isCode : Jvm.Cond → Bool
  | .code _ _ _ _ => true
  | _ => false
theorem all_split {L : List Jvm.Cond} {P : Jvm.Cond → Bool} (h1 : L.all (fun c => isCode c || P c) = true) (h2 : ∀ c ∈ L.filter isCode, P c = true) : L.all P = true := by
  refine List.all_eq_true.mpr fun c hc => ?_
  have h := List.all_eq_true.mp h1 c hc
  rcases Bool.eq_false_or_eq_true (isCode c) with hi | hi
  · exact h2 c (List.mem_filter.mpr ⟨hc, hi⟩)
  · simpa [hi] using h
set_option maxRecDepth 65536 in
theorem w_c0 : (Jvm.Cond.code x code maxLocals ret).before args0 about1 = true := code_word (m := ⟨1, 2⟩) (meth := k1m2) (c := k1c2) (by decide +kernel) rfl rfl rfl (by decide +kernel)
set_option maxRecDepth 65536 in
theorem w_c1 : (Jvm.Cond.code ({ cls := "java/lang/String", name := "<init>", desc := "([C)V" } : Jvm.MethodName) jdk_42_method_3_code (2 : Nat) (Option.none : Option Jvm.ClassFile.FieldType)).before args0 about1 = true := code_word (m := ⟨7, 1⟩) (meth := k7m1) (c := k7c1) (by decide +kernel) rfl rfl rfl (by decide +kernel)
set_option maxRecDepth 65536 in
theorem w_c2 : (Jvm.Cond.code ({ cls := "java/lang/String", name := "<init>", desc := "([CIILjava/lang/Void;)V" } : Jvm.MethodName) jdk_42_method_149_code (6 : Nat) (Option.none : Option Jvm.ClassFile.FieldType)).before args0 about1 = true := code_word (m := ⟨7, 2⟩) (meth := k7m2) (c := k7c2) (by decide +kernel) rfl rfl rfl (by decide +kernel)
set_option maxRecDepth 65536 in
theorem w_c3 : (Jvm.Cond.code ({ cls := "java/lang/Object", name := "<init>", desc := "()V" } : Jvm.MethodName) object_method_1_code (1 : Nat) (Option.none : Option Jvm.ClassFile.FieldType)).before args0 about1 = true := code_word (m := ⟨0, 0⟩) (meth := k0m0) (c := k0c0) (by decide +kernel) rfl rfl rfl (by decide +kernel)
set_option maxRecDepth 65536 in
theorem w_c4 : (Jvm.Cond.code ({ cls := "java/lang/StringUTF16", name := "compress", desc := "([CII)[B" } : Jvm.MethodName) jdk_52_method_16_code (6 : Nat) (Option.some (Jvm.ClassFile.FieldType.array Jvm.ClassFile.FieldType.byte))).before args0 about1 = true := code_word (m := ⟨8, 2⟩) (meth := k8m2) (c := k8c2) (by decide +kernel) rfl rfl rfl (by decide +kernel)
set_option maxRecDepth 65536 in
theorem w_c5 : (Jvm.Cond.code ({ cls := "java/lang/StringUTF16", name := "compress", desc := "([CI[BII)I" } : Jvm.MethodName) jdk_52_method_21_code (7 : Nat) (Option.some Jvm.ClassFile.FieldType.int)).before args0 about1 = true := code_word (m := ⟨8, 3⟩) (meth := k8m3) (c := k8c3) (by decide +kernel) rfl rfl rfl (by decide +kernel)
set_option maxRecDepth 65536 in
theorem w_c6 : (Jvm.Cond.code ({ cls := "java/lang/StringUTF16", name := "coderFromArrayLen", desc := "([BI)B" } : Jvm.MethodName) jdk_52_method_15_code (2 : Nat) (Option.some Jvm.ClassFile.FieldType.byte)).before args0 about1 = true := code_word (m := ⟨8, 1⟩) (meth := k8m1) (c := k8c1) (by decide +kernel) rfl rfl rfl (by decide +kernel)
set_option maxRecDepth 65536 in
theorem w_c7 : (Jvm.Cond.code ({ cls := "com/example/attache/attache/query/TokenIsParameterPinLaw", name := "kindOf", desc := "(I)Lcom/example/attache/attache/query/Token$Kind;" } : Jvm.MethodName) method_2_code (1 : Nat) (Option.some (Jvm.ClassFile.FieldType.object "com/example/attache/attache/query/Token$Kind"))).before args0 about1 = true := code_word (m := ⟨1, 1⟩) (meth := k1m1) (c := k1c1) (by decide +kernel) rfl rfl rfl (by decide +kernel)
set_option maxRecDepth 65536 in
theorem w_c8 : (Jvm.Cond.code ({ cls := "com/example/attache/attache/query/Token", name := "<init>", desc := "(Lcom/example/attache/attache/query/Token$Kind;Ljava/lang/String;I)V" } : Jvm.MethodName) prog_40_method_1_code (4 : Nat) (Option.none : Option Jvm.ClassFile.FieldType)).before args0 about1 = true := code_word (m := ⟨10, 0⟩) (meth := k10m0) (c := k10c0) (by decide +kernel) rfl rfl rfl (by decide +kernel)
set_option maxRecDepth 65536 in
theorem w_c9 : (Jvm.Cond.code ({ cls := "java/lang/Record", name := "<init>", desc := "()V" } : Jvm.MethodName) jdk_30_method_1_code (1 : Nat) (Option.none : Option Jvm.ClassFile.FieldType)).before args0 about1 = true := code_word (m := ⟨9, 0⟩) (meth := k9m0) (c := k9c0) (by decide +kernel) rfl rfl rfl (by decide +kernel)
set_option maxRecDepth 65536 in
theorem w_c10 : (Jvm.Cond.code ({ cls := "com/example/attache/attache/query/Token", name := "isParameter", desc := "()Z" } : Jvm.MethodName) prog_40_method_3_code (1 : Nat) (Option.some Jvm.ClassFile.FieldType.boolean)).before args0 about1 = true := code_word (m := ⟨10, 1⟩) (meth := k10m1) (c := k10c1) (by decide +kernel) rfl rfl rfl (by decide +kernel)
def codes1 : List Jvm.Cond := [Jvm.Cond.code x code maxLocals ret, Jvm.Cond.code ({ cls := "java/lang/String", name := "<init>", desc := "([C)V" } : Jvm.MethodName) jdk_42_method_3_code (2 : Nat) (Option.none : Option Jvm.ClassFile.FieldType), Jvm.Cond.code ({ cls := "java/lang/String", name := "<init>", desc := "([CIILjava/lang/Void;)V" } : Jvm.MethodName) jdk_42_method_149_code (6 : Nat) (Option.none : Option Jvm.ClassFile.FieldType), Jvm.Cond.code ({ cls := "java/lang/Object", name := "<init>", desc := "()V" } : Jvm.MethodName) object_method_1_code (1 : Nat) (Option.none : Option Jvm.ClassFile.FieldType), Jvm.Cond.code ({ cls := "java/lang/StringUTF16", name := "compress", desc := "([CII)[B" } : Jvm.MethodName) jdk_52_method_16_code (6 : Nat) (Option.some (Jvm.ClassFile.FieldType.array Jvm.ClassFile.FieldType.byte)), Jvm.Cond.code ({ cls := "java/lang/StringUTF16", name := "compress", desc := "([CI[BII)I" } : Jvm.MethodName) jdk_52_method_21_code (7 : Nat) (Option.some Jvm.ClassFile.FieldType.int), Jvm.Cond.code ({ cls := "java/lang/StringUTF16", name := "coderFromArrayLen", desc := "([BI)B" } : Jvm.MethodName) jdk_52_method_15_code (2 : Nat) (Option.some Jvm.ClassFile.FieldType.byte), Jvm.Cond.code ({ cls := "com/example/attache/attache/query/TokenIsParameterPinLaw", name := "kindOf", desc := "(I)Lcom/example/attache/attache/query/Token$Kind;" } : Jvm.MethodName) method_2_code (1 : Nat) (Option.some (Jvm.ClassFile.FieldType.object "com/example/attache/attache/query/Token$Kind")), Jvm.Cond.code ({ cls := "com/example/attache/attache/query/Token", name := "<init>", desc := "(Lcom/example/attache/attache/query/Token$Kind;Ljava/lang/String;I)V" } : Jvm.MethodName) prog_40_method_1_code (4 : Nat) (Option.none : Option Jvm.ClassFile.FieldType), Jvm.Cond.code ({ cls := "java/lang/Record", name := "<init>", desc := "()V" } : Jvm.MethodName) jdk_30_method_1_code (1 : Nat) (Option.none : Option Jvm.ClassFile.FieldType), Jvm.Cond.code ({ cls := "com/example/attache/attache/query/Token", name := "isParameter", desc := "()Z" } : Jvm.MethodName) prog_40_method_3_code (1 : Nat) (Option.some Jvm.ClassFile.FieldType.boolean)]
set_option maxRecDepth 65536 in
theorem codes_eq : words1.filter isCode = codes1 := rfl
theorem w_codes : ∀ c ∈ words1.filter isCode, c.before args0 about1 = true := by
  rw [codes_eq]
  intro c hc
  simp only [codes1, List.mem_cons, List.not_mem_nil, or_false] at hc
  rcases hc with rfl | rfl | rfl | rfl | rfl | rfl | rfl | rfl | rfl | rfl | rfl
  · exact w_c0
  · exact w_c1
  · exact w_c2
  · exact w_c3
  · exact w_c4
  · exact w_c5
  · exact w_c6
  · exact w_c7
  · exact w_c8
  · exact w_c9
  · exact w_c10
set_option maxRecDepth 65536 in
theorem w_t1 : (words1.take 24).all (fun c => isCode c || c.before args0 about1) = true := by decide +kernel
set_option maxRecDepth 65536 in
theorem w_t2 : ((words1.drop 24).take 24).all (fun c => isCode c || c.before args0 about1) = true := by decide +kernel
set_option maxRecDepth 65536 in
theorem w_t3 : (((words1.drop 24).drop 24).take 24).all (fun c => isCode c || c.before args0 about1) = true := by decide +kernel
set_option maxRecDepth 65536 in
theorem w_t4 : (((words1.drop 24).drop 24).drop 24).all (fun c => isCode c || c.before args0 about1) = true := by decide +kernel
theorem w_tables : (allAtoms (Jvm.Cond.code x code maxLocals ret :: tables_1)).before args0 about1 = true := by
  rw [allAtoms_all]
  show words1.all (fun c => c.before args0 about1) = true
  refine all_split ?_ w_codes
  rw [← List.take_append_drop 24 words1, List.all_append, w_t1, ← List.take_append_drop 24 (words1.drop 24), List.all_append, w_t2, ← List.take_append_drop 24 ((words1.drop 24).drop 24), List.all_append, w_t3, w_t4]
  rfl
set_option maxRecDepth 65536 in
theorem w_rest : rest_1_c.before args0 about1 = true := by decide +kernel
set_option maxRecDepth 65536 in
theorem w_case : (Jvm.Cond.and given_1 narrow_1).before args0 about1 = true := by decide +kernel
theorem w_applies : (headSpec (Jvm.Cond.code x code maxLocals ret :: tables_1) room_1).applies x e0.platform about1 = true :=
  (Spec.applies_iff w_frames).mpr ⟨w_running, w_runnable, w_alone, w_named, w_hears, w_ripe, w_room, w_tables⟩
theorem atStart : AtStart classFile x code maxLocals ret World_1 tables_1 room_1 Calls_1 rest_1 Pre_1 launch0 p0 e0 about1 theMethod args0 below0 :=
  ⟨lists_1, trivial, launch0.admits_env _ _ _, launch0.least_env, fairChoices_fair.cas, fairChoices_fair.clock, w_frames, w_args, w_heap, w_applies, trivial, w_rest, w_case⟩
end start1
theorem witness_1 : WitnessClaimed_1 := ⟨start1.p0, start1.e0, start1.about1, start1.theMethod, start1.args0, start1.below0, start1.atStart⟩
end Jvm.Pilot.@@N@@
