import JvmDerived
import JvmDerived.Pilot.@@N@@Statement
import JvmDerived.Pilot.@@N@@Code
set_option linter.unusedVariables false
set_option linter.unusedSimpArgs false
namespace Jvm.Pilot.@@N@@
open Jvm Jvm.ClassFile Sem Op Lib Jvm.Free Jvm.Stand Jvm.LawKit Jvm.RoadKit Bundle Jvm.Pilot.@@N@@.Jvm.D
section OwnGo
variable {p : Program} {l : Launch} {e : Env} {R : Room} {s : State} {m : MethodId} {args : Array Value} {below : List Frame} {meth : Method} {c : Code} {T T' : State} {locs : List Loc} {cells slots : Nat} {Q : Option Value → Heap → List Loc → Prop} {C S : Nat} {g g' : JFrame} {F : Outcome → State → Prop}
/-- from this state and frame the body comes to an end of which F holds -/
def Go (p : Program) (e : Env) (below : List Frame) (F : Outcome → State → Prop) (T : State) (g : JFrame) : Prop :=
  ∃ s₂ o, Steps p.tables e below (T.setTop g) s₂ ∧ s₂.status = .running ∧ Ended s₂ below o ∧ F o s₂
/-- it returned, Q holds, and nothing else has moved than L and so many new cells and slots -/
abbrev EndN (s : State) (Q : Option Value → Heap → List Loc → Prop) (C S : Nat) (o : Outcome) (t : State) : Prop := ∃ v L, o = .returned v ∧ Q v t.heap L ∧ FrameEnd s o t L C S
theorem Go.enter (q : g = g') (k : Go p e below F T g') : ∃ s₂ o, Steps p.tables e below (T.setTop g) s₂ ∧ s₂.status = .running ∧ Ended s₂ below o ∧ F o s₂ := by
  subst q
  exact k
theorem Go.by (h : ∀ t, Steps p.tables e below (T'.setTop g') t → Steps p.tables e below (T.setTop g) t) (k : Go p e below F T' g') : Go p e below F T g := by
  obtain ⟨s₂, o, h1, h2⟩ := k
  exact ⟨s₂, o, h _ h1, h2⟩
theorem Go.to (h : Steps p.tables e below (T.setTop g) (T'.setTop g')) (k : Go p e below F T' g') : Go p e below F T g := by
  obtain ⟨s₂, o, h1, h2⟩ := k
  exact ⟨s₂, o, h.trans h1, h2⟩
abbrev own_retKind (i : Instr) (t : FieldType) (w : Value) : Prop := (i = .ireturn ∧ (t = .int ∨ t = .boolean ∨ t = .byte ∨ t = .char ∨ t = .short) ∧ ∃ z, w = .int z) ∨ (i = .lreturn ∧ t = .long ∧ ∃ z, w = .long z) ∨ (i = .dreturn ∧ t = .double ∧ ∃ z, w = .double z) ∨ (i = .freturn ∧ t = .float ∧ ∃ z, w = .float z) ∨ (i = .areturn ∧ t.isReference = true ∧ w.isRef = true)
theorem Go.ret (X : Stand p l e R s m args below meth c T locs cells slots) (hx : p.tables.exec = Jvm.exec) (hlocks : meth.locks = false) {pc : Nat} {Ls : Array Slot} {w : Value} {t : FieldType} {i : Instr} {rest : List Value} (hret : meth.sig.returnType = some t) (hn : narrow t w = w)
    (hi : own_retKind i t w) (hd : decode c.code pc = .ok (i, 1)) (hq : Q (some w) T.heap locs) (hc : cells ≤ C) (hs : slots ≤ S) : Go p e below (EndN s Q C S) T (mkF m pc Ls (w :: rest)) := by
  obtain ⟨fs, hr, hrun, hended, hW, hsame⟩ := X.leave (v := some w) (fun h => by rw [hret] at h; cases h) hlocks
  exact ⟨_, _, retOut X hx hret hn hi hd hr, hrun, hended, _, _, rfl, hq, ⟨_, rfl⟩, hW, hsame.mono hc hs⟩
theorem Go.retI (X : Stand p l e R s m args below meth c T locs cells slots) (hx : p.tables.exec = Jvm.exec) (hlocks : meth.locks = false) {pc : Nat} {Ls : Array Slot} {w : Int32} {t : FieldType} {rest : List Value} (hret : meth.sig.returnType = some t) (hn : narrow t (.int w) = .int w)
    (ht : t = .int ∨ t = .boolean ∨ t = .byte ∨ t = .char ∨ t = .short) (hd : decode c.code pc = .ok (.ireturn, 1)) (hq : Q (some (.int w)) T.heap locs) (hc : cells ≤ C) (hs : slots ≤ S) : Go p e below (EndN s Q C S) T (mkF m pc Ls (.int w :: rest)) :=
  Go.ret X hx hlocks hret hn (Or.inl ⟨rfl, ht, _, rfl⟩) hd hq hc hs
theorem Go.retJ (X : Stand p l e R s m args below meth c T locs cells slots) (hx : p.tables.exec = Jvm.exec) (hlocks : meth.locks = false) {pc : Nat} {Ls : Array Slot} {w : Int64} {rest : List Value} (hret : meth.sig.returnType = some .long)
    (hd : decode c.code pc = .ok (.lreturn, 1)) (hq : Q (some (.long w)) T.heap locs) (hc : cells ≤ C) (hs : slots ≤ S) : Go p e below (EndN s Q C S) T (mkF m pc Ls (.long w :: rest)) :=
  Go.ret X hx hlocks hret rfl (Or.inr (Or.inl ⟨rfl, rfl, _, rfl⟩)) hd hq hc hs
theorem own_narR (t : FieldType) {w : Value} (ht : t.isReference = true) (hw : w.isRef = true) : narrow t w = w := by
  cases t <;> first | (simp [FieldType.isReference] at ht; done) | (rcases ref_cases hw with rfl | ⟨_, rfl⟩ <;> rfl)
theorem own_fitR (t : FieldType) {w : Value} (ht : t.isReference = true) (hw : w.isRef = true) : fits t w = true := by
  cases t <;> first | (simp [FieldType.isReference] at ht; done) | (rcases ref_cases hw with rfl | ⟨_, rfl⟩ <;> rfl)
theorem Go.retA (X : Stand p l e R s m args below meth c T locs cells slots) (hx : p.tables.exec = Jvm.exec) (hlocks : meth.locks = false) {pc : Nat} {Ls : Array Slot} {w : Value} {t : FieldType} {rest : List Value} (hret : meth.sig.returnType = some t) (ht : t.isReference = true) (hw : w.isRef = true)
    (hd : decode c.code pc = .ok (.areturn, 1)) (hq : Q (some w) T.heap locs) (hc : cells ≤ C) (hs : slots ≤ S) : Go p e below (EndN s Q C S) T (mkF m pc Ls (w :: rest)) :=
  Go.ret X hx hlocks hret (own_narR t ht hw) (Or.inr (Or.inr (Or.inr (Or.inr ⟨rfl, ht, hw⟩)))) hd hq hc hs
theorem Go.retV (X : Stand p l e R s m args below meth c T locs cells slots) (hx : p.tables.exec = Jvm.exec) (hlocks : meth.locks = false) {pc : Nat} {Ls : Array Slot} (hret : meth.sig.returnType = none)
    (hd : decode c.code pc = .ok (.return_, 1)) (hq : Q none T.heap locs) (hc : cells ≤ C) (hs : slots ≤ S) : Go p e below (EndN s Q C S) T (mkF m pc Ls []) := by
  obtain ⟨fs, hr, hrun, hended, hW, hsame⟩ := X.leave (v := none) (fun _ => rfl) hlocks
  exact ⟨_, _, X.returnOut hx hret hd hr, hrun, hended, _, _, rfl, hq, ⟨_, rfl⟩, hW, hsame.mono hc hs⟩
end OwnGo
theorem own_ord {args : Array Value} {s : State} {t : Term} {a : Addr} {C n d : String} {k : Int32} (h : (Jvm.Cond.eq (Term.field t C n d) (Term.int k)).value args s none s [] = some true) (ev : t.eval args s none [] s = some (.ref a)) : s.fieldOf? a C n d = some (.int k) :=
  (fld_at ev).symm.trans (eqv_i (Term.int_eval k) h)
theorem own_eqR {args : Array Value} {s : State} {X Y : Term} {d : Addr} (h : (Jvm.Cond.eq X Y).value args s none s [] = some true) (hY : Y.eval args s none [] s = some (.ref d)) : X.eval args s none [] s = some (.ref d) := by
  obtain ⟨x, y, hx, hy, -, hk⟩ := cmp_v (Or.inl h)
  obtain rfl : (.ref d) = y := Option.some.inj (hY.symm.trans hy)
  have hr : x.isRef = true := hk.2
  rw [hx, gotT (eq_R hx hY hr rfl) h]

def own_of (x y : Int32) (aO aA aF : Addr) : Addr := if 0 < x then aO else if 0 < y then aA else aF
theorem own_of_1 {x y : Int32} {aO aA aF : Addr} (h : 0 < x) : some (Value.ref aO) = some (.ref (own_of x y aO aA aF)) := by simp [own_of, h]
theorem own_of_2 {x y : Int32} {aO aA aF : Addr} (h : ¬ 0 < x) (h2 : 0 < y) : some (Value.ref aA) = some (.ref (own_of x y aO aA aF)) := by simp [own_of, h, h2]
theorem own_of_3 {x y : Int32} {aO aA aF : Addr} (h : ¬ 0 < x) (h2 : ¬ 0 < y) : some (Value.ref aF) = some (.ref (own_of x y aO aA aF)) := by simp [own_of, h, h2]
theorem own_masked (x : Int32) : ¬ (x &&& 2147483647) < 0 := by
  have h := (c_and x (2147483647 : Int32) (by decide)).1
  rw [XT.negI32]
  omega
theorem own_zero {x : Int32} (h : ¬ x < 0) (h2 : ¬ 0 < x) : x = 0 := by
  rw [Int32.lt_iff_toInt_lt] at h h2
  apply Int32.toInt_inj.mp
  simp at h h2 ⊢
  omega
theorem own_pos {x : Int32} (h2 : 0 < x) : ¬ x = 0 := by
  rintro rfl
  exact absurd h2 (by decide)
theorem own_or_pos {x y : Int32} (hx : ¬ x < 0) (hy : ¬ y < 0) (h : ¬ x = 0 ∨ ¬ y = 0) : ¬ (x ||| y) = 0 := by
  intro q
  rw [XT.negI32] at hx hy
  have h2 := c_or0 x y (by omega) (by omega)
  rw [q] at h2
  simp at h2
  rcases h with h | h <;> apply h <;> apply Int32.toInt_inj.mp <;> simp <;> omega
theorem pn_1 : plainName "com/example/muster/muster/model/Status" = true := by first | (simp [plainName, overriddenIn]; done) | decide +kernel
theorem ef_2 (m : MethodId) (x0 : Int32) (x1 : Int32) : entryFrame m #[(.int x0), (.int x1)] 3 = mkF m 0 #[.val (.int x0), .val (.int x1), .unset] [] := by (first | (simp [entryFrame, mkF, argsToLocals, Value.category]; done) | rfl)
theorem d1_0 : decode prog_15_method_4_code 0 = .ok (.iload_n 0, 1) := by decide +kernel
theorem d1_1 : decode prog_15_method_4_code 1 = .ok (.ifCond .lt 7, 3) := by decide +kernel
theorem d1_4 : decode prog_15_method_4_code 4 = .ok (.iload_n 1, 1) := by decide +kernel
theorem d1_5 : decode prog_15_method_4_code 5 = .ok (.ifCond .ge 18, 3) := by decide +kernel
theorem d1_23 : decode prog_15_method_4_code 23 = .ok (.iload_n 0, 1) := by decide +kernel
theorem d1_24 : decode prog_15_method_4_code 24 = .ok (.ifCond .le 10, 3) := by decide +kernel
theorem d1_27 : decode prog_15_method_4_code 27 = .ok (.getstatic 3, 3) := by decide +kernel
theorem d1_30 : decode prog_15_method_4_code 30 = .ok (.astore_n 2, 1) := by decide +kernel
theorem d1_31 : decode prog_15_method_4_code 31 = .ok (.goto 18, 3) := by decide +kernel
theorem d1_49 : decode prog_15_method_4_code 49 = .ok (.aload_n 2, 1) := by decide +kernel
theorem d1_50 : decode prog_15_method_4_code 50 = .ok (.areturn, 1) := by decide +kernel
theorem d1_34 : decode prog_15_method_4_code 34 = .ok (.iload_n 1, 1) := by decide +kernel
theorem d1_35 : decode prog_15_method_4_code 35 = .ok (.ifCond .le 10, 3) := by decide +kernel
theorem d1_38 : decode prog_15_method_4_code 38 = .ok (.getstatic 7, 3) := by decide +kernel
theorem d1_41 : decode prog_15_method_4_code 41 = .ok (.astore_n 2, 1) := by decide +kernel
theorem d1_42 : decode prog_15_method_4_code 42 = .ok (.goto 7, 3) := by decide +kernel
theorem d1_45 : decode prog_15_method_4_code 45 = .ok (.getstatic 10, 3) := by decide +kernel
theorem d1_48 : decode prog_15_method_4_code 48 = .ok (.astore_n 2, 1) := by decide +kernel
def Q_rm1 (Z : State) (x : Int32) (y : Int32) (c_ONLINE : Addr) (c_AWAY : Addr) (c_OFFLINE : Addr) (h0 : Heap) (n0 : Nat) (v : Option Value) (h : Heap) (L : List Loc) : Prop := v = some (.ref (own_of x y c_ONLINE c_AWAY c_OFFLINE)) ∧ Fr n0 L ∧ h = h0
set_option maxRecDepth 65536 in
set_option maxHeartbeats 40000000 in
theorem rm1 (l : Launch) (Z : State) (a0 : Array Value) (hw : ∀ d ∈ tables_1, d.before a0 Z = true) (ws : List Jvm.Cond) (x : Int32) (y : Int32) (c_ONLINE : Addr) (c_AWAY : Addr) (c_OFFLINE : Addr) (h0 : Heap) (n0 : Nat) (Z0 : n0 ≤ h0.size) (O0 : Old Z n0 h0) (S_c_ONLINE : Sta Z Z.heap "com/example/muster/muster/model/Status" "ONLINE" "Lcom/example/muster/muster/model/Status;" (.ref c_ONLINE)) (E_c_ONLINE : Exa Z Z.heap c_ONLINE "com/example/muster/muster/model/Status") (O_c_ONLINE : Fld Z Z.heap c_ONLINE "java/lang/Enum" "ordinal" "I" (.int 0)) (S_c_AWAY : Sta Z Z.heap "com/example/muster/muster/model/Status" "AWAY" "Lcom/example/muster/muster/model/Status;" (.ref c_AWAY)) (E_c_AWAY : Exa Z Z.heap c_AWAY "com/example/muster/muster/model/Status") (O_c_AWAY : Fld Z Z.heap c_AWAY "java/lang/Enum" "ordinal" "I" (.int 1)) (S_c_OFFLINE : Sta Z Z.heap "com/example/muster/muster/model/Status" "OFFLINE" "Lcom/example/muster/muster/model/Status;" (.ref c_OFFLINE)) (E_c_OFFLINE : Exa Z Z.heap c_OFFLINE "com/example/muster/muster/model/Status") (O_c_OFFLINE : Fld Z Z.heap c_OFFLINE "java/lang/Enum" "ordinal" "I" (.int 2)) (hx0 : ¬ x < 0) (hy0 : ¬ y < 0) :
    MetFree l (⟨"com/example/muster/muster/model/Status", "of", "(II)Lcom/example/muster/muster/model/Status;"⟩ : MethodName) (head1 (Jvm.Cond.code (⟨"com/example/muster/muster/model/Status", "of", "(II)Lcom/example/muster/muster/model/Status;"⟩ : MethodName) prog_15_method_4_code 3 (some (.object "com/example/muster/muster/model/Status")) :: ws) ({ frames := 0, cells := 0, slots := 0, locals := 0 } : Room)) (fun as' U => as' = #[(.int x), (.int y)] ∧ Z.Warmed39 U.vm ∧ U.heap = h0) (fun _ _ _ _ _ => True) (fun _ U o U' => ∃ v L, o = .returned v ∧ Q_rm1 Z x y c_ONLINE c_AWAY c_OFFLINE h0 n0 v U'.heap L ∧ FrameEnd U o U' L ({ frames := 0, cells := 0, slots := 0, locals := 0 } : Room).cells ({ frames := 0, cells := 0, slots := 0, locals := 0 } : Room).slots) := by
  refine MetFree.of_bodySF (plainFor_of_name pn_1) hisR ?_
  intro p e s m args below meth c s₁ Bd hml0 hP hK
  obtain ⟨rfl, hZ, hh⟩ := hP
  have hx := Bd.exec
  have hby := Bd.bytes
  have hml : c.maxLocals = 3 := hml0
  have hown : s.vm.findClass "com/example/muster/muster/model/Status" = some m.cls := findClass_of_methodNamed Bd.named
  have hnm := (name_of_methodNamed Bd.named Bd.method).1
  have X0 : Stand p l e ({ frames := 0, cells := 0, slots := 0, locals := 0 } : Room) s m #[(.int x), (.int y)] below meth c s₁ [] 0 0 := Stand.of_body Bd
  have e0 : s₁.heap = h0 := by rw [← hh, Bd.state]; rfl
  have N0 := Fr.nil n0
  refine Go.enter (F := EndN s (Q_rm1 Z x y c_ONLINE c_AWAY c_OFFLINE h0 n0) ({ frames := 0, cells := 0, slots := 0, locals := 0 } : Room).cells ({ frames := 0, cells := 0, slots := 0, locals := 0 } : Room).slots) (ef_2 m x y) ?_
  show Go _ _ _ _ s₁ (mkF m 0 #[.val (.int x), .val (.int y), .unset] [])
  refine Go.by (fun _ k => XS.iloadN X0.here hx rfl (hb hby d1_0) rfl k) ?_
  show Go _ _ _ _ s₁ (mkF m 1 #[.val (.int x), .val (.int y), .unset] [(.int x)])
  refine Go.by (fun _ k => XS.ifNo X0.here hx rfl (hb hby d1_1) rfl (XT.i0_lt_f hx0) k) ?_
  show Go _ _ _ _ s₁ (mkF m 4 #[.val (.int x), .val (.int y), .unset] [])
  refine Go.by (fun _ k => XS.iloadN X0.here hx rfl (hb hby d1_4) rfl k) ?_
  show Go _ _ _ _ s₁ (mkF m 5 #[.val (.int x), .val (.int y), .unset] [(.int y)])
  refine Go.by (fun _ k => XS.ifYes X0.here hx rfl (pc0 := 5) (pc' := 23) rfl (hb hby d1_5) rfl (XT.i0_ge_t hy0) (by decide) (by decide) k) ?_
  show Go _ _ _ _ s₁ (mkF m 23 #[.val (.int x), .val (.int y), .unset] [])
  refine Go.by (fun _ k => XS.iloadN X0.here hx rfl (hb hby d1_23) rfl k) ?_
  show Go _ _ _ _ s₁ (mkF m 24 #[.val (.int x), .val (.int y), .unset] [(.int x)])
  by_cases hb1 : 0 < x
  · refine Go.by (fun _ k => XS.ifNo X0.here hx rfl (hb hby d1_24) rfl (XT.i0_le_f hb1) k) ?_
    show Go _ _ _ _ s₁ (mkF m 27 #[.val (.int x), .val (.int y), .unset] [])
    have F2 : Sta Z h0 "com/example/muster/muster/model/Status" "ONLINE" "Lcom/example/muster/muster/model/Status;" (.ref c_ONLINE) := S_c_ONLINE.ext O0.2
    obtain ⟨T3, X3, e3, st3⟩ := getS2 X0 hx hZ hown (host := "") (Or.inl (hw _ (List.mem_of_getElem? (i := 12) rfl))) Via.refl e0 F2 (g := (mkF m 27 #[.val (.int x), .val (.int y), .unset] [])) rfl (hb hby d1_27)
    refine Go.by st3 ?_
    show Go _ _ _ _ T3 (mkF m 30 #[.val (.int x), .val (.int y), .unset] [(.ref c_ONLINE)])
    refine Go.by (fun _ k => XS.astoreN X3.here hx rfl (hb hby d1_30) rfl rfl (l' := #[.val (.int x), .val (.int y), .val (.ref c_ONLINE)]) rfl k) ?_
    show Go _ _ _ _ T3 (mkF m 31 #[.val (.int x), .val (.int y), .val (.ref c_ONLINE)] [])
    refine Go.by (fun _ k => XS.goto X3.here hx rfl (pc0 := 31) (pc' := 49) rfl (hb hby d1_31) (by decide) (by decide) k) ?_
    show Go _ _ _ _ T3 (mkF m 49 #[.val (.int x), .val (.int y), .val (.ref c_ONLINE)] [])
    refine Go.by (fun _ k => XS.aloadN X3.here hx rfl (hb hby d1_49) rfl rfl k) ?_
    show Go _ _ _ _ T3 (mkF m 50 #[.val (.int x), .val (.int y), .val (.ref c_ONLINE)] [(.ref c_ONLINE)])
    exact Go.retA X3 hx Bd.notSynchronized Bd.returns rfl rfl (hb hby d1_50) (by rw [e3]; exact ⟨own_of_1 hb1, N0, rfl⟩) (by decide) (by decide)
  · refine Go.by (fun _ k => XS.ifYes X0.here hx rfl (pc0 := 24) (pc' := 34) rfl (hb hby d1_24) rfl (XT.i0_le_t hb1) (by decide) (by decide) k) ?_
    show Go _ _ _ _ s₁ (mkF m 34 #[.val (.int x), .val (.int y), .unset] [])
    refine Go.by (fun _ k => XS.iloadN X0.here hx rfl (hb hby d1_34) rfl k) ?_
    show Go _ _ _ _ s₁ (mkF m 35 #[.val (.int x), .val (.int y), .unset] [(.int y)])
    by_cases hb4 : 0 < y
    · refine Go.by (fun _ k => XS.ifNo X0.here hx rfl (hb hby d1_35) rfl (XT.i0_le_f hb4) k) ?_
      show Go _ _ _ _ s₁ (mkF m 38 #[.val (.int x), .val (.int y), .unset] [])
      have F5 : Sta Z h0 "com/example/muster/muster/model/Status" "AWAY" "Lcom/example/muster/muster/model/Status;" (.ref c_AWAY) := S_c_AWAY.ext O0.2
      obtain ⟨T6, X6, e6, st6⟩ := getS2 X0 hx hZ hown (host := "") (Or.inl (hw _ (List.mem_of_getElem? (i := 5) rfl))) Via.refl e0 F5 (g := (mkF m 38 #[.val (.int x), .val (.int y), .unset] [])) rfl (hb hby d1_38)
      refine Go.by st6 ?_
      show Go _ _ _ _ T6 (mkF m 41 #[.val (.int x), .val (.int y), .unset] [(.ref c_AWAY)])
      refine Go.by (fun _ k => XS.astoreN X6.here hx rfl (hb hby d1_41) rfl rfl (l' := #[.val (.int x), .val (.int y), .val (.ref c_AWAY)]) rfl k) ?_
      show Go _ _ _ _ T6 (mkF m 42 #[.val (.int x), .val (.int y), .val (.ref c_AWAY)] [])
      refine Go.by (fun _ k => XS.goto X6.here hx rfl (pc0 := 42) (pc' := 49) rfl (hb hby d1_42) (by decide) (by decide) k) ?_
      show Go _ _ _ _ T6 (mkF m 49 #[.val (.int x), .val (.int y), .val (.ref c_AWAY)] [])
      refine Go.by (fun _ k => XS.aloadN X6.here hx rfl (hb hby d1_49) rfl rfl k) ?_
      show Go _ _ _ _ T6 (mkF m 50 #[.val (.int x), .val (.int y), .val (.ref c_AWAY)] [(.ref c_AWAY)])
      exact Go.retA X6 hx Bd.notSynchronized Bd.returns rfl rfl (hb hby d1_50) (by rw [e6]; exact ⟨own_of_2 hb1 hb4, N0, rfl⟩) (by decide) (by decide)
    · refine Go.by (fun _ k => XS.ifYes X0.here hx rfl (pc0 := 35) (pc' := 45) rfl (hb hby d1_35) rfl (XT.i0_le_t hb4) (by decide) (by decide) k) ?_
      show Go _ _ _ _ s₁ (mkF m 45 #[.val (.int x), .val (.int y), .unset] [])
      have F7 : Sta Z h0 "com/example/muster/muster/model/Status" "OFFLINE" "Lcom/example/muster/muster/model/Status;" (.ref c_OFFLINE) := S_c_OFFLINE.ext O0.2
      obtain ⟨T8, X8, e8, st8⟩ := getS2 X0 hx hZ hown (host := "") (Or.inl (hw _ (List.mem_of_getElem? (i := 13) rfl))) Via.refl e0 F7 (g := (mkF m 45 #[.val (.int x), .val (.int y), .unset] [])) rfl (hb hby d1_45)
      refine Go.by st8 ?_
      show Go _ _ _ _ T8 (mkF m 48 #[.val (.int x), .val (.int y), .unset] [(.ref c_OFFLINE)])
      refine Go.by (fun _ k => XS.astoreN X8.here hx rfl (hb hby d1_48) rfl rfl (l' := #[.val (.int x), .val (.int y), .val (.ref c_OFFLINE)]) rfl k) ?_
      show Go _ _ _ _ T8 (mkF m 49 #[.val (.int x), .val (.int y), .val (.ref c_OFFLINE)] [])
      refine Go.by (fun _ k => XS.aloadN X8.here hx rfl (hb hby d1_49) rfl rfl k) ?_
      show Go _ _ _ _ T8 (mkF m 50 #[.val (.int x), .val (.int y), .val (.ref c_OFFLINE)] [(.ref c_OFFLINE)])
      exact Go.retA X8 hx Bd.notSynchronized Bd.returns rfl rfl (hb hby d1_50) (by rw [e8]; exact ⟨own_of_3 hb1 hb4, N0, rfl⟩) (by decide) (by decide)
theorem pn_21 : plainName "com/example/muster/muster/model/StatusOfPinLaw" = true := by first | (simp [plainName, overriddenIn]; done) | decide +kernel
theorem ef_22 (m : MethodId) (x0 : Int32) (x1 : Int32) : entryFrame m #[(.int x0), (.int x1)] 11 = mkF m 0 #[.val (.int x0), .val (.int x1), .unset, .unset, .unset, .unset, .unset, .unset, .unset, .unset, .unset] [] := by (first | (simp [entryFrame, mkF, argsToLocals, Value.category]; done) | rfl)
theorem pd_23 : parseMethodDescriptor "(II)Lcom/example/muster/muster/model/Status;" = some ⟨[.int, .int], some (.object "com/example/muster/muster/model/Status")⟩ := by decide +kernel
def Q_rm0 (Z : State) (p0 : Int32) (p1 : Int32) (c_ONLINE : Addr) (c_AWAY : Addr) (c_OFFLINE : Addr) (h0 : Heap) (n0 : Nat) (v : Option Value) (h : Heap) (L : List Loc) : Prop := v = some (.int 1) ∧ Fr n0 L
set_option maxRecDepth 65536 in
set_option maxHeartbeats 40000000 in
theorem rm0 (l : Launch) (Z : State) (a0 : Array Value) (hw : ∀ d ∈ tables_1, d.before a0 Z = true) (ws : List Jvm.Cond) (p0 : Int32) (p1 : Int32) (c_ONLINE : Addr) (c_AWAY : Addr) (c_OFFLINE : Addr) (h0 : Heap) (n0 : Nat) (Z0 : n0 ≤ h0.size) (O0 : Old Z n0 h0) (S_c_ONLINE : Sta Z Z.heap "com/example/muster/muster/model/Status" "ONLINE" "Lcom/example/muster/muster/model/Status;" (.ref c_ONLINE)) (E_c_ONLINE : Exa Z Z.heap c_ONLINE "com/example/muster/muster/model/Status") (O_c_ONLINE : Fld Z Z.heap c_ONLINE "java/lang/Enum" "ordinal" "I" (.int 0)) (S_c_AWAY : Sta Z Z.heap "com/example/muster/muster/model/Status" "AWAY" "Lcom/example/muster/muster/model/Status;" (.ref c_AWAY)) (E_c_AWAY : Exa Z Z.heap c_AWAY "com/example/muster/muster/model/Status") (O_c_AWAY : Fld Z Z.heap c_AWAY "java/lang/Enum" "ordinal" "I" (.int 1)) (S_c_OFFLINE : Sta Z Z.heap "com/example/muster/muster/model/Status" "OFFLINE" "Lcom/example/muster/muster/model/Status;" (.ref c_OFFLINE)) (E_c_OFFLINE : Exa Z Z.heap c_OFFLINE "com/example/muster/muster/model/Status") (O_c_OFFLINE : Fld Z Z.heap c_OFFLINE "java/lang/Enum" "ordinal" "I" (.int 2)) :
    MetFree l x (head1 (Jvm.Cond.code x code maxLocals ret :: ws) room_1) (fun as' U => as' = #[(.int p0), (.int p1)] ∧ Z.Warmed39 U.vm ∧ U.heap = h0) (fun _ _ _ _ _ => True) (fun _ U o U' => ∃ v L, o = .returned v ∧ Q_rm0 Z p0 p1 c_ONLINE c_AWAY c_OFFLINE h0 n0 v U'.heap L ∧ FrameEnd U o U' L 0 0) := by
  refine MetFree.of_bodySF (plainFor_of_name pn_21) hisR ?_
  intro p e s m args below meth c s₁ Bd hml0 hP hK
  obtain ⟨rfl, hZ, hh⟩ := hP
  have hx := Bd.exec
  have hby := Bd.bytes
  have hml : c.maxLocals = 11 := hml0
  have hown : s.vm.findClass "com/example/muster/muster/model/StatusOfPinLaw" = some m.cls := findClass_of_methodNamed Bd.named
  have hnm := (name_of_methodNamed Bd.named Bd.method).1
  have X0 : Stand p l e room_1 s m #[(.int p0), (.int p1)] below meth c s₁ [] 0 0 := Stand.of_body Bd
  have e0 : s₁.heap = h0 := by rw [← hh, Bd.state]; rfl
  have N0 := Fr.nil n0
  refine Go.enter (F := EndN s (Q_rm0 Z p0 p1 c_ONLINE c_AWAY c_OFFLINE h0 n0) 0 0) (ef_22 m p0 p1) ?_
  show Go _ _ _ _ s₁ (mkF m 0 #[.val (.int p0), .val (.int p1), .unset, .unset, .unset, .unset, .unset, .unset, .unset, .unset, .unset] [])
  refine Go.by (fun _ k => XS.iloadN X0.here hx rfl (hb hby at_0) rfl k) ?_
  show Go _ _ _ _ s₁ (mkF m 1 #[.val (.int p0), .val (.int p1), .unset, .unset, .unset, .unset, .unset, .unset, .unset, .unset, .unset] [(.int p0)])
  refine Go.by (fun _ k => X0.ldcI hx hown (mvT hZ (hw _ (List.mem_of_getElem? (i := 0) rfl))) (g := (mkF m 1 #[.val (.int p0), .val (.int p1), .unset, .unset, .unset, .unset, .unset, .unset, .unset, .unset, .unset] [(.int p0)])) rfl (hb hby at_1) k) ?_
  show Go _ _ _ _ s₁ (mkF m 3 #[.val (.int p0), .val (.int p1), .unset, .unset, .unset, .unset, .unset, .unset, .unset, .unset, .unset] [(.int (2147483647 : Int32)), (.int p0)])
  refine Go.by (fun _ k => XS.iand X0.here hx rfl (hb hby at_3) rfl k) ?_
  show Go _ _ _ _ s₁ (mkF m 4 #[.val (.int p0), .val (.int p1), .unset, .unset, .unset, .unset, .unset, .unset, .unset, .unset, .unset] [(.int (p0 &&& (2147483647 : Int32)))])
  refine Go.by (fun _ k => XS.istoreN X0.here hx rfl (hb hby at_4) rfl (l' := #[.val (.int p0), .val (.int p1), .val (.int (p0 &&& (2147483647 : Int32))), .unset, .unset, .unset, .unset, .unset, .unset, .unset, .unset]) rfl k) ?_
  show Go _ _ _ _ s₁ (mkF m 5 #[.val (.int p0), .val (.int p1), .val (.int (p0 &&& (2147483647 : Int32))), .unset, .unset, .unset, .unset, .unset, .unset, .unset, .unset] [])
  obtain ⟨x, h_x⟩ : ∃ z, z = (p0 &&& (2147483647 : Int32)) := ⟨_, rfl⟩
  rw [← h_x]
  show Go _ _ _ _ s₁ (mkF m 5 #[.val (.int p0), .val (.int p1), .val (.int x), .unset, .unset, .unset, .unset, .unset, .unset, .unset, .unset] [])
  have hx0 : ¬ x < 0 := h_x ▸ own_masked p0
  refine Go.by (fun _ k => XS.iloadN X0.here hx rfl (hb hby at_5) rfl k) ?_
  show Go _ _ _ _ s₁ (mkF m 6 #[.val (.int p0), .val (.int p1), .val (.int x), .unset, .unset, .unset, .unset, .unset, .unset, .unset, .unset] [(.int p1)])
  refine Go.by (fun _ k => X0.ldcI hx hown (mvT hZ (hw _ (List.mem_of_getElem? (i := 0) rfl))) (g := (mkF m 6 #[.val (.int p0), .val (.int p1), .val (.int x), .unset, .unset, .unset, .unset, .unset, .unset, .unset, .unset] [(.int p1)])) rfl (hb hby at_6) k) ?_
  show Go _ _ _ _ s₁ (mkF m 8 #[.val (.int p0), .val (.int p1), .val (.int x), .unset, .unset, .unset, .unset, .unset, .unset, .unset, .unset] [(.int (2147483647 : Int32)), (.int p1)])
  refine Go.by (fun _ k => XS.iand X0.here hx rfl (hb hby at_8) rfl k) ?_
  show Go _ _ _ _ s₁ (mkF m 9 #[.val (.int p0), .val (.int p1), .val (.int x), .unset, .unset, .unset, .unset, .unset, .unset, .unset, .unset] [(.int (p1 &&& (2147483647 : Int32)))])
  refine Go.by (fun _ k => XS.istoreN X0.here hx rfl (hb hby at_9) rfl (l' := #[.val (.int p0), .val (.int p1), .val (.int x), .val (.int (p1 &&& (2147483647 : Int32))), .unset, .unset, .unset, .unset, .unset, .unset, .unset]) rfl k) ?_
  show Go _ _ _ _ s₁ (mkF m 10 #[.val (.int p0), .val (.int p1), .val (.int x), .val (.int (p1 &&& (2147483647 : Int32))), .unset, .unset, .unset, .unset, .unset, .unset, .unset] [])
  obtain ⟨y, h_y⟩ : ∃ z, z = (p1 &&& (2147483647 : Int32)) := ⟨_, rfl⟩
  rw [← h_y]
  show Go _ _ _ _ s₁ (mkF m 10 #[.val (.int p0), .val (.int p1), .val (.int x), .val (.int y), .unset, .unset, .unset, .unset, .unset, .unset, .unset] [])
  have hy0 : ¬ y < 0 := h_y ▸ own_masked p1
  refine Go.by (fun _ k => XS.iloadN X0.here hx rfl (hb hby at_10) rfl k) ?_
  show Go _ _ _ _ s₁ (mkF m 11 #[.val (.int p0), .val (.int p1), .val (.int x), .val (.int y), .unset, .unset, .unset, .unset, .unset, .unset, .unset] [(.int x)])
  refine Go.by (fun _ k => XS.iloadN X0.here hx rfl (hb hby at_11) rfl k) ?_
  show Go _ _ _ _ s₁ (mkF m 12 #[.val (.int p0), .val (.int p1), .val (.int x), .val (.int y), .unset, .unset, .unset, .unset, .unset, .unset, .unset] [(.int y), (.int x)])
  obtain ⟨_, _, ⟨T1, L1, k1, n1⟩, -, X1, ⟨Lc1, hQ1, l1, y1, z1⟩, st1⟩ := Jvm.LawKit.callS X0 hx (y := (⟨"com/example/muster/muster/model/Status", "of", "(II)Lcom/example/muster/muster/model/Status;"⟩ : MethodName)) hown (mvT hZ (hw _ (List.mem_of_getElem? (i := 1) rfl))) (mvT hZ (hw _ (List.mem_of_getElem? (i := 2) rfl))) (mvT hZ (hw _ (List.mem_of_getElem? (i := 3) rfl))) (mvT hZ (hw _ (List.mem_of_getElem? (i := 4) rfl))) (by decide) (backOf (W := 0) (rm1 l Z a0 hw [] x y c_ONLINE c_AWAY c_OFFLINE h0 n0 Z0 O0 S_c_ONLINE E_c_ONLINE O_c_ONLINE S_c_AWAY E_c_AWAY O_c_AWAY S_c_OFFLINE E_c_OFFLINE O_c_OFFLINE hx0 hy0) hZ (hw _ (List.mem_of_getElem? (i := 4) rfl)) (hw _ (List.mem_of_getElem? (i := 3) rfl)) (by decide) (by decide)) (g := (mkF m 12 #[.val (.int p0), .val (.int p1), .val (.int x), .val (.int y), .unset, .unset, .unset, .unset, .unset, .unset, .unset] [(.int y), (.int x)])) rfl (by rw [hml]; rfl) (argsL := [(.int x), (.int y)]) (rest := []) (lenOf pd_23 rfl) rfl (by show 2 * 0 + _ ≤ _; exact Nat.le_of_eq rfl) (hb hby at_12) (fun _ _ => ⟨rfl, e0, (by decide : 0 + 0 ≤ _), (by decide : 0 + 0 ≤ _)⟩)
  dsimp only [Pt.U, Pt.locs, Pt.cells, Pt.slots] at X1 l1 y1 z1 st1 hQ1
  subst l1 y1 z1
  obtain ⟨rfl, N1q, e1⟩ := hQ1
  have N1 := Fr.app N0 N1q
  refine Go.by st1 ?_
  show Go _ _ _ _ T1 (mkF m 15 #[.val (.int p0), .val (.int p1), .val (.int x), .val (.int y), .unset, .unset, .unset, .unset, .unset, .unset, .unset] [(.ref (own_of x y c_ONLINE c_AWAY c_OFFLINE))])
  refine Go.by (fun _ k => XS.astore X1.here hx rfl (hb hby at_15) rfl rfl (l' := #[.val (.int p0), .val (.int p1), .val (.int x), .val (.int y), .val (.ref (own_of x y c_ONLINE c_AWAY c_OFFLINE)), .unset, .unset, .unset, .unset, .unset, .unset]) rfl k) ?_
  show Go _ _ _ _ T1 (mkF m 17 #[.val (.int p0), .val (.int p1), .val (.int x), .val (.int y), .val (.ref (own_of x y c_ONLINE c_AWAY c_OFFLINE)), .unset, .unset, .unset, .unset, .unset, .unset] [])
  refine Go.by (fun _ k => XS.aload X1.here hx rfl (hb hby at_17) rfl rfl k) ?_
  show Go _ _ _ _ T1 (mkF m 19 #[.val (.int p0), .val (.int p1), .val (.int x), .val (.int y), .val (.ref (own_of x y c_ONLINE c_AWAY c_OFFLINE)), .unset, .unset, .unset, .unset, .unset, .unset] [(.ref (own_of x y c_ONLINE c_AWAY c_OFFLINE))])
  refine Go.by (fun _ k => XT.nonnullYes X1.here hx rfl (pc0 := 19) (pc' := 24) rfl (hb hby at_19) rfl rfl nofun (by decide) (by decide) k) ?_
  show Go _ _ _ _ T1 (mkF m 24 #[.val (.int p0), .val (.int p1), .val (.int x), .val (.int y), .val (.ref (own_of x y c_ONLINE c_AWAY c_OFFLINE)), .unset, .unset, .unset, .unset, .unset, .unset] [])
  refine Go.by (fun _ k => XS.aload X1.here hx rfl (hb hby at_24) rfl rfl k) ?_
  show Go _ _ _ _ T1 (mkF m 26 #[.val (.int p0), .val (.int p1), .val (.int x), .val (.int y), .val (.ref (own_of x y c_ONLINE c_AWAY c_OFFLINE)), .unset, .unset, .unset, .unset, .unset, .unset] [(.ref (own_of x y c_ONLINE c_AWAY c_OFFLINE))])
  by_cases hp : 0 < x
  · by_cases hq : 0 < y
    · have ho : own_of x y c_ONLINE c_AWAY c_OFFLINE = c_ONLINE := by simp [own_of, hp]
      rw [ho]
      show Go _ _ _ _ T1 (mkF m 26 #[.val (.int p0), .val (.int p1), .val (.int x), .val (.int y), .val (.ref c_ONLINE), .unset, .unset, .unset, .unset, .unset, .unset] [(.ref c_ONLINE)])
      have F2 : Sta Z h0 "com/example/muster/muster/model/Status" "ONLINE" "Lcom/example/muster/muster/model/Status;" (.ref c_ONLINE) := S_c_ONLINE.ext O0.2
      obtain ⟨T3, X3, e3, st3⟩ := getS2 X1 hx hZ hown (host := "") (Or.inl (hw _ (List.mem_of_getElem? (i := 7) rfl))) Via.refl e1 F2 (g := (mkF m 26 #[.val (.int p0), .val (.int p1), .val (.int x), .val (.int y), .val (.ref c_ONLINE), .unset, .unset, .unset, .unset, .unset, .unset] [(.ref c_ONLINE)])) rfl (hb hby at_26)
      refine Go.by st3 ?_
      show Go _ _ _ _ T3 (mkF m 29 #[.val (.int p0), .val (.int p1), .val (.int x), .val (.int y), .val (.ref c_ONLINE), .unset, .unset, .unset, .unset, .unset, .unset] [(.ref c_ONLINE), (.ref c_ONLINE)])
      refine Go.by (fun _ k => XT.acmpNo X3.here hx rfl (hb hby at_29) rfl rfl rfl (XT.aa_ne_f rfl) k) ?_
      show Go _ _ _ _ T3 (mkF m 32 #[.val (.int p0), .val (.int p1), .val (.int x), .val (.int y), .val (.ref c_ONLINE), .unset, .unset, .unset, .unset, .unset, .unset] [])
      refine Go.by (fun _ k => XT.iconstV X3.here hx rfl (1 : Int32) (hb hby at_32) (by decide) k) ?_
      show Go _ _ _ _ T3 (mkF m 33 #[.val (.int p0), .val (.int p1), .val (.int x), .val (.int y), .val (.ref c_ONLINE), .unset, .unset, .unset, .unset, .unset, .unset] [(.int (1 : Int32))])
      refine Go.by (fun _ k => XS.goto X3.here hx rfl (pc0 := 33) (pc' := 37) rfl (hb hby at_33) (by decide) (by decide) k) ?_
      show Go _ _ _ _ T3 (mkF m 37 #[.val (.int p0), .val (.int p1), .val (.int x), .val (.int y), .val (.ref c_ONLINE), .unset, .unset, .unset, .unset, .unset, .unset] [(.int (1 : Int32))])
      refine Go.by (fun _ k => XS.istore X3.here hx rfl (hb hby at_37) rfl (l' := #[.val (.int p0), .val (.int p1), .val (.int x), .val (.int y), .val (.ref c_ONLINE), .val (.int (1 : Int32)), .unset, .unset, .unset, .unset, .unset]) rfl k) ?_
      show Go _ _ _ _ T3 (mkF m 39 #[.val (.int p0), .val (.int p1), .val (.int x), .val (.int y), .val (.ref c_ONLINE), .val (.int (1 : Int32)), .unset, .unset, .unset, .unset, .unset] [])
      refine Go.by (fun _ k => XS.aload X3.here hx rfl (hb hby at_39) rfl rfl k) ?_
      show Go _ _ _ _ T3 (mkF m 41 #[.val (.int p0), .val (.int p1), .val (.int x), .val (.int y), .val (.ref c_ONLINE), .val (.int (1 : Int32)), .unset, .unset, .unset, .unset, .unset] [(.ref c_ONLINE)])
      have F4 : Sta Z h0 "com/example/muster/muster/model/Status" "AWAY" "Lcom/example/muster/muster/model/Status;" (.ref c_AWAY) := S_c_AWAY.ext O0.2
      obtain ⟨T5, X5, e5, st5⟩ := getS2 X3 hx hZ hown (host := "") (Or.inl (hw _ (List.mem_of_getElem? (i := 9) rfl))) Via.refl e3 F4 (g := (mkF m 41 #[.val (.int p0), .val (.int p1), .val (.int x), .val (.int y), .val (.ref c_ONLINE), .val (.int (1 : Int32)), .unset, .unset, .unset, .unset, .unset] [(.ref c_ONLINE)])) rfl (hb hby at_41)
      refine Go.by st5 ?_
      show Go _ _ _ _ T5 (mkF m 44 #[.val (.int p0), .val (.int p1), .val (.int x), .val (.int y), .val (.ref c_ONLINE), .val (.int (1 : Int32)), .unset, .unset, .unset, .unset, .unset] [(.ref c_AWAY), (.ref c_ONLINE)])
      refine Go.by (fun _ k => XT.acmpYes X5.here hx rfl (pc0 := 44) (pc' := 51) rfl (hb hby at_44) rfl rfl rfl (XT.aa_ne_t (fun q => (Fld.ne O_c_ONLINE O_c_AWAY (by decide)) (Value.ref.inj q))) (by decide) (by decide) k) ?_
      show Go _ _ _ _ T5 (mkF m 51 #[.val (.int p0), .val (.int p1), .val (.int x), .val (.int y), .val (.ref c_ONLINE), .val (.int (1 : Int32)), .unset, .unset, .unset, .unset, .unset] [])
      refine Go.by (fun _ k => XT.iconstV X5.here hx rfl (0 : Int32) (hb hby at_51) (by decide) k) ?_
      show Go _ _ _ _ T5 (mkF m 52 #[.val (.int p0), .val (.int p1), .val (.int x), .val (.int y), .val (.ref c_ONLINE), .val (.int (1 : Int32)), .unset, .unset, .unset, .unset, .unset] [(.int (0 : Int32))])
      refine Go.by (fun _ k => XS.istore X5.here hx rfl (hb hby at_52) rfl (l' := #[.val (.int p0), .val (.int p1), .val (.int x), .val (.int y), .val (.ref c_ONLINE), .val (.int (1 : Int32)), .val (.int (0 : Int32)), .unset, .unset, .unset, .unset]) rfl k) ?_
      show Go _ _ _ _ T5 (mkF m 54 #[.val (.int p0), .val (.int p1), .val (.int x), .val (.int y), .val (.ref c_ONLINE), .val (.int (1 : Int32)), .val (.int (0 : Int32)), .unset, .unset, .unset, .unset] [])
      refine Go.by (fun _ k => XS.aload X5.here hx rfl (hb hby at_54) rfl rfl k) ?_
      show Go _ _ _ _ T5 (mkF m 56 #[.val (.int p0), .val (.int p1), .val (.int x), .val (.int y), .val (.ref c_ONLINE), .val (.int (1 : Int32)), .val (.int (0 : Int32)), .unset, .unset, .unset, .unset] [(.ref c_ONLINE)])
      have F6 : Sta Z h0 "com/example/muster/muster/model/Status" "OFFLINE" "Lcom/example/muster/muster/model/Status;" (.ref c_OFFLINE) := S_c_OFFLINE.ext O0.2
      obtain ⟨T7, X7, e7, st7⟩ := getS2 X5 hx hZ hown (host := "") (Or.inl (hw _ (List.mem_of_getElem? (i := 10) rfl))) Via.refl e5 F6 (g := (mkF m 56 #[.val (.int p0), .val (.int p1), .val (.int x), .val (.int y), .val (.ref c_ONLINE), .val (.int (1 : Int32)), .val (.int (0 : Int32)), .unset, .unset, .unset, .unset] [(.ref c_ONLINE)])) rfl (hb hby at_56)
      refine Go.by st7 ?_
      show Go _ _ _ _ T7 (mkF m 59 #[.val (.int p0), .val (.int p1), .val (.int x), .val (.int y), .val (.ref c_ONLINE), .val (.int (1 : Int32)), .val (.int (0 : Int32)), .unset, .unset, .unset, .unset] [(.ref c_OFFLINE), (.ref c_ONLINE)])
      refine Go.by (fun _ k => XT.acmpYes X7.here hx rfl (pc0 := 59) (pc' := 66) rfl (hb hby at_59) rfl rfl rfl (XT.aa_ne_t (fun q => (Fld.ne O_c_ONLINE O_c_OFFLINE (by decide)) (Value.ref.inj q))) (by decide) (by decide) k) ?_
      show Go _ _ _ _ T7 (mkF m 66 #[.val (.int p0), .val (.int p1), .val (.int x), .val (.int y), .val (.ref c_ONLINE), .val (.int (1 : Int32)), .val (.int (0 : Int32)), .unset, .unset, .unset, .unset] [])
      refine Go.by (fun _ k => XT.iconstV X7.here hx rfl (0 : Int32) (hb hby at_66) (by decide) k) ?_
      show Go _ _ _ _ T7 (mkF m 67 #[.val (.int p0), .val (.int p1), .val (.int x), .val (.int y), .val (.ref c_ONLINE), .val (.int (1 : Int32)), .val (.int (0 : Int32)), .unset, .unset, .unset, .unset] [(.int (0 : Int32))])
      refine Go.by (fun _ k => XS.istore X7.here hx rfl (hb hby at_67) rfl (l' := #[.val (.int p0), .val (.int p1), .val (.int x), .val (.int y), .val (.ref c_ONLINE), .val (.int (1 : Int32)), .val (.int (0 : Int32)), .val (.int (0 : Int32)), .unset, .unset, .unset]) rfl k) ?_
      show Go _ _ _ _ T7 (mkF m 69 #[.val (.int p0), .val (.int p1), .val (.int x), .val (.int y), .val (.ref c_ONLINE), .val (.int (1 : Int32)), .val (.int (0 : Int32)), .val (.int (0 : Int32)), .unset, .unset, .unset] [])
      refine Go.by (fun _ k => XS.iloadN X7.here hx rfl (hb hby at_69) rfl k) ?_
      show Go _ _ _ _ T7 (mkF m 70 #[.val (.int p0), .val (.int p1), .val (.int x), .val (.int y), .val (.ref c_ONLINE), .val (.int (1 : Int32)), .val (.int (0 : Int32)), .val (.int (0 : Int32)), .unset, .unset, .unset] [(.int x)])
      refine Go.by (fun _ k => XS.ifNo X7.here hx rfl (hb hby at_70) rfl (XT.i0_eq_f (own_pos hp)) k) ?_
      show Go _ _ _ _ T7 (mkF m 73 #[.val (.int p0), .val (.int p1), .val (.int x), .val (.int y), .val (.ref c_ONLINE), .val (.int (1 : Int32)), .val (.int (0 : Int32)), .val (.int (0 : Int32)), .unset, .unset, .unset] [])
      refine Go.by (fun _ k => XT.iconstV X7.here hx rfl (1 : Int32) (hb hby at_73) (by decide) k) ?_
      show Go _ _ _ _ T7 (mkF m 74 #[.val (.int p0), .val (.int p1), .val (.int x), .val (.int y), .val (.ref c_ONLINE), .val (.int (1 : Int32)), .val (.int (0 : Int32)), .val (.int (0 : Int32)), .unset, .unset, .unset] [(.int (1 : Int32))])
      refine Go.by (fun _ k => XS.goto X7.here hx rfl (pc0 := 74) (pc' := 78) rfl (hb hby at_74) (by decide) (by decide) k) ?_
      show Go _ _ _ _ T7 (mkF m 78 #[.val (.int p0), .val (.int p1), .val (.int x), .val (.int y), .val (.ref c_ONLINE), .val (.int (1 : Int32)), .val (.int (0 : Int32)), .val (.int (0 : Int32)), .unset, .unset, .unset] [(.int (1 : Int32))])
      refine Go.by (fun _ k => XS.istore X7.here hx rfl (hb hby at_78) rfl (l' := #[.val (.int p0), .val (.int p1), .val (.int x), .val (.int y), .val (.ref c_ONLINE), .val (.int (1 : Int32)), .val (.int (0 : Int32)), .val (.int (0 : Int32)), .val (.int (1 : Int32)), .unset, .unset]) rfl k) ?_
      show Go _ _ _ _ T7 (mkF m 80 #[.val (.int p0), .val (.int p1), .val (.int x), .val (.int y), .val (.ref c_ONLINE), .val (.int (1 : Int32)), .val (.int (0 : Int32)), .val (.int (0 : Int32)), .val (.int (1 : Int32)), .unset, .unset] [])
      refine Go.by (fun _ k => XS.iloadN X7.here hx rfl (hb hby at_80) rfl k) ?_
      show Go _ _ _ _ T7 (mkF m 81 #[.val (.int p0), .val (.int p1), .val (.int x), .val (.int y), .val (.ref c_ONLINE), .val (.int (1 : Int32)), .val (.int (0 : Int32)), .val (.int (0 : Int32)), .val (.int (1 : Int32)), .unset, .unset] [(.int y)])
      refine Go.by (fun _ k => XS.ifNo X7.here hx rfl (hb hby at_81) rfl (XT.i0_eq_f (own_pos hq)) k) ?_
      show Go _ _ _ _ T7 (mkF m 84 #[.val (.int p0), .val (.int p1), .val (.int x), .val (.int y), .val (.ref c_ONLINE), .val (.int (1 : Int32)), .val (.int (0 : Int32)), .val (.int (0 : Int32)), .val (.int (1 : Int32)), .unset, .unset] [])
      refine Go.by (fun _ k => XT.iconstV X7.here hx rfl (1 : Int32) (hb hby at_84) (by decide) k) ?_
      show Go _ _ _ _ T7 (mkF m 85 #[.val (.int p0), .val (.int p1), .val (.int x), .val (.int y), .val (.ref c_ONLINE), .val (.int (1 : Int32)), .val (.int (0 : Int32)), .val (.int (0 : Int32)), .val (.int (1 : Int32)), .unset, .unset] [(.int (1 : Int32))])
      refine Go.by (fun _ k => XS.goto X7.here hx rfl (pc0 := 85) (pc' := 89) rfl (hb hby at_85) (by decide) (by decide) k) ?_
      show Go _ _ _ _ T7 (mkF m 89 #[.val (.int p0), .val (.int p1), .val (.int x), .val (.int y), .val (.ref c_ONLINE), .val (.int (1 : Int32)), .val (.int (0 : Int32)), .val (.int (0 : Int32)), .val (.int (1 : Int32)), .unset, .unset] [(.int (1 : Int32))])
      refine Go.by (fun _ k => XS.istore X7.here hx rfl (hb hby at_89) rfl (l' := #[.val (.int p0), .val (.int p1), .val (.int x), .val (.int y), .val (.ref c_ONLINE), .val (.int (1 : Int32)), .val (.int (0 : Int32)), .val (.int (0 : Int32)), .val (.int (1 : Int32)), .val (.int (1 : Int32)), .unset]) rfl k) ?_
      show Go _ _ _ _ T7 (mkF m 91 #[.val (.int p0), .val (.int p1), .val (.int x), .val (.int y), .val (.ref c_ONLINE), .val (.int (1 : Int32)), .val (.int (0 : Int32)), .val (.int (0 : Int32)), .val (.int (1 : Int32)), .val (.int (1 : Int32)), .unset] [])
      refine Go.by (fun _ k => XS.iloadN X7.here hx rfl (hb hby at_91) rfl k) ?_
      show Go _ _ _ _ T7 (mkF m 92 #[.val (.int p0), .val (.int p1), .val (.int x), .val (.int y), .val (.ref c_ONLINE), .val (.int (1 : Int32)), .val (.int (0 : Int32)), .val (.int (0 : Int32)), .val (.int (1 : Int32)), .val (.int (1 : Int32)), .unset] [(.int x)])
      refine Go.by (fun _ k => XS.iloadN X7.here hx rfl (hb hby at_92) rfl k) ?_
      show Go _ _ _ _ T7 (mkF m 93 #[.val (.int p0), .val (.int p1), .val (.int x), .val (.int y), .val (.ref c_ONLINE), .val (.int (1 : Int32)), .val (.int (0 : Int32)), .val (.int (0 : Int32)), .val (.int (1 : Int32)), .val (.int (1 : Int32)), .unset] [(.int y), (.int x)])
      refine Go.by (fun _ k => XT.ior X7.here hx rfl (hb hby at_93) rfl k) ?_
      show Go _ _ _ _ T7 (mkF m 94 #[.val (.int p0), .val (.int p1), .val (.int x), .val (.int y), .val (.ref c_ONLINE), .val (.int (1 : Int32)), .val (.int (0 : Int32)), .val (.int (0 : Int32)), .val (.int (1 : Int32)), .val (.int (1 : Int32)), .unset] [(.int (x ||| y))])
      refine Go.by (fun _ k => XS.ifYes X7.here hx rfl (pc0 := 94) (pc' := 101) rfl (hb hby at_94) rfl (XT.i0_ne_t (own_or_pos hx0 hy0 (Or.inl (own_pos hp)))) (by decide) (by decide) k) ?_
      show Go _ _ _ _ T7 (mkF m 101 #[.val (.int p0), .val (.int p1), .val (.int x), .val (.int y), .val (.ref c_ONLINE), .val (.int (1 : Int32)), .val (.int (0 : Int32)), .val (.int (0 : Int32)), .val (.int (1 : Int32)), .val (.int (1 : Int32)), .unset] [])
      refine Go.by (fun _ k => XT.iconstV X7.here hx rfl (0 : Int32) (hb hby at_101) (by decide) k) ?_
      show Go _ _ _ _ T7 (mkF m 102 #[.val (.int p0), .val (.int p1), .val (.int x), .val (.int y), .val (.ref c_ONLINE), .val (.int (1 : Int32)), .val (.int (0 : Int32)), .val (.int (0 : Int32)), .val (.int (1 : Int32)), .val (.int (1 : Int32)), .unset] [(.int (0 : Int32))])
      refine Go.by (fun _ k => XS.istore X7.here hx rfl (hb hby at_102) rfl (l' := #[.val (.int p0), .val (.int p1), .val (.int x), .val (.int y), .val (.ref c_ONLINE), .val (.int (1 : Int32)), .val (.int (0 : Int32)), .val (.int (0 : Int32)), .val (.int (1 : Int32)), .val (.int (1 : Int32)), .val (.int (0 : Int32))]) rfl k) ?_
      show Go _ _ _ _ T7 (mkF m 104 #[.val (.int p0), .val (.int p1), .val (.int x), .val (.int y), .val (.ref c_ONLINE), .val (.int (1 : Int32)), .val (.int (0 : Int32)), .val (.int (0 : Int32)), .val (.int (1 : Int32)), .val (.int (1 : Int32)), .val (.int (0 : Int32))] [])
      refine Go.by (fun _ k => XS.iload X7.here hx rfl (hb hby at_104) rfl k) ?_
      show Go _ _ _ _ T7 (mkF m 106 #[.val (.int p0), .val (.int p1), .val (.int x), .val (.int y), .val (.ref c_ONLINE), .val (.int (1 : Int32)), .val (.int (0 : Int32)), .val (.int (0 : Int32)), .val (.int (1 : Int32)), .val (.int (1 : Int32)), .val (.int (0 : Int32))] [(.int (1 : Int32))])
      refine Go.by (fun _ k => XS.iload X7.here hx rfl (hb hby at_106) rfl k) ?_
      show Go _ _ _ _ T7 (mkF m 108 #[.val (.int p0), .val (.int p1), .val (.int x), .val (.int y), .val (.ref c_ONLINE), .val (.int (1 : Int32)), .val (.int (0 : Int32)), .val (.int (0 : Int32)), .val (.int (1 : Int32)), .val (.int (1 : Int32)), .val (.int (0 : Int32))] [(.int (1 : Int32)), (.int (1 : Int32))])
      refine Go.by (fun _ k => XS.icmpNo X7.here hx rfl (hb hby at_108) rfl (XT.ii_ne_f rfl) k) ?_
      show Go _ _ _ _ T7 (mkF m 111 #[.val (.int p0), .val (.int p1), .val (.int x), .val (.int y), .val (.ref c_ONLINE), .val (.int (1 : Int32)), .val (.int (0 : Int32)), .val (.int (0 : Int32)), .val (.int (1 : Int32)), .val (.int (1 : Int32)), .val (.int (0 : Int32))] [])
      refine Go.by (fun _ k => XS.iload X7.here hx rfl (hb hby at_111) rfl k) ?_
      show Go _ _ _ _ T7 (mkF m 113 #[.val (.int p0), .val (.int p1), .val (.int x), .val (.int y), .val (.ref c_ONLINE), .val (.int (1 : Int32)), .val (.int (0 : Int32)), .val (.int (0 : Int32)), .val (.int (1 : Int32)), .val (.int (1 : Int32)), .val (.int (0 : Int32))] [(.int (0 : Int32))])
      refine Go.by (fun _ k => XS.iload X7.here hx rfl (hb hby at_113) rfl k) ?_
      show Go _ _ _ _ T7 (mkF m 115 #[.val (.int p0), .val (.int p1), .val (.int x), .val (.int y), .val (.ref c_ONLINE), .val (.int (1 : Int32)), .val (.int (0 : Int32)), .val (.int (0 : Int32)), .val (.int (1 : Int32)), .val (.int (1 : Int32)), .val (.int (0 : Int32))] [(.int (1 : Int32)), (.int (0 : Int32))])
      refine Go.by (fun _ k => XS.ifYes X7.here hx rfl (pc0 := 115) (pc' := 127) rfl (hb hby at_115) rfl (XT.i0_ne_t (by decide)) (by decide) (by decide) k) ?_
      show Go _ _ _ _ T7 (mkF m 127 #[.val (.int p0), .val (.int p1), .val (.int x), .val (.int y), .val (.ref c_ONLINE), .val (.int (1 : Int32)), .val (.int (0 : Int32)), .val (.int (0 : Int32)), .val (.int (1 : Int32)), .val (.int (1 : Int32)), .val (.int (0 : Int32))] [(.int (0 : Int32))])
      refine Go.by (fun _ k => XT.iconstV X7.here hx rfl (0 : Int32) (hb hby at_127) (by decide) k) ?_
      show Go _ _ _ _ T7 (mkF m 128 #[.val (.int p0), .val (.int p1), .val (.int x), .val (.int y), .val (.ref c_ONLINE), .val (.int (1 : Int32)), .val (.int (0 : Int32)), .val (.int (0 : Int32)), .val (.int (1 : Int32)), .val (.int (1 : Int32)), .val (.int (0 : Int32))] [(.int (0 : Int32)), (.int (0 : Int32))])
      refine Go.by (fun _ k => XS.icmpNo X7.here hx rfl (hb hby at_128) rfl (XT.ii_ne_f rfl) k) ?_
      show Go _ _ _ _ T7 (mkF m 131 #[.val (.int p0), .val (.int p1), .val (.int x), .val (.int y), .val (.ref c_ONLINE), .val (.int (1 : Int32)), .val (.int (0 : Int32)), .val (.int (0 : Int32)), .val (.int (1 : Int32)), .val (.int (1 : Int32)), .val (.int (0 : Int32))] [])
      refine Go.by (fun _ k => XS.iload X7.here hx rfl (hb hby at_131) rfl k) ?_
      show Go _ _ _ _ T7 (mkF m 133 #[.val (.int p0), .val (.int p1), .val (.int x), .val (.int y), .val (.ref c_ONLINE), .val (.int (1 : Int32)), .val (.int (0 : Int32)), .val (.int (0 : Int32)), .val (.int (1 : Int32)), .val (.int (1 : Int32)), .val (.int (0 : Int32))] [(.int (0 : Int32))])
      refine Go.by (fun _ k => XS.iload X7.here hx rfl (hb hby at_133) rfl k) ?_
      show Go _ _ _ _ T7 (mkF m 135 #[.val (.int p0), .val (.int p1), .val (.int x), .val (.int y), .val (.ref c_ONLINE), .val (.int (1 : Int32)), .val (.int (0 : Int32)), .val (.int (0 : Int32)), .val (.int (1 : Int32)), .val (.int (1 : Int32)), .val (.int (0 : Int32))] [(.int (0 : Int32)), (.int (0 : Int32))])
      refine Go.by (fun _ k => XS.icmpNo X7.here hx rfl (hb hby at_135) rfl (XT.ii_ne_f rfl) k) ?_
      show Go _ _ _ _ T7 (mkF m 138 #[.val (.int p0), .val (.int p1), .val (.int x), .val (.int y), .val (.ref c_ONLINE), .val (.int (1 : Int32)), .val (.int (0 : Int32)), .val (.int (0 : Int32)), .val (.int (1 : Int32)), .val (.int (1 : Int32)), .val (.int (0 : Int32))] [])
      refine Go.by (fun _ k => XT.iconstV X7.here hx rfl (1 : Int32) (hb hby at_138) (by decide) k) ?_
      show Go _ _ _ _ T7 (mkF m 139 #[.val (.int p0), .val (.int p1), .val (.int x), .val (.int y), .val (.ref c_ONLINE), .val (.int (1 : Int32)), .val (.int (0 : Int32)), .val (.int (0 : Int32)), .val (.int (1 : Int32)), .val (.int (1 : Int32)), .val (.int (0 : Int32))] [(.int (1 : Int32))])
      refine Go.by (fun _ k => XS.goto X7.here hx rfl (pc0 := 139) (pc' := 143) rfl (hb hby at_139) (by decide) (by decide) k) ?_
      show Go _ _ _ _ T7 (mkF m 143 #[.val (.int p0), .val (.int p1), .val (.int x), .val (.int y), .val (.ref c_ONLINE), .val (.int (1 : Int32)), .val (.int (0 : Int32)), .val (.int (0 : Int32)), .val (.int (1 : Int32)), .val (.int (1 : Int32)), .val (.int (0 : Int32))] [(.int (1 : Int32))])
      exact Go.retI X7 hx Bd.notSynchronized Bd.returns rfl (by simp) (hb hby at_143) (by rw [e7]; exact ⟨rfl, N1⟩) (by decide) (by decide)
    · have ho : own_of x y c_ONLINE c_AWAY c_OFFLINE = c_ONLINE := by simp [own_of, hp]
      rw [ho]
      show Go _ _ _ _ T1 (mkF m 26 #[.val (.int p0), .val (.int p1), .val (.int x), .val (.int y), .val (.ref c_ONLINE), .unset, .unset, .unset, .unset, .unset, .unset] [(.ref c_ONLINE)])
      have F8 : Sta Z h0 "com/example/muster/muster/model/Status" "ONLINE" "Lcom/example/muster/muster/model/Status;" (.ref c_ONLINE) := S_c_ONLINE.ext O0.2
      obtain ⟨T9, X9, e9, st9⟩ := getS2 X1 hx hZ hown (host := "") (Or.inl (hw _ (List.mem_of_getElem? (i := 7) rfl))) Via.refl e1 F8 (g := (mkF m 26 #[.val (.int p0), .val (.int p1), .val (.int x), .val (.int y), .val (.ref c_ONLINE), .unset, .unset, .unset, .unset, .unset, .unset] [(.ref c_ONLINE)])) rfl (hb hby at_26)
      refine Go.by st9 ?_
      show Go _ _ _ _ T9 (mkF m 29 #[.val (.int p0), .val (.int p1), .val (.int x), .val (.int y), .val (.ref c_ONLINE), .unset, .unset, .unset, .unset, .unset, .unset] [(.ref c_ONLINE), (.ref c_ONLINE)])
      refine Go.by (fun _ k => XT.acmpNo X9.here hx rfl (hb hby at_29) rfl rfl rfl (XT.aa_ne_f rfl) k) ?_
      show Go _ _ _ _ T9 (mkF m 32 #[.val (.int p0), .val (.int p1), .val (.int x), .val (.int y), .val (.ref c_ONLINE), .unset, .unset, .unset, .unset, .unset, .unset] [])
      refine Go.by (fun _ k => XT.iconstV X9.here hx rfl (1 : Int32) (hb hby at_32) (by decide) k) ?_
      show Go _ _ _ _ T9 (mkF m 33 #[.val (.int p0), .val (.int p1), .val (.int x), .val (.int y), .val (.ref c_ONLINE), .unset, .unset, .unset, .unset, .unset, .unset] [(.int (1 : Int32))])
      refine Go.by (fun _ k => XS.goto X9.here hx rfl (pc0 := 33) (pc' := 37) rfl (hb hby at_33) (by decide) (by decide) k) ?_
      show Go _ _ _ _ T9 (mkF m 37 #[.val (.int p0), .val (.int p1), .val (.int x), .val (.int y), .val (.ref c_ONLINE), .unset, .unset, .unset, .unset, .unset, .unset] [(.int (1 : Int32))])
      refine Go.by (fun _ k => XS.istore X9.here hx rfl (hb hby at_37) rfl (l' := #[.val (.int p0), .val (.int p1), .val (.int x), .val (.int y), .val (.ref c_ONLINE), .val (.int (1 : Int32)), .unset, .unset, .unset, .unset, .unset]) rfl k) ?_
      show Go _ _ _ _ T9 (mkF m 39 #[.val (.int p0), .val (.int p1), .val (.int x), .val (.int y), .val (.ref c_ONLINE), .val (.int (1 : Int32)), .unset, .unset, .unset, .unset, .unset] [])
      refine Go.by (fun _ k => XS.aload X9.here hx rfl (hb hby at_39) rfl rfl k) ?_
      show Go _ _ _ _ T9 (mkF m 41 #[.val (.int p0), .val (.int p1), .val (.int x), .val (.int y), .val (.ref c_ONLINE), .val (.int (1 : Int32)), .unset, .unset, .unset, .unset, .unset] [(.ref c_ONLINE)])
      have F10 : Sta Z h0 "com/example/muster/muster/model/Status" "AWAY" "Lcom/example/muster/muster/model/Status;" (.ref c_AWAY) := S_c_AWAY.ext O0.2
      obtain ⟨T11, X11, e11, st11⟩ := getS2 X9 hx hZ hown (host := "") (Or.inl (hw _ (List.mem_of_getElem? (i := 9) rfl))) Via.refl e9 F10 (g := (mkF m 41 #[.val (.int p0), .val (.int p1), .val (.int x), .val (.int y), .val (.ref c_ONLINE), .val (.int (1 : Int32)), .unset, .unset, .unset, .unset, .unset] [(.ref c_ONLINE)])) rfl (hb hby at_41)
      refine Go.by st11 ?_
      show Go _ _ _ _ T11 (mkF m 44 #[.val (.int p0), .val (.int p1), .val (.int x), .val (.int y), .val (.ref c_ONLINE), .val (.int (1 : Int32)), .unset, .unset, .unset, .unset, .unset] [(.ref c_AWAY), (.ref c_ONLINE)])
      refine Go.by (fun _ k => XT.acmpYes X11.here hx rfl (pc0 := 44) (pc' := 51) rfl (hb hby at_44) rfl rfl rfl (XT.aa_ne_t (fun q => (Fld.ne O_c_ONLINE O_c_AWAY (by decide)) (Value.ref.inj q))) (by decide) (by decide) k) ?_
      show Go _ _ _ _ T11 (mkF m 51 #[.val (.int p0), .val (.int p1), .val (.int x), .val (.int y), .val (.ref c_ONLINE), .val (.int (1 : Int32)), .unset, .unset, .unset, .unset, .unset] [])
      refine Go.by (fun _ k => XT.iconstV X11.here hx rfl (0 : Int32) (hb hby at_51) (by decide) k) ?_
      show Go _ _ _ _ T11 (mkF m 52 #[.val (.int p0), .val (.int p1), .val (.int x), .val (.int y), .val (.ref c_ONLINE), .val (.int (1 : Int32)), .unset, .unset, .unset, .unset, .unset] [(.int (0 : Int32))])
      refine Go.by (fun _ k => XS.istore X11.here hx rfl (hb hby at_52) rfl (l' := #[.val (.int p0), .val (.int p1), .val (.int x), .val (.int y), .val (.ref c_ONLINE), .val (.int (1 : Int32)), .val (.int (0 : Int32)), .unset, .unset, .unset, .unset]) rfl k) ?_
      show Go _ _ _ _ T11 (mkF m 54 #[.val (.int p0), .val (.int p1), .val (.int x), .val (.int y), .val (.ref c_ONLINE), .val (.int (1 : Int32)), .val (.int (0 : Int32)), .unset, .unset, .unset, .unset] [])
      refine Go.by (fun _ k => XS.aload X11.here hx rfl (hb hby at_54) rfl rfl k) ?_
      show Go _ _ _ _ T11 (mkF m 56 #[.val (.int p0), .val (.int p1), .val (.int x), .val (.int y), .val (.ref c_ONLINE), .val (.int (1 : Int32)), .val (.int (0 : Int32)), .unset, .unset, .unset, .unset] [(.ref c_ONLINE)])
      have F12 : Sta Z h0 "com/example/muster/muster/model/Status" "OFFLINE" "Lcom/example/muster/muster/model/Status;" (.ref c_OFFLINE) := S_c_OFFLINE.ext O0.2
      obtain ⟨T13, X13, e13, st13⟩ := getS2 X11 hx hZ hown (host := "") (Or.inl (hw _ (List.mem_of_getElem? (i := 10) rfl))) Via.refl e11 F12 (g := (mkF m 56 #[.val (.int p0), .val (.int p1), .val (.int x), .val (.int y), .val (.ref c_ONLINE), .val (.int (1 : Int32)), .val (.int (0 : Int32)), .unset, .unset, .unset, .unset] [(.ref c_ONLINE)])) rfl (hb hby at_56)
      refine Go.by st13 ?_
      show Go _ _ _ _ T13 (mkF m 59 #[.val (.int p0), .val (.int p1), .val (.int x), .val (.int y), .val (.ref c_ONLINE), .val (.int (1 : Int32)), .val (.int (0 : Int32)), .unset, .unset, .unset, .unset] [(.ref c_OFFLINE), (.ref c_ONLINE)])
      refine Go.by (fun _ k => XT.acmpYes X13.here hx rfl (pc0 := 59) (pc' := 66) rfl (hb hby at_59) rfl rfl rfl (XT.aa_ne_t (fun q => (Fld.ne O_c_ONLINE O_c_OFFLINE (by decide)) (Value.ref.inj q))) (by decide) (by decide) k) ?_
      show Go _ _ _ _ T13 (mkF m 66 #[.val (.int p0), .val (.int p1), .val (.int x), .val (.int y), .val (.ref c_ONLINE), .val (.int (1 : Int32)), .val (.int (0 : Int32)), .unset, .unset, .unset, .unset] [])
      refine Go.by (fun _ k => XT.iconstV X13.here hx rfl (0 : Int32) (hb hby at_66) (by decide) k) ?_
      show Go _ _ _ _ T13 (mkF m 67 #[.val (.int p0), .val (.int p1), .val (.int x), .val (.int y), .val (.ref c_ONLINE), .val (.int (1 : Int32)), .val (.int (0 : Int32)), .unset, .unset, .unset, .unset] [(.int (0 : Int32))])
      refine Go.by (fun _ k => XS.istore X13.here hx rfl (hb hby at_67) rfl (l' := #[.val (.int p0), .val (.int p1), .val (.int x), .val (.int y), .val (.ref c_ONLINE), .val (.int (1 : Int32)), .val (.int (0 : Int32)), .val (.int (0 : Int32)), .unset, .unset, .unset]) rfl k) ?_
      show Go _ _ _ _ T13 (mkF m 69 #[.val (.int p0), .val (.int p1), .val (.int x), .val (.int y), .val (.ref c_ONLINE), .val (.int (1 : Int32)), .val (.int (0 : Int32)), .val (.int (0 : Int32)), .unset, .unset, .unset] [])
      refine Go.by (fun _ k => XS.iloadN X13.here hx rfl (hb hby at_69) rfl k) ?_
      show Go _ _ _ _ T13 (mkF m 70 #[.val (.int p0), .val (.int p1), .val (.int x), .val (.int y), .val (.ref c_ONLINE), .val (.int (1 : Int32)), .val (.int (0 : Int32)), .val (.int (0 : Int32)), .unset, .unset, .unset] [(.int x)])
      refine Go.by (fun _ k => XS.ifNo X13.here hx rfl (hb hby at_70) rfl (XT.i0_eq_f (own_pos hp)) k) ?_
      show Go _ _ _ _ T13 (mkF m 73 #[.val (.int p0), .val (.int p1), .val (.int x), .val (.int y), .val (.ref c_ONLINE), .val (.int (1 : Int32)), .val (.int (0 : Int32)), .val (.int (0 : Int32)), .unset, .unset, .unset] [])
      refine Go.by (fun _ k => XT.iconstV X13.here hx rfl (1 : Int32) (hb hby at_73) (by decide) k) ?_
      show Go _ _ _ _ T13 (mkF m 74 #[.val (.int p0), .val (.int p1), .val (.int x), .val (.int y), .val (.ref c_ONLINE), .val (.int (1 : Int32)), .val (.int (0 : Int32)), .val (.int (0 : Int32)), .unset, .unset, .unset] [(.int (1 : Int32))])
      refine Go.by (fun _ k => XS.goto X13.here hx rfl (pc0 := 74) (pc' := 78) rfl (hb hby at_74) (by decide) (by decide) k) ?_
      show Go _ _ _ _ T13 (mkF m 78 #[.val (.int p0), .val (.int p1), .val (.int x), .val (.int y), .val (.ref c_ONLINE), .val (.int (1 : Int32)), .val (.int (0 : Int32)), .val (.int (0 : Int32)), .unset, .unset, .unset] [(.int (1 : Int32))])
      refine Go.by (fun _ k => XS.istore X13.here hx rfl (hb hby at_78) rfl (l' := #[.val (.int p0), .val (.int p1), .val (.int x), .val (.int y), .val (.ref c_ONLINE), .val (.int (1 : Int32)), .val (.int (0 : Int32)), .val (.int (0 : Int32)), .val (.int (1 : Int32)), .unset, .unset]) rfl k) ?_
      show Go _ _ _ _ T13 (mkF m 80 #[.val (.int p0), .val (.int p1), .val (.int x), .val (.int y), .val (.ref c_ONLINE), .val (.int (1 : Int32)), .val (.int (0 : Int32)), .val (.int (0 : Int32)), .val (.int (1 : Int32)), .unset, .unset] [])
      refine Go.by (fun _ k => XS.iloadN X13.here hx rfl (hb hby at_80) rfl k) ?_
      show Go _ _ _ _ T13 (mkF m 81 #[.val (.int p0), .val (.int p1), .val (.int x), .val (.int y), .val (.ref c_ONLINE), .val (.int (1 : Int32)), .val (.int (0 : Int32)), .val (.int (0 : Int32)), .val (.int (1 : Int32)), .unset, .unset] [(.int y)])
      refine Go.by (fun _ k => XS.ifYes X13.here hx rfl (pc0 := 81) (pc' := 88) rfl (hb hby at_81) rfl (XT.i0_eq_t (own_zero hy0 hq)) (by decide) (by decide) k) ?_
      show Go _ _ _ _ T13 (mkF m 88 #[.val (.int p0), .val (.int p1), .val (.int x), .val (.int y), .val (.ref c_ONLINE), .val (.int (1 : Int32)), .val (.int (0 : Int32)), .val (.int (0 : Int32)), .val (.int (1 : Int32)), .unset, .unset] [])
      refine Go.by (fun _ k => XT.iconstV X13.here hx rfl (0 : Int32) (hb hby at_88) (by decide) k) ?_
      show Go _ _ _ _ T13 (mkF m 89 #[.val (.int p0), .val (.int p1), .val (.int x), .val (.int y), .val (.ref c_ONLINE), .val (.int (1 : Int32)), .val (.int (0 : Int32)), .val (.int (0 : Int32)), .val (.int (1 : Int32)), .unset, .unset] [(.int (0 : Int32))])
      refine Go.by (fun _ k => XS.istore X13.here hx rfl (hb hby at_89) rfl (l' := #[.val (.int p0), .val (.int p1), .val (.int x), .val (.int y), .val (.ref c_ONLINE), .val (.int (1 : Int32)), .val (.int (0 : Int32)), .val (.int (0 : Int32)), .val (.int (1 : Int32)), .val (.int (0 : Int32)), .unset]) rfl k) ?_
      show Go _ _ _ _ T13 (mkF m 91 #[.val (.int p0), .val (.int p1), .val (.int x), .val (.int y), .val (.ref c_ONLINE), .val (.int (1 : Int32)), .val (.int (0 : Int32)), .val (.int (0 : Int32)), .val (.int (1 : Int32)), .val (.int (0 : Int32)), .unset] [])
      refine Go.by (fun _ k => XS.iloadN X13.here hx rfl (hb hby at_91) rfl k) ?_
      show Go _ _ _ _ T13 (mkF m 92 #[.val (.int p0), .val (.int p1), .val (.int x), .val (.int y), .val (.ref c_ONLINE), .val (.int (1 : Int32)), .val (.int (0 : Int32)), .val (.int (0 : Int32)), .val (.int (1 : Int32)), .val (.int (0 : Int32)), .unset] [(.int x)])
      refine Go.by (fun _ k => XS.iloadN X13.here hx rfl (hb hby at_92) rfl k) ?_
      show Go _ _ _ _ T13 (mkF m 93 #[.val (.int p0), .val (.int p1), .val (.int x), .val (.int y), .val (.ref c_ONLINE), .val (.int (1 : Int32)), .val (.int (0 : Int32)), .val (.int (0 : Int32)), .val (.int (1 : Int32)), .val (.int (0 : Int32)), .unset] [(.int y), (.int x)])
      refine Go.by (fun _ k => XT.ior X13.here hx rfl (hb hby at_93) rfl k) ?_
      show Go _ _ _ _ T13 (mkF m 94 #[.val (.int p0), .val (.int p1), .val (.int x), .val (.int y), .val (.ref c_ONLINE), .val (.int (1 : Int32)), .val (.int (0 : Int32)), .val (.int (0 : Int32)), .val (.int (1 : Int32)), .val (.int (0 : Int32)), .unset] [(.int (x ||| y))])
      refine Go.by (fun _ k => XS.ifYes X13.here hx rfl (pc0 := 94) (pc' := 101) rfl (hb hby at_94) rfl (XT.i0_ne_t (own_or_pos hx0 hy0 (Or.inl (own_pos hp)))) (by decide) (by decide) k) ?_
      show Go _ _ _ _ T13 (mkF m 101 #[.val (.int p0), .val (.int p1), .val (.int x), .val (.int y), .val (.ref c_ONLINE), .val (.int (1 : Int32)), .val (.int (0 : Int32)), .val (.int (0 : Int32)), .val (.int (1 : Int32)), .val (.int (0 : Int32)), .unset] [])
      refine Go.by (fun _ k => XT.iconstV X13.here hx rfl (0 : Int32) (hb hby at_101) (by decide) k) ?_
      show Go _ _ _ _ T13 (mkF m 102 #[.val (.int p0), .val (.int p1), .val (.int x), .val (.int y), .val (.ref c_ONLINE), .val (.int (1 : Int32)), .val (.int (0 : Int32)), .val (.int (0 : Int32)), .val (.int (1 : Int32)), .val (.int (0 : Int32)), .unset] [(.int (0 : Int32))])
      refine Go.by (fun _ k => XS.istore X13.here hx rfl (hb hby at_102) rfl (l' := #[.val (.int p0), .val (.int p1), .val (.int x), .val (.int y), .val (.ref c_ONLINE), .val (.int (1 : Int32)), .val (.int (0 : Int32)), .val (.int (0 : Int32)), .val (.int (1 : Int32)), .val (.int (0 : Int32)), .val (.int (0 : Int32))]) rfl k) ?_
      show Go _ _ _ _ T13 (mkF m 104 #[.val (.int p0), .val (.int p1), .val (.int x), .val (.int y), .val (.ref c_ONLINE), .val (.int (1 : Int32)), .val (.int (0 : Int32)), .val (.int (0 : Int32)), .val (.int (1 : Int32)), .val (.int (0 : Int32)), .val (.int (0 : Int32))] [])
      refine Go.by (fun _ k => XS.iload X13.here hx rfl (hb hby at_104) rfl k) ?_
      show Go _ _ _ _ T13 (mkF m 106 #[.val (.int p0), .val (.int p1), .val (.int x), .val (.int y), .val (.ref c_ONLINE), .val (.int (1 : Int32)), .val (.int (0 : Int32)), .val (.int (0 : Int32)), .val (.int (1 : Int32)), .val (.int (0 : Int32)), .val (.int (0 : Int32))] [(.int (1 : Int32))])
      refine Go.by (fun _ k => XS.iload X13.here hx rfl (hb hby at_106) rfl k) ?_
      show Go _ _ _ _ T13 (mkF m 108 #[.val (.int p0), .val (.int p1), .val (.int x), .val (.int y), .val (.ref c_ONLINE), .val (.int (1 : Int32)), .val (.int (0 : Int32)), .val (.int (0 : Int32)), .val (.int (1 : Int32)), .val (.int (0 : Int32)), .val (.int (0 : Int32))] [(.int (1 : Int32)), (.int (1 : Int32))])
      refine Go.by (fun _ k => XS.icmpNo X13.here hx rfl (hb hby at_108) rfl (XT.ii_ne_f rfl) k) ?_
      show Go _ _ _ _ T13 (mkF m 111 #[.val (.int p0), .val (.int p1), .val (.int x), .val (.int y), .val (.ref c_ONLINE), .val (.int (1 : Int32)), .val (.int (0 : Int32)), .val (.int (0 : Int32)), .val (.int (1 : Int32)), .val (.int (0 : Int32)), .val (.int (0 : Int32))] [])
      refine Go.by (fun _ k => XS.iload X13.here hx rfl (hb hby at_111) rfl k) ?_
      show Go _ _ _ _ T13 (mkF m 113 #[.val (.int p0), .val (.int p1), .val (.int x), .val (.int y), .val (.ref c_ONLINE), .val (.int (1 : Int32)), .val (.int (0 : Int32)), .val (.int (0 : Int32)), .val (.int (1 : Int32)), .val (.int (0 : Int32)), .val (.int (0 : Int32))] [(.int (0 : Int32))])
      refine Go.by (fun _ k => XS.iload X13.here hx rfl (hb hby at_113) rfl k) ?_
      show Go _ _ _ _ T13 (mkF m 115 #[.val (.int p0), .val (.int p1), .val (.int x), .val (.int y), .val (.ref c_ONLINE), .val (.int (1 : Int32)), .val (.int (0 : Int32)), .val (.int (0 : Int32)), .val (.int (1 : Int32)), .val (.int (0 : Int32)), .val (.int (0 : Int32))] [(.int (1 : Int32)), (.int (0 : Int32))])
      refine Go.by (fun _ k => XS.ifYes X13.here hx rfl (pc0 := 115) (pc' := 127) rfl (hb hby at_115) rfl (XT.i0_ne_t (by decide)) (by decide) (by decide) k) ?_
      show Go _ _ _ _ T13 (mkF m 127 #[.val (.int p0), .val (.int p1), .val (.int x), .val (.int y), .val (.ref c_ONLINE), .val (.int (1 : Int32)), .val (.int (0 : Int32)), .val (.int (0 : Int32)), .val (.int (1 : Int32)), .val (.int (0 : Int32)), .val (.int (0 : Int32))] [(.int (0 : Int32))])
      refine Go.by (fun _ k => XT.iconstV X13.here hx rfl (0 : Int32) (hb hby at_127) (by decide) k) ?_
      show Go _ _ _ _ T13 (mkF m 128 #[.val (.int p0), .val (.int p1), .val (.int x), .val (.int y), .val (.ref c_ONLINE), .val (.int (1 : Int32)), .val (.int (0 : Int32)), .val (.int (0 : Int32)), .val (.int (1 : Int32)), .val (.int (0 : Int32)), .val (.int (0 : Int32))] [(.int (0 : Int32)), (.int (0 : Int32))])
      refine Go.by (fun _ k => XS.icmpNo X13.here hx rfl (hb hby at_128) rfl (XT.ii_ne_f rfl) k) ?_
      show Go _ _ _ _ T13 (mkF m 131 #[.val (.int p0), .val (.int p1), .val (.int x), .val (.int y), .val (.ref c_ONLINE), .val (.int (1 : Int32)), .val (.int (0 : Int32)), .val (.int (0 : Int32)), .val (.int (1 : Int32)), .val (.int (0 : Int32)), .val (.int (0 : Int32))] [])
      refine Go.by (fun _ k => XS.iload X13.here hx rfl (hb hby at_131) rfl k) ?_
      show Go _ _ _ _ T13 (mkF m 133 #[.val (.int p0), .val (.int p1), .val (.int x), .val (.int y), .val (.ref c_ONLINE), .val (.int (1 : Int32)), .val (.int (0 : Int32)), .val (.int (0 : Int32)), .val (.int (1 : Int32)), .val (.int (0 : Int32)), .val (.int (0 : Int32))] [(.int (0 : Int32))])
      refine Go.by (fun _ k => XS.iload X13.here hx rfl (hb hby at_133) rfl k) ?_
      show Go _ _ _ _ T13 (mkF m 135 #[.val (.int p0), .val (.int p1), .val (.int x), .val (.int y), .val (.ref c_ONLINE), .val (.int (1 : Int32)), .val (.int (0 : Int32)), .val (.int (0 : Int32)), .val (.int (1 : Int32)), .val (.int (0 : Int32)), .val (.int (0 : Int32))] [(.int (0 : Int32)), (.int (0 : Int32))])
      refine Go.by (fun _ k => XS.icmpNo X13.here hx rfl (hb hby at_135) rfl (XT.ii_ne_f rfl) k) ?_
      show Go _ _ _ _ T13 (mkF m 138 #[.val (.int p0), .val (.int p1), .val (.int x), .val (.int y), .val (.ref c_ONLINE), .val (.int (1 : Int32)), .val (.int (0 : Int32)), .val (.int (0 : Int32)), .val (.int (1 : Int32)), .val (.int (0 : Int32)), .val (.int (0 : Int32))] [])
      refine Go.by (fun _ k => XT.iconstV X13.here hx rfl (1 : Int32) (hb hby at_138) (by decide) k) ?_
      show Go _ _ _ _ T13 (mkF m 139 #[.val (.int p0), .val (.int p1), .val (.int x), .val (.int y), .val (.ref c_ONLINE), .val (.int (1 : Int32)), .val (.int (0 : Int32)), .val (.int (0 : Int32)), .val (.int (1 : Int32)), .val (.int (0 : Int32)), .val (.int (0 : Int32))] [(.int (1 : Int32))])
      refine Go.by (fun _ k => XS.goto X13.here hx rfl (pc0 := 139) (pc' := 143) rfl (hb hby at_139) (by decide) (by decide) k) ?_
      show Go _ _ _ _ T13 (mkF m 143 #[.val (.int p0), .val (.int p1), .val (.int x), .val (.int y), .val (.ref c_ONLINE), .val (.int (1 : Int32)), .val (.int (0 : Int32)), .val (.int (0 : Int32)), .val (.int (1 : Int32)), .val (.int (0 : Int32)), .val (.int (0 : Int32))] [(.int (1 : Int32))])
      exact Go.retI X13 hx Bd.notSynchronized Bd.returns rfl (by simp) (hb hby at_143) (by rw [e13]; exact ⟨rfl, N1⟩) (by decide) (by decide)
  · by_cases hq : 0 < y
    · have ho : own_of x y c_ONLINE c_AWAY c_OFFLINE = c_AWAY := by simp [own_of, hp, hq]
      rw [ho]
      show Go _ _ _ _ T1 (mkF m 26 #[.val (.int p0), .val (.int p1), .val (.int x), .val (.int y), .val (.ref c_AWAY), .unset, .unset, .unset, .unset, .unset, .unset] [(.ref c_AWAY)])
      have F14 : Sta Z h0 "com/example/muster/muster/model/Status" "ONLINE" "Lcom/example/muster/muster/model/Status;" (.ref c_ONLINE) := S_c_ONLINE.ext O0.2
      obtain ⟨T15, X15, e15, st15⟩ := getS2 X1 hx hZ hown (host := "") (Or.inl (hw _ (List.mem_of_getElem? (i := 7) rfl))) Via.refl e1 F14 (g := (mkF m 26 #[.val (.int p0), .val (.int p1), .val (.int x), .val (.int y), .val (.ref c_AWAY), .unset, .unset, .unset, .unset, .unset, .unset] [(.ref c_AWAY)])) rfl (hb hby at_26)
      refine Go.by st15 ?_
      show Go _ _ _ _ T15 (mkF m 29 #[.val (.int p0), .val (.int p1), .val (.int x), .val (.int y), .val (.ref c_AWAY), .unset, .unset, .unset, .unset, .unset, .unset] [(.ref c_ONLINE), (.ref c_AWAY)])
      refine Go.by (fun _ k => XT.acmpYes X15.here hx rfl (pc0 := 29) (pc' := 36) rfl (hb hby at_29) rfl rfl rfl (XT.aa_ne_t (fun q => (Fld.ne O_c_AWAY O_c_ONLINE (by decide)) (Value.ref.inj q))) (by decide) (by decide) k) ?_
      show Go _ _ _ _ T15 (mkF m 36 #[.val (.int p0), .val (.int p1), .val (.int x), .val (.int y), .val (.ref c_AWAY), .unset, .unset, .unset, .unset, .unset, .unset] [])
      refine Go.by (fun _ k => XT.iconstV X15.here hx rfl (0 : Int32) (hb hby at_36) (by decide) k) ?_
      show Go _ _ _ _ T15 (mkF m 37 #[.val (.int p0), .val (.int p1), .val (.int x), .val (.int y), .val (.ref c_AWAY), .unset, .unset, .unset, .unset, .unset, .unset] [(.int (0 : Int32))])
      refine Go.by (fun _ k => XS.istore X15.here hx rfl (hb hby at_37) rfl (l' := #[.val (.int p0), .val (.int p1), .val (.int x), .val (.int y), .val (.ref c_AWAY), .val (.int (0 : Int32)), .unset, .unset, .unset, .unset, .unset]) rfl k) ?_
      show Go _ _ _ _ T15 (mkF m 39 #[.val (.int p0), .val (.int p1), .val (.int x), .val (.int y), .val (.ref c_AWAY), .val (.int (0 : Int32)), .unset, .unset, .unset, .unset, .unset] [])
      refine Go.by (fun _ k => XS.aload X15.here hx rfl (hb hby at_39) rfl rfl k) ?_
      show Go _ _ _ _ T15 (mkF m 41 #[.val (.int p0), .val (.int p1), .val (.int x), .val (.int y), .val (.ref c_AWAY), .val (.int (0 : Int32)), .unset, .unset, .unset, .unset, .unset] [(.ref c_AWAY)])
      have F16 : Sta Z h0 "com/example/muster/muster/model/Status" "AWAY" "Lcom/example/muster/muster/model/Status;" (.ref c_AWAY) := S_c_AWAY.ext O0.2
      obtain ⟨T17, X17, e17, st17⟩ := getS2 X15 hx hZ hown (host := "") (Or.inl (hw _ (List.mem_of_getElem? (i := 9) rfl))) Via.refl e15 F16 (g := (mkF m 41 #[.val (.int p0), .val (.int p1), .val (.int x), .val (.int y), .val (.ref c_AWAY), .val (.int (0 : Int32)), .unset, .unset, .unset, .unset, .unset] [(.ref c_AWAY)])) rfl (hb hby at_41)
      refine Go.by st17 ?_
      show Go _ _ _ _ T17 (mkF m 44 #[.val (.int p0), .val (.int p1), .val (.int x), .val (.int y), .val (.ref c_AWAY), .val (.int (0 : Int32)), .unset, .unset, .unset, .unset, .unset] [(.ref c_AWAY), (.ref c_AWAY)])
      refine Go.by (fun _ k => XT.acmpNo X17.here hx rfl (hb hby at_44) rfl rfl rfl (XT.aa_ne_f rfl) k) ?_
      show Go _ _ _ _ T17 (mkF m 47 #[.val (.int p0), .val (.int p1), .val (.int x), .val (.int y), .val (.ref c_AWAY), .val (.int (0 : Int32)), .unset, .unset, .unset, .unset, .unset] [])
      refine Go.by (fun _ k => XT.iconstV X17.here hx rfl (1 : Int32) (hb hby at_47) (by decide) k) ?_
      show Go _ _ _ _ T17 (mkF m 48 #[.val (.int p0), .val (.int p1), .val (.int x), .val (.int y), .val (.ref c_AWAY), .val (.int (0 : Int32)), .unset, .unset, .unset, .unset, .unset] [(.int (1 : Int32))])
      refine Go.by (fun _ k => XS.goto X17.here hx rfl (pc0 := 48) (pc' := 52) rfl (hb hby at_48) (by decide) (by decide) k) ?_
      show Go _ _ _ _ T17 (mkF m 52 #[.val (.int p0), .val (.int p1), .val (.int x), .val (.int y), .val (.ref c_AWAY), .val (.int (0 : Int32)), .unset, .unset, .unset, .unset, .unset] [(.int (1 : Int32))])
      refine Go.by (fun _ k => XS.istore X17.here hx rfl (hb hby at_52) rfl (l' := #[.val (.int p0), .val (.int p1), .val (.int x), .val (.int y), .val (.ref c_AWAY), .val (.int (0 : Int32)), .val (.int (1 : Int32)), .unset, .unset, .unset, .unset]) rfl k) ?_
      show Go _ _ _ _ T17 (mkF m 54 #[.val (.int p0), .val (.int p1), .val (.int x), .val (.int y), .val (.ref c_AWAY), .val (.int (0 : Int32)), .val (.int (1 : Int32)), .unset, .unset, .unset, .unset] [])
      refine Go.by (fun _ k => XS.aload X17.here hx rfl (hb hby at_54) rfl rfl k) ?_
      show Go _ _ _ _ T17 (mkF m 56 #[.val (.int p0), .val (.int p1), .val (.int x), .val (.int y), .val (.ref c_AWAY), .val (.int (0 : Int32)), .val (.int (1 : Int32)), .unset, .unset, .unset, .unset] [(.ref c_AWAY)])
      have F18 : Sta Z h0 "com/example/muster/muster/model/Status" "OFFLINE" "Lcom/example/muster/muster/model/Status;" (.ref c_OFFLINE) := S_c_OFFLINE.ext O0.2
      obtain ⟨T19, X19, e19, st19⟩ := getS2 X17 hx hZ hown (host := "") (Or.inl (hw _ (List.mem_of_getElem? (i := 10) rfl))) Via.refl e17 F18 (g := (mkF m 56 #[.val (.int p0), .val (.int p1), .val (.int x), .val (.int y), .val (.ref c_AWAY), .val (.int (0 : Int32)), .val (.int (1 : Int32)), .unset, .unset, .unset, .unset] [(.ref c_AWAY)])) rfl (hb hby at_56)
      refine Go.by st19 ?_
      show Go _ _ _ _ T19 (mkF m 59 #[.val (.int p0), .val (.int p1), .val (.int x), .val (.int y), .val (.ref c_AWAY), .val (.int (0 : Int32)), .val (.int (1 : Int32)), .unset, .unset, .unset, .unset] [(.ref c_OFFLINE), (.ref c_AWAY)])
      refine Go.by (fun _ k => XT.acmpYes X19.here hx rfl (pc0 := 59) (pc' := 66) rfl (hb hby at_59) rfl rfl rfl (XT.aa_ne_t (fun q => (Fld.ne O_c_AWAY O_c_OFFLINE (by decide)) (Value.ref.inj q))) (by decide) (by decide) k) ?_
      show Go _ _ _ _ T19 (mkF m 66 #[.val (.int p0), .val (.int p1), .val (.int x), .val (.int y), .val (.ref c_AWAY), .val (.int (0 : Int32)), .val (.int (1 : Int32)), .unset, .unset, .unset, .unset] [])
      refine Go.by (fun _ k => XT.iconstV X19.here hx rfl (0 : Int32) (hb hby at_66) (by decide) k) ?_
      show Go _ _ _ _ T19 (mkF m 67 #[.val (.int p0), .val (.int p1), .val (.int x), .val (.int y), .val (.ref c_AWAY), .val (.int (0 : Int32)), .val (.int (1 : Int32)), .unset, .unset, .unset, .unset] [(.int (0 : Int32))])
      refine Go.by (fun _ k => XS.istore X19.here hx rfl (hb hby at_67) rfl (l' := #[.val (.int p0), .val (.int p1), .val (.int x), .val (.int y), .val (.ref c_AWAY), .val (.int (0 : Int32)), .val (.int (1 : Int32)), .val (.int (0 : Int32)), .unset, .unset, .unset]) rfl k) ?_
      show Go _ _ _ _ T19 (mkF m 69 #[.val (.int p0), .val (.int p1), .val (.int x), .val (.int y), .val (.ref c_AWAY), .val (.int (0 : Int32)), .val (.int (1 : Int32)), .val (.int (0 : Int32)), .unset, .unset, .unset] [])
      refine Go.by (fun _ k => XS.iloadN X19.here hx rfl (hb hby at_69) rfl k) ?_
      show Go _ _ _ _ T19 (mkF m 70 #[.val (.int p0), .val (.int p1), .val (.int x), .val (.int y), .val (.ref c_AWAY), .val (.int (0 : Int32)), .val (.int (1 : Int32)), .val (.int (0 : Int32)), .unset, .unset, .unset] [(.int x)])
      refine Go.by (fun _ k => XS.ifYes X19.here hx rfl (pc0 := 70) (pc' := 77) rfl (hb hby at_70) rfl (XT.i0_eq_t (own_zero hx0 hp)) (by decide) (by decide) k) ?_
      show Go _ _ _ _ T19 (mkF m 77 #[.val (.int p0), .val (.int p1), .val (.int x), .val (.int y), .val (.ref c_AWAY), .val (.int (0 : Int32)), .val (.int (1 : Int32)), .val (.int (0 : Int32)), .unset, .unset, .unset] [])
      refine Go.by (fun _ k => XT.iconstV X19.here hx rfl (0 : Int32) (hb hby at_77) (by decide) k) ?_
      show Go _ _ _ _ T19 (mkF m 78 #[.val (.int p0), .val (.int p1), .val (.int x), .val (.int y), .val (.ref c_AWAY), .val (.int (0 : Int32)), .val (.int (1 : Int32)), .val (.int (0 : Int32)), .unset, .unset, .unset] [(.int (0 : Int32))])
      refine Go.by (fun _ k => XS.istore X19.here hx rfl (hb hby at_78) rfl (l' := #[.val (.int p0), .val (.int p1), .val (.int x), .val (.int y), .val (.ref c_AWAY), .val (.int (0 : Int32)), .val (.int (1 : Int32)), .val (.int (0 : Int32)), .val (.int (0 : Int32)), .unset, .unset]) rfl k) ?_
      show Go _ _ _ _ T19 (mkF m 80 #[.val (.int p0), .val (.int p1), .val (.int x), .val (.int y), .val (.ref c_AWAY), .val (.int (0 : Int32)), .val (.int (1 : Int32)), .val (.int (0 : Int32)), .val (.int (0 : Int32)), .unset, .unset] [])
      refine Go.by (fun _ k => XS.iloadN X19.here hx rfl (hb hby at_80) rfl k) ?_
      show Go _ _ _ _ T19 (mkF m 81 #[.val (.int p0), .val (.int p1), .val (.int x), .val (.int y), .val (.ref c_AWAY), .val (.int (0 : Int32)), .val (.int (1 : Int32)), .val (.int (0 : Int32)), .val (.int (0 : Int32)), .unset, .unset] [(.int y)])
      refine Go.by (fun _ k => XS.ifNo X19.here hx rfl (hb hby at_81) rfl (XT.i0_eq_f (own_pos hq)) k) ?_
      show Go _ _ _ _ T19 (mkF m 84 #[.val (.int p0), .val (.int p1), .val (.int x), .val (.int y), .val (.ref c_AWAY), .val (.int (0 : Int32)), .val (.int (1 : Int32)), .val (.int (0 : Int32)), .val (.int (0 : Int32)), .unset, .unset] [])
      refine Go.by (fun _ k => XT.iconstV X19.here hx rfl (1 : Int32) (hb hby at_84) (by decide) k) ?_
      show Go _ _ _ _ T19 (mkF m 85 #[.val (.int p0), .val (.int p1), .val (.int x), .val (.int y), .val (.ref c_AWAY), .val (.int (0 : Int32)), .val (.int (1 : Int32)), .val (.int (0 : Int32)), .val (.int (0 : Int32)), .unset, .unset] [(.int (1 : Int32))])
      refine Go.by (fun _ k => XS.goto X19.here hx rfl (pc0 := 85) (pc' := 89) rfl (hb hby at_85) (by decide) (by decide) k) ?_
      show Go _ _ _ _ T19 (mkF m 89 #[.val (.int p0), .val (.int p1), .val (.int x), .val (.int y), .val (.ref c_AWAY), .val (.int (0 : Int32)), .val (.int (1 : Int32)), .val (.int (0 : Int32)), .val (.int (0 : Int32)), .unset, .unset] [(.int (1 : Int32))])
      refine Go.by (fun _ k => XS.istore X19.here hx rfl (hb hby at_89) rfl (l' := #[.val (.int p0), .val (.int p1), .val (.int x), .val (.int y), .val (.ref c_AWAY), .val (.int (0 : Int32)), .val (.int (1 : Int32)), .val (.int (0 : Int32)), .val (.int (0 : Int32)), .val (.int (1 : Int32)), .unset]) rfl k) ?_
      show Go _ _ _ _ T19 (mkF m 91 #[.val (.int p0), .val (.int p1), .val (.int x), .val (.int y), .val (.ref c_AWAY), .val (.int (0 : Int32)), .val (.int (1 : Int32)), .val (.int (0 : Int32)), .val (.int (0 : Int32)), .val (.int (1 : Int32)), .unset] [])
      refine Go.by (fun _ k => XS.iloadN X19.here hx rfl (hb hby at_91) rfl k) ?_
      show Go _ _ _ _ T19 (mkF m 92 #[.val (.int p0), .val (.int p1), .val (.int x), .val (.int y), .val (.ref c_AWAY), .val (.int (0 : Int32)), .val (.int (1 : Int32)), .val (.int (0 : Int32)), .val (.int (0 : Int32)), .val (.int (1 : Int32)), .unset] [(.int x)])
      refine Go.by (fun _ k => XS.iloadN X19.here hx rfl (hb hby at_92) rfl k) ?_
      show Go _ _ _ _ T19 (mkF m 93 #[.val (.int p0), .val (.int p1), .val (.int x), .val (.int y), .val (.ref c_AWAY), .val (.int (0 : Int32)), .val (.int (1 : Int32)), .val (.int (0 : Int32)), .val (.int (0 : Int32)), .val (.int (1 : Int32)), .unset] [(.int y), (.int x)])
      refine Go.by (fun _ k => XT.ior X19.here hx rfl (hb hby at_93) rfl k) ?_
      show Go _ _ _ _ T19 (mkF m 94 #[.val (.int p0), .val (.int p1), .val (.int x), .val (.int y), .val (.ref c_AWAY), .val (.int (0 : Int32)), .val (.int (1 : Int32)), .val (.int (0 : Int32)), .val (.int (0 : Int32)), .val (.int (1 : Int32)), .unset] [(.int (x ||| y))])
      refine Go.by (fun _ k => XS.ifYes X19.here hx rfl (pc0 := 94) (pc' := 101) rfl (hb hby at_94) rfl (XT.i0_ne_t (own_or_pos hx0 hy0 (Or.inr (own_pos hq)))) (by decide) (by decide) k) ?_
      show Go _ _ _ _ T19 (mkF m 101 #[.val (.int p0), .val (.int p1), .val (.int x), .val (.int y), .val (.ref c_AWAY), .val (.int (0 : Int32)), .val (.int (1 : Int32)), .val (.int (0 : Int32)), .val (.int (0 : Int32)), .val (.int (1 : Int32)), .unset] [])
      refine Go.by (fun _ k => XT.iconstV X19.here hx rfl (0 : Int32) (hb hby at_101) (by decide) k) ?_
      show Go _ _ _ _ T19 (mkF m 102 #[.val (.int p0), .val (.int p1), .val (.int x), .val (.int y), .val (.ref c_AWAY), .val (.int (0 : Int32)), .val (.int (1 : Int32)), .val (.int (0 : Int32)), .val (.int (0 : Int32)), .val (.int (1 : Int32)), .unset] [(.int (0 : Int32))])
      refine Go.by (fun _ k => XS.istore X19.here hx rfl (hb hby at_102) rfl (l' := #[.val (.int p0), .val (.int p1), .val (.int x), .val (.int y), .val (.ref c_AWAY), .val (.int (0 : Int32)), .val (.int (1 : Int32)), .val (.int (0 : Int32)), .val (.int (0 : Int32)), .val (.int (1 : Int32)), .val (.int (0 : Int32))]) rfl k) ?_
      show Go _ _ _ _ T19 (mkF m 104 #[.val (.int p0), .val (.int p1), .val (.int x), .val (.int y), .val (.ref c_AWAY), .val (.int (0 : Int32)), .val (.int (1 : Int32)), .val (.int (0 : Int32)), .val (.int (0 : Int32)), .val (.int (1 : Int32)), .val (.int (0 : Int32))] [])
      refine Go.by (fun _ k => XS.iload X19.here hx rfl (hb hby at_104) rfl k) ?_
      show Go _ _ _ _ T19 (mkF m 106 #[.val (.int p0), .val (.int p1), .val (.int x), .val (.int y), .val (.ref c_AWAY), .val (.int (0 : Int32)), .val (.int (1 : Int32)), .val (.int (0 : Int32)), .val (.int (0 : Int32)), .val (.int (1 : Int32)), .val (.int (0 : Int32))] [(.int (0 : Int32))])
      refine Go.by (fun _ k => XS.iload X19.here hx rfl (hb hby at_106) rfl k) ?_
      show Go _ _ _ _ T19 (mkF m 108 #[.val (.int p0), .val (.int p1), .val (.int x), .val (.int y), .val (.ref c_AWAY), .val (.int (0 : Int32)), .val (.int (1 : Int32)), .val (.int (0 : Int32)), .val (.int (0 : Int32)), .val (.int (1 : Int32)), .val (.int (0 : Int32))] [(.int (0 : Int32)), (.int (0 : Int32))])
      refine Go.by (fun _ k => XS.icmpNo X19.here hx rfl (hb hby at_108) rfl (XT.ii_ne_f rfl) k) ?_
      show Go _ _ _ _ T19 (mkF m 111 #[.val (.int p0), .val (.int p1), .val (.int x), .val (.int y), .val (.ref c_AWAY), .val (.int (0 : Int32)), .val (.int (1 : Int32)), .val (.int (0 : Int32)), .val (.int (0 : Int32)), .val (.int (1 : Int32)), .val (.int (0 : Int32))] [])
      refine Go.by (fun _ k => XS.iload X19.here hx rfl (hb hby at_111) rfl k) ?_
      show Go _ _ _ _ T19 (mkF m 113 #[.val (.int p0), .val (.int p1), .val (.int x), .val (.int y), .val (.ref c_AWAY), .val (.int (0 : Int32)), .val (.int (1 : Int32)), .val (.int (0 : Int32)), .val (.int (0 : Int32)), .val (.int (1 : Int32)), .val (.int (0 : Int32))] [(.int (1 : Int32))])
      refine Go.by (fun _ k => XS.iload X19.here hx rfl (hb hby at_113) rfl k) ?_
      show Go _ _ _ _ T19 (mkF m 115 #[.val (.int p0), .val (.int p1), .val (.int x), .val (.int y), .val (.ref c_AWAY), .val (.int (0 : Int32)), .val (.int (1 : Int32)), .val (.int (0 : Int32)), .val (.int (0 : Int32)), .val (.int (1 : Int32)), .val (.int (0 : Int32))] [(.int (0 : Int32)), (.int (1 : Int32))])
      refine Go.by (fun _ k => XS.ifNo X19.here hx rfl (hb hby at_115) rfl (XT.i0_ne_f rfl) k) ?_
      show Go _ _ _ _ T19 (mkF m 118 #[.val (.int p0), .val (.int p1), .val (.int x), .val (.int y), .val (.ref c_AWAY), .val (.int (0 : Int32)), .val (.int (1 : Int32)), .val (.int (0 : Int32)), .val (.int (0 : Int32)), .val (.int (1 : Int32)), .val (.int (0 : Int32))] [(.int (1 : Int32))])
      refine Go.by (fun _ k => XS.iload X19.here hx rfl (hb hby at_118) rfl k) ?_
      show Go _ _ _ _ T19 (mkF m 120 #[.val (.int p0), .val (.int p1), .val (.int x), .val (.int y), .val (.ref c_AWAY), .val (.int (0 : Int32)), .val (.int (1 : Int32)), .val (.int (0 : Int32)), .val (.int (0 : Int32)), .val (.int (1 : Int32)), .val (.int (0 : Int32))] [(.int (1 : Int32)), (.int (1 : Int32))])
      refine Go.by (fun _ k => XS.ifNo X19.here hx rfl (hb hby at_120) rfl (XT.i0_eq_f (by decide)) k) ?_
      show Go _ _ _ _ T19 (mkF m 123 #[.val (.int p0), .val (.int p1), .val (.int x), .val (.int y), .val (.ref c_AWAY), .val (.int (0 : Int32)), .val (.int (1 : Int32)), .val (.int (0 : Int32)), .val (.int (0 : Int32)), .val (.int (1 : Int32)), .val (.int (0 : Int32))] [(.int (1 : Int32))])
      refine Go.by (fun _ k => XT.iconstV X19.here hx rfl (1 : Int32) (hb hby at_123) (by decide) k) ?_
      show Go _ _ _ _ T19 (mkF m 124 #[.val (.int p0), .val (.int p1), .val (.int x), .val (.int y), .val (.ref c_AWAY), .val (.int (0 : Int32)), .val (.int (1 : Int32)), .val (.int (0 : Int32)), .val (.int (0 : Int32)), .val (.int (1 : Int32)), .val (.int (0 : Int32))] [(.int (1 : Int32)), (.int (1 : Int32))])
      refine Go.by (fun _ k => XS.goto X19.here hx rfl (pc0 := 124) (pc' := 128) rfl (hb hby at_124) (by decide) (by decide) k) ?_
      show Go _ _ _ _ T19 (mkF m 128 #[.val (.int p0), .val (.int p1), .val (.int x), .val (.int y), .val (.ref c_AWAY), .val (.int (0 : Int32)), .val (.int (1 : Int32)), .val (.int (0 : Int32)), .val (.int (0 : Int32)), .val (.int (1 : Int32)), .val (.int (0 : Int32))] [(.int (1 : Int32)), (.int (1 : Int32))])
      refine Go.by (fun _ k => XS.icmpNo X19.here hx rfl (hb hby at_128) rfl (XT.ii_ne_f rfl) k) ?_
      show Go _ _ _ _ T19 (mkF m 131 #[.val (.int p0), .val (.int p1), .val (.int x), .val (.int y), .val (.ref c_AWAY), .val (.int (0 : Int32)), .val (.int (1 : Int32)), .val (.int (0 : Int32)), .val (.int (0 : Int32)), .val (.int (1 : Int32)), .val (.int (0 : Int32))] [])
      refine Go.by (fun _ k => XS.iload X19.here hx rfl (hb hby at_131) rfl k) ?_
      show Go _ _ _ _ T19 (mkF m 133 #[.val (.int p0), .val (.int p1), .val (.int x), .val (.int y), .val (.ref c_AWAY), .val (.int (0 : Int32)), .val (.int (1 : Int32)), .val (.int (0 : Int32)), .val (.int (0 : Int32)), .val (.int (1 : Int32)), .val (.int (0 : Int32))] [(.int (0 : Int32))])
      refine Go.by (fun _ k => XS.iload X19.here hx rfl (hb hby at_133) rfl k) ?_
      show Go _ _ _ _ T19 (mkF m 135 #[.val (.int p0), .val (.int p1), .val (.int x), .val (.int y), .val (.ref c_AWAY), .val (.int (0 : Int32)), .val (.int (1 : Int32)), .val (.int (0 : Int32)), .val (.int (0 : Int32)), .val (.int (1 : Int32)), .val (.int (0 : Int32))] [(.int (0 : Int32)), (.int (0 : Int32))])
      refine Go.by (fun _ k => XS.icmpNo X19.here hx rfl (hb hby at_135) rfl (XT.ii_ne_f rfl) k) ?_
      show Go _ _ _ _ T19 (mkF m 138 #[.val (.int p0), .val (.int p1), .val (.int x), .val (.int y), .val (.ref c_AWAY), .val (.int (0 : Int32)), .val (.int (1 : Int32)), .val (.int (0 : Int32)), .val (.int (0 : Int32)), .val (.int (1 : Int32)), .val (.int (0 : Int32))] [])
      refine Go.by (fun _ k => XT.iconstV X19.here hx rfl (1 : Int32) (hb hby at_138) (by decide) k) ?_
      show Go _ _ _ _ T19 (mkF m 139 #[.val (.int p0), .val (.int p1), .val (.int x), .val (.int y), .val (.ref c_AWAY), .val (.int (0 : Int32)), .val (.int (1 : Int32)), .val (.int (0 : Int32)), .val (.int (0 : Int32)), .val (.int (1 : Int32)), .val (.int (0 : Int32))] [(.int (1 : Int32))])
      refine Go.by (fun _ k => XS.goto X19.here hx rfl (pc0 := 139) (pc' := 143) rfl (hb hby at_139) (by decide) (by decide) k) ?_
      show Go _ _ _ _ T19 (mkF m 143 #[.val (.int p0), .val (.int p1), .val (.int x), .val (.int y), .val (.ref c_AWAY), .val (.int (0 : Int32)), .val (.int (1 : Int32)), .val (.int (0 : Int32)), .val (.int (0 : Int32)), .val (.int (1 : Int32)), .val (.int (0 : Int32))] [(.int (1 : Int32))])
      exact Go.retI X19 hx Bd.notSynchronized Bd.returns rfl (by simp) (hb hby at_143) (by rw [e19]; exact ⟨rfl, N1⟩) (by decide) (by decide)
    · have ho : own_of x y c_ONLINE c_AWAY c_OFFLINE = c_OFFLINE := by simp [own_of, hp, hq]
      rw [ho]
      show Go _ _ _ _ T1 (mkF m 26 #[.val (.int p0), .val (.int p1), .val (.int x), .val (.int y), .val (.ref c_OFFLINE), .unset, .unset, .unset, .unset, .unset, .unset] [(.ref c_OFFLINE)])
      have F20 : Sta Z h0 "com/example/muster/muster/model/Status" "ONLINE" "Lcom/example/muster/muster/model/Status;" (.ref c_ONLINE) := S_c_ONLINE.ext O0.2
      obtain ⟨T21, X21, e21, st21⟩ := getS2 X1 hx hZ hown (host := "") (Or.inl (hw _ (List.mem_of_getElem? (i := 7) rfl))) Via.refl e1 F20 (g := (mkF m 26 #[.val (.int p0), .val (.int p1), .val (.int x), .val (.int y), .val (.ref c_OFFLINE), .unset, .unset, .unset, .unset, .unset, .unset] [(.ref c_OFFLINE)])) rfl (hb hby at_26)
      refine Go.by st21 ?_
      show Go _ _ _ _ T21 (mkF m 29 #[.val (.int p0), .val (.int p1), .val (.int x), .val (.int y), .val (.ref c_OFFLINE), .unset, .unset, .unset, .unset, .unset, .unset] [(.ref c_ONLINE), (.ref c_OFFLINE)])
      refine Go.by (fun _ k => XT.acmpYes X21.here hx rfl (pc0 := 29) (pc' := 36) rfl (hb hby at_29) rfl rfl rfl (XT.aa_ne_t (fun q => (Fld.ne O_c_OFFLINE O_c_ONLINE (by decide)) (Value.ref.inj q))) (by decide) (by decide) k) ?_
      show Go _ _ _ _ T21 (mkF m 36 #[.val (.int p0), .val (.int p1), .val (.int x), .val (.int y), .val (.ref c_OFFLINE), .unset, .unset, .unset, .unset, .unset, .unset] [])
      refine Go.by (fun _ k => XT.iconstV X21.here hx rfl (0 : Int32) (hb hby at_36) (by decide) k) ?_
      show Go _ _ _ _ T21 (mkF m 37 #[.val (.int p0), .val (.int p1), .val (.int x), .val (.int y), .val (.ref c_OFFLINE), .unset, .unset, .unset, .unset, .unset, .unset] [(.int (0 : Int32))])
      refine Go.by (fun _ k => XS.istore X21.here hx rfl (hb hby at_37) rfl (l' := #[.val (.int p0), .val (.int p1), .val (.int x), .val (.int y), .val (.ref c_OFFLINE), .val (.int (0 : Int32)), .unset, .unset, .unset, .unset, .unset]) rfl k) ?_
      show Go _ _ _ _ T21 (mkF m 39 #[.val (.int p0), .val (.int p1), .val (.int x), .val (.int y), .val (.ref c_OFFLINE), .val (.int (0 : Int32)), .unset, .unset, .unset, .unset, .unset] [])
      refine Go.by (fun _ k => XS.aload X21.here hx rfl (hb hby at_39) rfl rfl k) ?_
      show Go _ _ _ _ T21 (mkF m 41 #[.val (.int p0), .val (.int p1), .val (.int x), .val (.int y), .val (.ref c_OFFLINE), .val (.int (0 : Int32)), .unset, .unset, .unset, .unset, .unset] [(.ref c_OFFLINE)])
      have F22 : Sta Z h0 "com/example/muster/muster/model/Status" "AWAY" "Lcom/example/muster/muster/model/Status;" (.ref c_AWAY) := S_c_AWAY.ext O0.2
      obtain ⟨T23, X23, e23, st23⟩ := getS2 X21 hx hZ hown (host := "") (Or.inl (hw _ (List.mem_of_getElem? (i := 9) rfl))) Via.refl e21 F22 (g := (mkF m 41 #[.val (.int p0), .val (.int p1), .val (.int x), .val (.int y), .val (.ref c_OFFLINE), .val (.int (0 : Int32)), .unset, .unset, .unset, .unset, .unset] [(.ref c_OFFLINE)])) rfl (hb hby at_41)
      refine Go.by st23 ?_
      show Go _ _ _ _ T23 (mkF m 44 #[.val (.int p0), .val (.int p1), .val (.int x), .val (.int y), .val (.ref c_OFFLINE), .val (.int (0 : Int32)), .unset, .unset, .unset, .unset, .unset] [(.ref c_AWAY), (.ref c_OFFLINE)])
      refine Go.by (fun _ k => XT.acmpYes X23.here hx rfl (pc0 := 44) (pc' := 51) rfl (hb hby at_44) rfl rfl rfl (XT.aa_ne_t (fun q => (Fld.ne O_c_OFFLINE O_c_AWAY (by decide)) (Value.ref.inj q))) (by decide) (by decide) k) ?_
      show Go _ _ _ _ T23 (mkF m 51 #[.val (.int p0), .val (.int p1), .val (.int x), .val (.int y), .val (.ref c_OFFLINE), .val (.int (0 : Int32)), .unset, .unset, .unset, .unset, .unset] [])
      refine Go.by (fun _ k => XT.iconstV X23.here hx rfl (0 : Int32) (hb hby at_51) (by decide) k) ?_
      show Go _ _ _ _ T23 (mkF m 52 #[.val (.int p0), .val (.int p1), .val (.int x), .val (.int y), .val (.ref c_OFFLINE), .val (.int (0 : Int32)), .unset, .unset, .unset, .unset, .unset] [(.int (0 : Int32))])
      refine Go.by (fun _ k => XS.istore X23.here hx rfl (hb hby at_52) rfl (l' := #[.val (.int p0), .val (.int p1), .val (.int x), .val (.int y), .val (.ref c_OFFLINE), .val (.int (0 : Int32)), .val (.int (0 : Int32)), .unset, .unset, .unset, .unset]) rfl k) ?_
      show Go _ _ _ _ T23 (mkF m 54 #[.val (.int p0), .val (.int p1), .val (.int x), .val (.int y), .val (.ref c_OFFLINE), .val (.int (0 : Int32)), .val (.int (0 : Int32)), .unset, .unset, .unset, .unset] [])
      refine Go.by (fun _ k => XS.aload X23.here hx rfl (hb hby at_54) rfl rfl k) ?_
      show Go _ _ _ _ T23 (mkF m 56 #[.val (.int p0), .val (.int p1), .val (.int x), .val (.int y), .val (.ref c_OFFLINE), .val (.int (0 : Int32)), .val (.int (0 : Int32)), .unset, .unset, .unset, .unset] [(.ref c_OFFLINE)])
      have F24 : Sta Z h0 "com/example/muster/muster/model/Status" "OFFLINE" "Lcom/example/muster/muster/model/Status;" (.ref c_OFFLINE) := S_c_OFFLINE.ext O0.2
      obtain ⟨T25, X25, e25, st25⟩ := getS2 X23 hx hZ hown (host := "") (Or.inl (hw _ (List.mem_of_getElem? (i := 10) rfl))) Via.refl e23 F24 (g := (mkF m 56 #[.val (.int p0), .val (.int p1), .val (.int x), .val (.int y), .val (.ref c_OFFLINE), .val (.int (0 : Int32)), .val (.int (0 : Int32)), .unset, .unset, .unset, .unset] [(.ref c_OFFLINE)])) rfl (hb hby at_56)
      refine Go.by st25 ?_
      show Go _ _ _ _ T25 (mkF m 59 #[.val (.int p0), .val (.int p1), .val (.int x), .val (.int y), .val (.ref c_OFFLINE), .val (.int (0 : Int32)), .val (.int (0 : Int32)), .unset, .unset, .unset, .unset] [(.ref c_OFFLINE), (.ref c_OFFLINE)])
      refine Go.by (fun _ k => XT.acmpNo X25.here hx rfl (hb hby at_59) rfl rfl rfl (XT.aa_ne_f rfl) k) ?_
      show Go _ _ _ _ T25 (mkF m 62 #[.val (.int p0), .val (.int p1), .val (.int x), .val (.int y), .val (.ref c_OFFLINE), .val (.int (0 : Int32)), .val (.int (0 : Int32)), .unset, .unset, .unset, .unset] [])
      refine Go.by (fun _ k => XT.iconstV X25.here hx rfl (1 : Int32) (hb hby at_62) (by decide) k) ?_
      show Go _ _ _ _ T25 (mkF m 63 #[.val (.int p0), .val (.int p1), .val (.int x), .val (.int y), .val (.ref c_OFFLINE), .val (.int (0 : Int32)), .val (.int (0 : Int32)), .unset, .unset, .unset, .unset] [(.int (1 : Int32))])
      refine Go.by (fun _ k => XS.goto X25.here hx rfl (pc0 := 63) (pc' := 67) rfl (hb hby at_63) (by decide) (by decide) k) ?_
      show Go _ _ _ _ T25 (mkF m 67 #[.val (.int p0), .val (.int p1), .val (.int x), .val (.int y), .val (.ref c_OFFLINE), .val (.int (0 : Int32)), .val (.int (0 : Int32)), .unset, .unset, .unset, .unset] [(.int (1 : Int32))])
      refine Go.by (fun _ k => XS.istore X25.here hx rfl (hb hby at_67) rfl (l' := #[.val (.int p0), .val (.int p1), .val (.int x), .val (.int y), .val (.ref c_OFFLINE), .val (.int (0 : Int32)), .val (.int (0 : Int32)), .val (.int (1 : Int32)), .unset, .unset, .unset]) rfl k) ?_
      show Go _ _ _ _ T25 (mkF m 69 #[.val (.int p0), .val (.int p1), .val (.int x), .val (.int y), .val (.ref c_OFFLINE), .val (.int (0 : Int32)), .val (.int (0 : Int32)), .val (.int (1 : Int32)), .unset, .unset, .unset] [])
      refine Go.by (fun _ k => XS.iloadN X25.here hx rfl (hb hby at_69) rfl k) ?_
      show Go _ _ _ _ T25 (mkF m 70 #[.val (.int p0), .val (.int p1), .val (.int x), .val (.int y), .val (.ref c_OFFLINE), .val (.int (0 : Int32)), .val (.int (0 : Int32)), .val (.int (1 : Int32)), .unset, .unset, .unset] [(.int x)])
      refine Go.by (fun _ k => XS.ifYes X25.here hx rfl (pc0 := 70) (pc' := 77) rfl (hb hby at_70) rfl (XT.i0_eq_t (own_zero hx0 hp)) (by decide) (by decide) k) ?_
      show Go _ _ _ _ T25 (mkF m 77 #[.val (.int p0), .val (.int p1), .val (.int x), .val (.int y), .val (.ref c_OFFLINE), .val (.int (0 : Int32)), .val (.int (0 : Int32)), .val (.int (1 : Int32)), .unset, .unset, .unset] [])
      refine Go.by (fun _ k => XT.iconstV X25.here hx rfl (0 : Int32) (hb hby at_77) (by decide) k) ?_
      show Go _ _ _ _ T25 (mkF m 78 #[.val (.int p0), .val (.int p1), .val (.int x), .val (.int y), .val (.ref c_OFFLINE), .val (.int (0 : Int32)), .val (.int (0 : Int32)), .val (.int (1 : Int32)), .unset, .unset, .unset] [(.int (0 : Int32))])
      refine Go.by (fun _ k => XS.istore X25.here hx rfl (hb hby at_78) rfl (l' := #[.val (.int p0), .val (.int p1), .val (.int x), .val (.int y), .val (.ref c_OFFLINE), .val (.int (0 : Int32)), .val (.int (0 : Int32)), .val (.int (1 : Int32)), .val (.int (0 : Int32)), .unset, .unset]) rfl k) ?_
      show Go _ _ _ _ T25 (mkF m 80 #[.val (.int p0), .val (.int p1), .val (.int x), .val (.int y), .val (.ref c_OFFLINE), .val (.int (0 : Int32)), .val (.int (0 : Int32)), .val (.int (1 : Int32)), .val (.int (0 : Int32)), .unset, .unset] [])
      refine Go.by (fun _ k => XS.iloadN X25.here hx rfl (hb hby at_80) rfl k) ?_
      show Go _ _ _ _ T25 (mkF m 81 #[.val (.int p0), .val (.int p1), .val (.int x), .val (.int y), .val (.ref c_OFFLINE), .val (.int (0 : Int32)), .val (.int (0 : Int32)), .val (.int (1 : Int32)), .val (.int (0 : Int32)), .unset, .unset] [(.int y)])
      refine Go.by (fun _ k => XS.ifYes X25.here hx rfl (pc0 := 81) (pc' := 88) rfl (hb hby at_81) rfl (XT.i0_eq_t (own_zero hy0 hq)) (by decide) (by decide) k) ?_
      show Go _ _ _ _ T25 (mkF m 88 #[.val (.int p0), .val (.int p1), .val (.int x), .val (.int y), .val (.ref c_OFFLINE), .val (.int (0 : Int32)), .val (.int (0 : Int32)), .val (.int (1 : Int32)), .val (.int (0 : Int32)), .unset, .unset] [])
      refine Go.by (fun _ k => XT.iconstV X25.here hx rfl (0 : Int32) (hb hby at_88) (by decide) k) ?_
      show Go _ _ _ _ T25 (mkF m 89 #[.val (.int p0), .val (.int p1), .val (.int x), .val (.int y), .val (.ref c_OFFLINE), .val (.int (0 : Int32)), .val (.int (0 : Int32)), .val (.int (1 : Int32)), .val (.int (0 : Int32)), .unset, .unset] [(.int (0 : Int32))])
      refine Go.by (fun _ k => XS.istore X25.here hx rfl (hb hby at_89) rfl (l' := #[.val (.int p0), .val (.int p1), .val (.int x), .val (.int y), .val (.ref c_OFFLINE), .val (.int (0 : Int32)), .val (.int (0 : Int32)), .val (.int (1 : Int32)), .val (.int (0 : Int32)), .val (.int (0 : Int32)), .unset]) rfl k) ?_
      show Go _ _ _ _ T25 (mkF m 91 #[.val (.int p0), .val (.int p1), .val (.int x), .val (.int y), .val (.ref c_OFFLINE), .val (.int (0 : Int32)), .val (.int (0 : Int32)), .val (.int (1 : Int32)), .val (.int (0 : Int32)), .val (.int (0 : Int32)), .unset] [])
      refine Go.by (fun _ k => XS.iloadN X25.here hx rfl (hb hby at_91) rfl k) ?_
      show Go _ _ _ _ T25 (mkF m 92 #[.val (.int p0), .val (.int p1), .val (.int x), .val (.int y), .val (.ref c_OFFLINE), .val (.int (0 : Int32)), .val (.int (0 : Int32)), .val (.int (1 : Int32)), .val (.int (0 : Int32)), .val (.int (0 : Int32)), .unset] [(.int x)])
      refine Go.by (fun _ k => XS.iloadN X25.here hx rfl (hb hby at_92) rfl k) ?_
      show Go _ _ _ _ T25 (mkF m 93 #[.val (.int p0), .val (.int p1), .val (.int x), .val (.int y), .val (.ref c_OFFLINE), .val (.int (0 : Int32)), .val (.int (0 : Int32)), .val (.int (1 : Int32)), .val (.int (0 : Int32)), .val (.int (0 : Int32)), .unset] [(.int y), (.int x)])
      refine Go.by (fun _ k => XT.ior X25.here hx rfl (hb hby at_93) rfl k) ?_
      show Go _ _ _ _ T25 (mkF m 94 #[.val (.int p0), .val (.int p1), .val (.int x), .val (.int y), .val (.ref c_OFFLINE), .val (.int (0 : Int32)), .val (.int (0 : Int32)), .val (.int (1 : Int32)), .val (.int (0 : Int32)), .val (.int (0 : Int32)), .unset] [(.int (x ||| y))])
      refine Go.by (fun _ k => XS.ifNo X25.here hx rfl (hb hby at_94) rfl (XT.i0_ne_f (by rw [own_zero hx0 hp, own_zero hy0 hq]; rfl)) k) ?_
      show Go _ _ _ _ T25 (mkF m 97 #[.val (.int p0), .val (.int p1), .val (.int x), .val (.int y), .val (.ref c_OFFLINE), .val (.int (0 : Int32)), .val (.int (0 : Int32)), .val (.int (1 : Int32)), .val (.int (0 : Int32)), .val (.int (0 : Int32)), .unset] [])
      refine Go.by (fun _ k => XT.iconstV X25.here hx rfl (1 : Int32) (hb hby at_97) (by decide) k) ?_
      show Go _ _ _ _ T25 (mkF m 98 #[.val (.int p0), .val (.int p1), .val (.int x), .val (.int y), .val (.ref c_OFFLINE), .val (.int (0 : Int32)), .val (.int (0 : Int32)), .val (.int (1 : Int32)), .val (.int (0 : Int32)), .val (.int (0 : Int32)), .unset] [(.int (1 : Int32))])
      refine Go.by (fun _ k => XS.goto X25.here hx rfl (pc0 := 98) (pc' := 102) rfl (hb hby at_98) (by decide) (by decide) k) ?_
      show Go _ _ _ _ T25 (mkF m 102 #[.val (.int p0), .val (.int p1), .val (.int x), .val (.int y), .val (.ref c_OFFLINE), .val (.int (0 : Int32)), .val (.int (0 : Int32)), .val (.int (1 : Int32)), .val (.int (0 : Int32)), .val (.int (0 : Int32)), .unset] [(.int (1 : Int32))])
      refine Go.by (fun _ k => XS.istore X25.here hx rfl (hb hby at_102) rfl (l' := #[.val (.int p0), .val (.int p1), .val (.int x), .val (.int y), .val (.ref c_OFFLINE), .val (.int (0 : Int32)), .val (.int (0 : Int32)), .val (.int (1 : Int32)), .val (.int (0 : Int32)), .val (.int (0 : Int32)), .val (.int (1 : Int32))]) rfl k) ?_
      show Go _ _ _ _ T25 (mkF m 104 #[.val (.int p0), .val (.int p1), .val (.int x), .val (.int y), .val (.ref c_OFFLINE), .val (.int (0 : Int32)), .val (.int (0 : Int32)), .val (.int (1 : Int32)), .val (.int (0 : Int32)), .val (.int (0 : Int32)), .val (.int (1 : Int32))] [])
      refine Go.by (fun _ k => XS.iload X25.here hx rfl (hb hby at_104) rfl k) ?_
      show Go _ _ _ _ T25 (mkF m 106 #[.val (.int p0), .val (.int p1), .val (.int x), .val (.int y), .val (.ref c_OFFLINE), .val (.int (0 : Int32)), .val (.int (0 : Int32)), .val (.int (1 : Int32)), .val (.int (0 : Int32)), .val (.int (0 : Int32)), .val (.int (1 : Int32))] [(.int (0 : Int32))])
      refine Go.by (fun _ k => XS.iload X25.here hx rfl (hb hby at_106) rfl k) ?_
      show Go _ _ _ _ T25 (mkF m 108 #[.val (.int p0), .val (.int p1), .val (.int x), .val (.int y), .val (.ref c_OFFLINE), .val (.int (0 : Int32)), .val (.int (0 : Int32)), .val (.int (1 : Int32)), .val (.int (0 : Int32)), .val (.int (0 : Int32)), .val (.int (1 : Int32))] [(.int (0 : Int32)), (.int (0 : Int32))])
      refine Go.by (fun _ k => XS.icmpNo X25.here hx rfl (hb hby at_108) rfl (XT.ii_ne_f rfl) k) ?_
      show Go _ _ _ _ T25 (mkF m 111 #[.val (.int p0), .val (.int p1), .val (.int x), .val (.int y), .val (.ref c_OFFLINE), .val (.int (0 : Int32)), .val (.int (0 : Int32)), .val (.int (1 : Int32)), .val (.int (0 : Int32)), .val (.int (0 : Int32)), .val (.int (1 : Int32))] [])
      refine Go.by (fun _ k => XS.iload X25.here hx rfl (hb hby at_111) rfl k) ?_
      show Go _ _ _ _ T25 (mkF m 113 #[.val (.int p0), .val (.int p1), .val (.int x), .val (.int y), .val (.ref c_OFFLINE), .val (.int (0 : Int32)), .val (.int (0 : Int32)), .val (.int (1 : Int32)), .val (.int (0 : Int32)), .val (.int (0 : Int32)), .val (.int (1 : Int32))] [(.int (0 : Int32))])
      refine Go.by (fun _ k => XS.iload X25.here hx rfl (hb hby at_113) rfl k) ?_
      show Go _ _ _ _ T25 (mkF m 115 #[.val (.int p0), .val (.int p1), .val (.int x), .val (.int y), .val (.ref c_OFFLINE), .val (.int (0 : Int32)), .val (.int (0 : Int32)), .val (.int (1 : Int32)), .val (.int (0 : Int32)), .val (.int (0 : Int32)), .val (.int (1 : Int32))] [(.int (0 : Int32)), (.int (0 : Int32))])
      refine Go.by (fun _ k => XS.ifNo X25.here hx rfl (hb hby at_115) rfl (XT.i0_ne_f rfl) k) ?_
      show Go _ _ _ _ T25 (mkF m 118 #[.val (.int p0), .val (.int p1), .val (.int x), .val (.int y), .val (.ref c_OFFLINE), .val (.int (0 : Int32)), .val (.int (0 : Int32)), .val (.int (1 : Int32)), .val (.int (0 : Int32)), .val (.int (0 : Int32)), .val (.int (1 : Int32))] [(.int (0 : Int32))])
      refine Go.by (fun _ k => XS.iload X25.here hx rfl (hb hby at_118) rfl k) ?_
      show Go _ _ _ _ T25 (mkF m 120 #[.val (.int p0), .val (.int p1), .val (.int x), .val (.int y), .val (.ref c_OFFLINE), .val (.int (0 : Int32)), .val (.int (0 : Int32)), .val (.int (1 : Int32)), .val (.int (0 : Int32)), .val (.int (0 : Int32)), .val (.int (1 : Int32))] [(.int (0 : Int32)), (.int (0 : Int32))])
      refine Go.by (fun _ k => XS.ifYes X25.here hx rfl (pc0 := 120) (pc' := 127) rfl (hb hby at_120) rfl (XT.i0_eq_t rfl) (by decide) (by decide) k) ?_
      show Go _ _ _ _ T25 (mkF m 127 #[.val (.int p0), .val (.int p1), .val (.int x), .val (.int y), .val (.ref c_OFFLINE), .val (.int (0 : Int32)), .val (.int (0 : Int32)), .val (.int (1 : Int32)), .val (.int (0 : Int32)), .val (.int (0 : Int32)), .val (.int (1 : Int32))] [(.int (0 : Int32))])
      refine Go.by (fun _ k => XT.iconstV X25.here hx rfl (0 : Int32) (hb hby at_127) (by decide) k) ?_
      show Go _ _ _ _ T25 (mkF m 128 #[.val (.int p0), .val (.int p1), .val (.int x), .val (.int y), .val (.ref c_OFFLINE), .val (.int (0 : Int32)), .val (.int (0 : Int32)), .val (.int (1 : Int32)), .val (.int (0 : Int32)), .val (.int (0 : Int32)), .val (.int (1 : Int32))] [(.int (0 : Int32)), (.int (0 : Int32))])
      refine Go.by (fun _ k => XS.icmpNo X25.here hx rfl (hb hby at_128) rfl (XT.ii_ne_f rfl) k) ?_
      show Go _ _ _ _ T25 (mkF m 131 #[.val (.int p0), .val (.int p1), .val (.int x), .val (.int y), .val (.ref c_OFFLINE), .val (.int (0 : Int32)), .val (.int (0 : Int32)), .val (.int (1 : Int32)), .val (.int (0 : Int32)), .val (.int (0 : Int32)), .val (.int (1 : Int32))] [])
      refine Go.by (fun _ k => XS.iload X25.here hx rfl (hb hby at_131) rfl k) ?_
      show Go _ _ _ _ T25 (mkF m 133 #[.val (.int p0), .val (.int p1), .val (.int x), .val (.int y), .val (.ref c_OFFLINE), .val (.int (0 : Int32)), .val (.int (0 : Int32)), .val (.int (1 : Int32)), .val (.int (0 : Int32)), .val (.int (0 : Int32)), .val (.int (1 : Int32))] [(.int (1 : Int32))])
      refine Go.by (fun _ k => XS.iload X25.here hx rfl (hb hby at_133) rfl k) ?_
      show Go _ _ _ _ T25 (mkF m 135 #[.val (.int p0), .val (.int p1), .val (.int x), .val (.int y), .val (.ref c_OFFLINE), .val (.int (0 : Int32)), .val (.int (0 : Int32)), .val (.int (1 : Int32)), .val (.int (0 : Int32)), .val (.int (0 : Int32)), .val (.int (1 : Int32))] [(.int (1 : Int32)), (.int (1 : Int32))])
      refine Go.by (fun _ k => XS.icmpNo X25.here hx rfl (hb hby at_135) rfl (XT.ii_ne_f rfl) k) ?_
      show Go _ _ _ _ T25 (mkF m 138 #[.val (.int p0), .val (.int p1), .val (.int x), .val (.int y), .val (.ref c_OFFLINE), .val (.int (0 : Int32)), .val (.int (0 : Int32)), .val (.int (1 : Int32)), .val (.int (0 : Int32)), .val (.int (0 : Int32)), .val (.int (1 : Int32))] [])
      refine Go.by (fun _ k => XT.iconstV X25.here hx rfl (1 : Int32) (hb hby at_138) (by decide) k) ?_
      show Go _ _ _ _ T25 (mkF m 139 #[.val (.int p0), .val (.int p1), .val (.int x), .val (.int y), .val (.ref c_OFFLINE), .val (.int (0 : Int32)), .val (.int (0 : Int32)), .val (.int (1 : Int32)), .val (.int (0 : Int32)), .val (.int (0 : Int32)), .val (.int (1 : Int32))] [(.int (1 : Int32))])
      refine Go.by (fun _ k => XS.goto X25.here hx rfl (pc0 := 139) (pc' := 143) rfl (hb hby at_139) (by decide) (by decide) k) ?_
      show Go _ _ _ _ T25 (mkF m 143 #[.val (.int p0), .val (.int p1), .val (.int x), .val (.int y), .val (.ref c_OFFLINE), .val (.int (0 : Int32)), .val (.int (0 : Int32)), .val (.int (1 : Int32)), .val (.int (0 : Int32)), .val (.int (0 : Int32)), .val (.int (1 : Int32))] [(.int (1 : Int32))])
      exact Go.retI X25 hx Bd.notSynchronized Bd.returns rfl (by simp) (hb hby at_143) (by rw [e25]; exact ⟨rfl, N1⟩) (by decide) (by decide)
set_option maxRecDepth 65536 in
set_option maxHeartbeats 40000000 in
theorem comes_1 {Post : Tables → Env → Array Value → State → Outcome → State → Prop} (hpost : ∀ tb e args s v u, (limb_1_1.after args s (.returned v) u = true ∧ limb_1_2.after args s (.returned v) u = true ∧ True) → FrameEnd s (.returned v) u (Jvm.fieldLocs frame_1_writes args s ++ Jvm.arrayLocs frame_1_arrays args s ++ Jvm.staticLocs frame_1_statics s) 0 0 → Post tb e args s (.returned v) u) :
    ArmFor flags0 classFile x code maxLocals ret World_1 tables_1 room_1 Calls_1 rest_1 Pre_1 Post := by
  intro l hfl _ _ p e ha hc hk s m args below hf hA hF happ hP
  obtain ⟨hcalls, hrest, hpre⟩ := hP
  obtain ⟨-, -, -, hnamed, -, -, -, hat⟩ := (Spec.applies_iff hf).mp happ
  obtain ⟨hg, hn⟩ := and_e (Cond.before_iff.mp (show (Jvm.Cond.and given_1 narrow_1).before args s = true from hpre))
  obtain ⟨hcount, hg0⟩ := and_e hg
  obtain ⟨ha0, hg1⟩ := and_e hg0
  have ha1 := hg1
  obtain ⟨w0, w1, rfl⟩ : ∃ w0 w1 : Value, args = #[w0, w1] := by
    have hs : args.size = 2 := by simpa [Cond.value, given_1] using hcount
    obtain ⟨L⟩ := args
    match L, hs with
    | [w0, w1], _ => exact ⟨w0, w1, rfl⟩
  have hw := fun d (hd : d ∈ tables_1) => atoms_spec (ws := Jvm.Cond.code x code maxLocals ret :: tables_1) hat d (List.mem_cons_of_mem _ hd)
  have hfit : Fit s := fun {y c} hc i hi => by
    obtain ⟨ha, rfl⟩ := Array.getElem?_eq_some_iff.mp hc
    have q := List.all_eq_true.mp ((Array.all_eq_true_iff_forall_mem.mp hF) _ (Array.getElem_mem ha)) i (List.mem_range.mpr hi)
    simpa [Array.getElem?_eq_getElem hi] using q
  obtain ⟨i0, ei0⟩ := is_v ha0
  obtain rfl : w0 = (.int i0) := Option.some.inj ei0
  obtain ⟨i1, ei1⟩ := is_v ha1
  obtain rfl : w1 = (.int i1) := Option.some.inj ei1
  have hnr0 := hn
  obtain ⟨nr0, hnr1⟩ := and_e hnr0
  obtain ⟨nr1, hnr2⟩ := and_e hnr1
  obtain ⟨nr2, hnr3⟩ := and_e hnr2
  obtain ⟨nr3, hnr4⟩ := and_e hnr3
  obtain ⟨nr4, hnr5⟩ := and_e hnr4
  have nr5 := hnr5
  obtain ⟨c_ONLINE, ev_c_ONLINE⟩ := exa_v nr1
  have S_c_ONLINE : Sta s s.heap "com/example/muster/muster/model/Status" "ONLINE" "Lcom/example/muster/muster/model/Status;" (.ref c_ONLINE) := Sta.start ev_c_ONLINE (Or.inr ⟨(hw _ (List.mem_of_getElem? (i := 3) rfl)), (hw _ (List.mem_of_getElem? (i := 8) rfl))⟩)
  have E_c_ONLINE := Exa.start ev_c_ONLINE nr1
  have O_c_ONLINE := Fld.start (own_ord nr3 ev_c_ONLINE)
  obtain ⟨c_AWAY, ev_c_AWAY⟩ := exa_v nr0
  have S_c_AWAY : Sta s s.heap "com/example/muster/muster/model/Status" "AWAY" "Lcom/example/muster/muster/model/Status;" (.ref c_AWAY) := Sta.start ev_c_AWAY (Or.inr ⟨(hw _ (List.mem_of_getElem? (i := 3) rfl)), (hw _ (List.mem_of_getElem? (i := 6) rfl))⟩)
  have E_c_AWAY := Exa.start ev_c_AWAY nr0
  have O_c_AWAY := Fld.start (own_ord nr2 ev_c_AWAY)
  obtain ⟨c_OFFLINE, ev_c_OFFLINE⟩ := exa_v nr4
  have S_c_OFFLINE : Sta s s.heap "com/example/muster/muster/model/Status" "OFFLINE" "Lcom/example/muster/muster/model/Status;" (.ref c_OFFLINE) := Sta.start ev_c_OFFLINE (Or.inr ⟨(hw _ (List.mem_of_getElem? (i := 3) rfl)), (hw _ (List.mem_of_getElem? (i := 11) rfl))⟩)
  have E_c_OFFLINE := Exa.start ev_c_OFFLINE nr4
  have O_c_OFFLINE := Fld.start (own_ord nr5 ev_c_OFFLINE)
  obtain ⟨n, o, h1, h2, h3, _, L, rfl, ⟨rfl, N⟩, hq⟩ := rm0 l s _ hw tables_1 i0 i1 c_ONLINE c_AWAY c_OFFLINE s.heap s.heap.size (Nat.le_refl _) (Old.start s) S_c_ONLINE E_c_ONLINE O_c_ONLINE S_c_AWAY E_c_AWAY O_c_AWAY S_c_OFFLINE E_c_OFFLINE O_c_OFFLINE p e ha hc hk s m _ below hf ((Spec.applies_iff_loose hf).mp happ).1 ⟨rfl, State.Warmed39.refl s, rfl⟩ trivial
  refine ⟨n, _, h1, h2, h3, hpost _ _ _ _ _ _ ⟨Cond.after_iff.mpr rfl, Cond.after_iff.mpr (eq_i res_at (Term.int_eval (1)) rfl), trivial⟩ ⟨hq.1, hq.2.1, (hq.2.2.sift fun y hy => Or.inr (N y hy)).mono (by decide) (by decide)⟩⟩
theorem main_1_1 : Claimed_1_1 := comes_1 fun _ _ _ _ _ _ h hF => ⟨h.1, hF⟩
theorem main_1_2 : Claimed_1_2 := comes_1 fun _ _ _ _ _ _ h hF => ⟨h.2.1, hF⟩
end Jvm.Pilot.@@N@@
namespace Jvm.Pilot.@@N@@
open Jvm Jvm.ClassFile Sem Op Lib Jvm.Free Jvm.Stand Jvm.Pilot.@@N@@.Jvm.D
/-! MADE BY PROGRAM (witnessworld.py) out of the Statement's table words and the real class files: 12 classes; the members and pool entries that the words name. The judged class is class 1, her method 1. -/
namespace start1
open Jvm.ClassFile
def u (s : String) : CpInfo := .utf8 (stringToUtf16 s)
/-- a pool by its gaps: so many unusable entries, then the entry; so many at the end -/
def gap : Nat → List CpInfo → List CpInfo
  | 0, r => r
  | n + 1, r => .unusable :: gap n r
def poolList (es : List (Nat × CpInfo)) (last : Nat) : List CpInfo := es.foldr (fun e r => gap e.1 (e.2 :: r)) (gap last [])
def pool (es : List (Nat × CpInfo)) (last : Nat) : Array CpInfo := ⟨poolList es last⟩
def fileOf (pool : Array CpInfo) (this : Nat) (attrs : Array Attribute := #[]) (ms : Array MethodInfo := #[]) (fl : Nat := 33) (sup : Nat := 0) (ifs : Array Nat := #[]) (fds : Array FieldInfo := #[]) : ClassFile where
  minorVersion := 0
  majorVersion := 65
  constantPool := pool
  accessFlags := fl
  thisClass := this
  superClass := sup
  interfaces := ifs
  fields := fds
  methods := ms
  attributes := attrs
def plain (name : String) (sup : Option ClassId) : Class where
  name := name
  kind := .ordinary
  loader := none
  accessFlags := 33
  super := sup
  interfaces := #[]
  cf := none
  fields := #[]
  methods := #[]
  instanceTypes := #[]
  staticTypes := #[]
  resolved := #[]
  callSites := []
  init := .initialized
  statics := none
  mirror := none

def pool0 : Array CpInfo := pool [(5, u "<init>"), (0, u "()V"), (1, .class_ 10), (1, u "java/lang/Object")] 113

def k0m0 : Method := { name := "<init>", desc := "()V", sig := { parameters := [], returnType := none }, accessFlags := 1, code := none }
/-- java/lang/Object -/
def k0 : Class := { plain "java/lang/Object" none with
  accessFlags := 33
  interfaces := #[]
  cf := some (fileOf pool0 8 #[] #[{ accessFlags := 1, nameIndex := 5, descriptorIndex := 6, attributes := #[] }] 33 0 #[] #[])
  fields := #[]
  methods := #[k0m0]
  instanceTypes := #[]
  staticTypes := #[]
  resolved := Array.replicate 124 none
  statics := none }

def pool1 : Array CpInfo := pool [(2, .class_ 4), (1, u "java/lang/Object"), (0, u "<init>"), (0, u "()V"), (0, .integer 2147483647), (0, .methodref 9 10), (0, .class_ 11), (0, .nameAndType 12 13), (0, u "com/example/muster/muster/model/Status"), (0, u "of"), (0, u "(II)Lcom/example/muster/muster/model/Status;"), (0, .fieldref 9 15), (0, .nameAndType 16 17), (0, u "ONLINE"), (0, u "Lcom/example/muster/muster/model/Status;"), (0, .fieldref 9 19), (0, .nameAndType 20 17), (0, u "AWAY"), (0, .fieldref 9 22), (0, .nameAndType 23 17), (0, u "OFFLINE"), (0, .class_ 25), (0, u "com/example/muster/muster/model/StatusOfPinLaw"), (2, u "law"), (0, u "(II)Z")] 3

def k1m0 : Method := { name := "<init>", desc := "()V", sig := { parameters := [], returnType := none }, accessFlags := 1, code := none }
def k1c1 : Code := { maxStack := 2, maxLocals := 11, code := code, exceptionTable := #[], attributes := #[] }
def k1m1 : Method := { name := "law", desc := "(II)Z", sig := { parameters := [.int, .int], returnType := some .boolean }, accessFlags := 9, code := some k1c1 }
/-- com/example/muster/muster/model/StatusOfPinLaw -/
def k1 : Class := { plain "com/example/muster/muster/model/StatusOfPinLaw" (some 0) with
  accessFlags := 49
  interfaces := #[]
  cf := some (fileOf pool1 24 #[] #[{ accessFlags := 1, nameIndex := 5, descriptorIndex := 6, attributes := #[] }, { accessFlags := 9, nameIndex := 28, descriptorIndex := 29, attributes := #[] }] 49 2 #[] #[])
  fields := #[]
  methods := #[k1m0, k1m1]
  instanceTypes := #[]
  staticTypes := #[]
  resolved := Array.replicate 33 none
  statics := none }

def pool2 : Array CpInfo := pool [(1, .class_ 2), (0, u "java/lang/constant/Constable"), (0, .class_ 4), (0, u "java/lang/Object")] 6

/-- java/lang/constant/Constable -/
def k2 : Class := { plain "java/lang/constant/Constable" (some 0) with
  accessFlags := 1537
  interfaces := #[]
  cf := some (fileOf pool2 1 #[] #[] 1537 3 #[] #[])
  fields := #[]
  methods := #[]
  instanceTypes := #[]
  staticTypes := #[]
  resolved := Array.replicate 11 none
  statics := none }

def pool3 : Array CpInfo := pool [(1, .class_ 2), (0, u "java/lang/Comparable"), (0, .class_ 4), (0, u "java/lang/Object")] 7

/-- java/lang/Comparable -/
def k3 : Class := { plain "java/lang/Comparable" (some 0) with
  accessFlags := 1537
  interfaces := #[]
  cf := some (fileOf pool3 1 #[] #[] 1537 3 #[] #[])
  fields := #[]
  methods := #[]
  instanceTypes := #[]
  staticTypes := #[]
  resolved := Array.replicate 12 none
  statics := none }

def pool4 : Array CpInfo := pool [(1, .class_ 2), (0, u "java/io/Serializable"), (0, .class_ 4), (0, u "java/lang/Object")] 2

/-- java/io/Serializable -/
def k4 : Class := { plain "java/io/Serializable" (some 0) with
  accessFlags := 1537
  interfaces := #[]
  cf := some (fileOf pool4 1 #[] #[] 1537 3 #[] #[])
  fields := #[]
  methods := #[]
  instanceTypes := #[]
  staticTypes := #[]
  resolved := Array.replicate 7 none
  statics := none }

def pool5 : Array CpInfo := pool [(2, .class_ 4), (1, u "java/lang/Enum"), (0, u "name"), (0, u "Ljava/lang/String;"), (2, u "ordinal"), (0, u "I"), (1, .class_ 14), (1, u "java/lang/Object"), (4, u "hash"), (86, .class_ 108), (1, u "java/lang/Enum$EnumDesc"), (2, .class_ 112), (0, u "java/lang/constant/Constable"), (0, .class_ 114), (0, u "java/lang/Comparable"), (0, .class_ 116), (0, u "java/io/Serializable")] 87

/-- java/lang/Enum -/
def k5 : Class := { plain "java/lang/Enum" (some 0) with
  accessFlags := 1057
  interfaces := #[2, 3, 4]
  cf := some (fileOf pool5 2 #[.nestMembers #[106]] #[] 1057 12 #[111, 113, 115] #[{ accessFlags := 18, nameIndex := 5, descriptorIndex := 6, attributes := #[] }, { accessFlags := 18, nameIndex := 9, descriptorIndex := 10, attributes := #[] }, { accessFlags := 2, nameIndex := 19, descriptorIndex := 10, attributes := #[] }])
  fields := #[{ name := "name", type := (.object "java/lang/String"), accessFlags := 18, slot := 0, constantValue := 0 }, { name := "ordinal", type := .int, accessFlags := 18, slot := 1, constantValue := 0 }, { name := "hash", type := .int, accessFlags := 2, slot := 2, constantValue := 0 }]
  methods := #[]
  instanceTypes := #[(.object "java/lang/String"), .int, .int]
  staticTypes := #[]
  resolved := Array.replicate 204 none
  statics := none }

def pool6 : Array CpInfo := pool [(1, .class_ 2), (0, u "com/example/muster/muster/model/Status"), (0, .fieldref 1 4), (0, .nameAndType 5 6), (0, u "ONLINE"), (0, u "Lcom/example/muster/muster/model/Status;"), (0, .fieldref 1 8), (0, .nameAndType 9 6), (0, u "AWAY"), (0, .fieldref 1 11), (0, .nameAndType 12 6), (0, u "OFFLINE"), (2, u "$VALUES"), (0, u "[Lcom/example/muster/muster/model/Status;"), (6, .class_ 25), (1, u "java/lang/Enum"), (8, u "wireName"), (0, u "Ljava/lang/String;"), (31, u "of"), (0, u "(II)Lcom/example/muster/muster/model/Status;")] 22

def k6c0 : Code := { maxStack := 4, maxLocals := 3, code := prog_15_method_4_code, exceptionTable := #[], attributes := #[] }
def k6m0 : Method := { name := "of", desc := "(II)Lcom/example/muster/muster/model/Status;", sig := { parameters := [.int, .int], returnType := some (.object "com/example/muster/muster/model/Status") }, accessFlags := 9, code := some k6c0 }
/-- com/example/muster/muster/model/Status -/
def k6 : Class := { plain "com/example/muster/muster/model/Status" (some 5) with
  accessFlags := 16433
  interfaces := #[]
  cf := some (fileOf pool6 1 #[] #[{ accessFlags := 9, nameIndex := 67, descriptorIndex := 68, attributes := #[] }] 16433 23 #[] #[{ accessFlags := 16409, nameIndex := 5, descriptorIndex := 6, attributes := #[] }, { accessFlags := 16409, nameIndex := 9, descriptorIndex := 6, attributes := #[] }, { accessFlags := 16409, nameIndex := 12, descriptorIndex := 6, attributes := #[] }, { accessFlags := 18, nameIndex := 34, descriptorIndex := 35, attributes := #[] }, { accessFlags := 4122, nameIndex := 15, descriptorIndex := 16, attributes := #[] }])
  fields := #[{ name := "ONLINE", type := (.object "com/example/muster/muster/model/Status"), accessFlags := 16409, slot := 0, constantValue := 0 }, { name := "AWAY", type := (.object "com/example/muster/muster/model/Status"), accessFlags := 16409, slot := 1, constantValue := 0 }, { name := "OFFLINE", type := (.object "com/example/muster/muster/model/Status"), accessFlags := 16409, slot := 2, constantValue := 0 }, { name := "wireName", type := (.object "java/lang/String"), accessFlags := 18, slot := 3, constantValue := 0 }, { name := "$VALUES", type := (.array (.object "com/example/muster/muster/model/Status")), accessFlags := 4122, slot := 3, constantValue := 0 }]
  methods := #[k6m0]
  instanceTypes := #[(.object "java/lang/String"), .int, .int, (.object "java/lang/String")]
  staticTypes := #[(.object "com/example/muster/muster/model/Status"), (.object "com/example/muster/muster/model/Status"), (.object "com/example/muster/muster/model/Status"), (.array (.object "com/example/muster/muster/model/Status"))]
  resolved := Array.replicate 91 none
  statics := some 0 }

def pool7 : Array CpInfo := pool [(1, u "java/lang/Cloneable"), (0, .class_ 1), (0, u "java/lang/Object"), (0, .class_ 3)] 3

/-- java/lang/Cloneable -/
def k7 : Class := { plain "java/lang/Cloneable" (some 0) with
  accessFlags := 1537
  interfaces := #[]
  cf := some (fileOf pool7 2 #[] #[] 1537 4 #[] #[])
  fields := #[]
  methods := #[]
  instanceTypes := #[]
  staticTypes := #[]
  resolved := Array.replicate 8 none
  statics := none }

/-- the primitive byte -/
def k8 : Class := { plain "byte" none with kind := .primitive 'B', accessFlags := 0x411 }
/-- [B -/
def k9 : Class := { plain "[B" (some 0) with kind := .array 8 .byte, interfaces := #[7, 4], accessFlags := 1041 }

/-- the primitive int -/
def k10 : Class := { plain "int" none with kind := .primitive 'I', accessFlags := 0x411 }
/-- [I -/
def k11 : Class := { plain "[I" (some 0) with kind := .array 10 .int, interfaces := #[7, 4], accessFlags := 1041 }

def heap : Heap := #[{ cls := 6, slots := #[.ref 1, .ref 2, .ref 3, .null], vm := .statics 6 },
  { cls := 6, slots := #[.null, .int 0, .int 0, .null], vm := .none },
  { cls := 6, slots := #[.null, .int 1, .int 0, .null], vm := .none },
  { cls := 6, slots := #[.null, .int 2, .int 0, .null], vm := .none }]
def classes : Array Class := #[k0, k1, k2, k3, k4, k5, k6, k7, k8, k9, k10, k11]
def interned : List (Array UInt16 × Addr) := []
def slotsUsed : Nat := 16
def theMethod : MethodId := ⟨1, 1⟩
def args0 : Array Value := #[.int 5, .int 3]
def aboutOver (below : List Frame) : State where
  vm := { classes := classes, interned := interned.toArray }
  heap := heap
  slotsUsed := slotsUsed
  threads := #[{ frames := .invoking theMethod args0 :: below }]
def below0 : List Frame := [.native { method := ⟨0, 0⟩, args := #[] }]
def about1 : State := aboutOver below0
def p0 : Program := .bare "" "" ""
def e0 : Env := launch0.env 0 0 0
theorem w_frames : about1.frames = Frame.invoking theMethod args0 :: below0 := rfl
set_option maxRecDepth 65536 in
theorem w_args : argsFit about1.vm theMethod args0 = true := by decide +kernel
set_option maxRecDepth 65536 in
theorem w_heap : heapFits about1 = true := by decide +kernel
set_option maxRecDepth 65536 in
theorem w_runnable : about1.curStatus? = some .runnable := by decide +kernel
set_option maxRecDepth 65536 in
theorem w_alone : about1.alone = true := by decide +kernel
set_option maxRecDepth 65536 in
theorem w_named : about1.methodNamed? x = some theMethod := by decide +kernel
set_option maxRecDepth 65536 in
theorem w_hears : about1.hears theMethod below0 = true := by decide +kernel
set_option maxRecDepth 65536 in
theorem w_ripe : about1.ripe theMethod args0 below0 = true := by decide +kernel
theorem w_running : about1.status = .running := rfl
set_option maxRecDepth 65536 in
theorem w_room : about1.hasRoom e0.platform room_1 = true :=
  launch0.hasRoom_least _ room_1 (by decide +kernel) (by decide +kernel) (by decide +kernel) (by decide +kernel) (by decide +kernel) (by decide +kernel)
theorem allAtoms_all (ts : List Jvm.Cond) (a : Array Jvm.Value) (st : Jvm.State) : (allAtoms ts).before a st = ts.all (fun c => c.before a st) := by
  induction ts with
  | nil => rfl
  | cons c t ih =>
    show (Jvm.Cond.and c (allAtoms t)).before a st = _
    rw [Jvm.Cond.before_and, ih, List.all_cons]
def words1 : List Jvm.Cond := Jvm.Cond.code x code maxLocals ret :: tables_1
/-- a 'code' word, met by the world's own term for the bytes: nothing is compared byte by byte -/
theorem code_word {y : MethodName} {bytes : ByteArray} {mx : Nat} {rt : Option FieldType} {a : Array Value} {s : State} {m : MethodId} {meth : Method} {c : Code} (h1 : s.methodNamed? y = some m) (h2 : s.vm.method? m = some meth) (h3 : meth.code = some c) (h4 : c.code = bytes)
    (h5 : (c.maxLocals == mx && c.exceptionTable.isEmpty && decide (c.maxStack ≤ mostOperands) && decide (meth.sig.returnType = rt) && !meth.locks && decide (parseMethodDescriptor y.desc = some meth.sig)) = true) : (Jvm.Cond.code y bytes mx rt).before a s = true := by
  simp only [Bool.and_eq_true, beq_iff_eq, Bool.not_eq_true', decide_eq_true_eq] at h5
  obtain ⟨⟨⟨⟨⟨g1, g2⟩, g3⟩, g4⟩, g5⟩, g6⟩ := h5
  simp [Cond.before, Cond.holds, Cond.value, h1, h2, h3, h4, g1, g2, g3, g4, g5, g6]
def isCode : Jvm.Cond → Bool
  | .code _ _ _ _ => true
  | _ => false
theorem all_split {L : List Jvm.Cond} {P : Jvm.Cond → Bool} (h1 : L.all (fun c => isCode c || P c) = true) (h2 : ∀ c ∈ L.filter isCode, P c = true) : L.all P = true := by
  refine List.all_eq_true.mpr fun c hc => ?_
  have h := List.all_eq_true.mp h1 c hc
  rcases Bool.eq_false_or_eq_true (isCode c) with hi | hi
  · exact h2 c (List.mem_filter.mpr ⟨hc, hi⟩)
  · simpa [hi] using h
set_option maxRecDepth 65536 in
theorem w_c0 : (Jvm.Cond.code x code maxLocals ret).before args0 about1 = true := code_word (m := ⟨1, 1⟩) (meth := k1m1) (c := k1c1) (by decide +kernel) rfl rfl rfl (by decide +kernel)
set_option maxRecDepth 65536 in
theorem w_c1 : (Jvm.Cond.code ({ cls := "com/example/muster/muster/model/Status", name := "of", desc := "(II)Lcom/example/muster/muster/model/Status;" } : Jvm.MethodName) prog_15_method_4_code (3 : Nat) (Option.some (Jvm.ClassFile.FieldType.object "com/example/muster/muster/model/Status"))).before args0 about1 = true := code_word (m := ⟨6, 0⟩) (meth := k6m0) (c := k6c0) (by decide +kernel) rfl rfl rfl (by decide +kernel)
def codes1 : List Jvm.Cond := [Jvm.Cond.code x code maxLocals ret, Jvm.Cond.code ({ cls := "com/example/muster/muster/model/Status", name := "of", desc := "(II)Lcom/example/muster/muster/model/Status;" } : Jvm.MethodName) prog_15_method_4_code (3 : Nat) (Option.some (Jvm.ClassFile.FieldType.object "com/example/muster/muster/model/Status"))]
set_option maxRecDepth 65536 in
theorem codes_eq : words1.filter isCode = codes1 := rfl
theorem w_codes : ∀ c ∈ words1.filter isCode, c.before args0 about1 = true := by
  rw [codes_eq]
  intro c hc
  simp only [codes1, List.mem_cons, List.not_mem_nil, or_false] at hc
  rcases hc with rfl | rfl
  · exact w_c0
  · exact w_c1
set_option maxRecDepth 65536 in
theorem w_t1 : words1.all (fun c => isCode c || c.before args0 about1) = true := by decide +kernel
theorem w_tables : (allAtoms (Jvm.Cond.code x code maxLocals ret :: tables_1)).before args0 about1 = true := by
  rw [allAtoms_all]
  show words1.all (fun c => c.before args0 about1) = true
  refine all_split ?_ w_codes
  rw [w_t1]
set_option maxRecDepth 65536 in
theorem w_case : (Jvm.Cond.and given_1 narrow_1).before args0 about1 = true := by decide +kernel
theorem w_applies : (headSpec (Jvm.Cond.code x code maxLocals ret :: tables_1) room_1).applies x e0.platform about1 = true :=
  (Spec.applies_iff w_frames).mpr ⟨w_running, w_runnable, w_alone, w_named, w_hears, w_ripe, w_room, w_tables⟩
theorem atStart : AtStart classFile x code maxLocals ret World_1 tables_1 room_1 Calls_1 rest_1 Pre_1 launch0 p0 e0 about1 theMethod args0 below0 :=
  ⟨lists_1, trivial, launch0.admits_env _ _ _, launch0.least_env, fairChoices_fair.cas, fairChoices_fair.clock, w_frames, w_args, w_heap, w_applies, trivial, trivial, w_case⟩
end start1
theorem witness_1 : WitnessClaimed_1 := ⟨start1.p0, start1.e0, start1.about1, start1.theMethod, start1.args0, start1.below0, start1.atStart⟩
end Jvm.Pilot.@@N@@
