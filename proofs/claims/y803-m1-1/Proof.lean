import JvmDerived
import JvmDerived.Pilot.@@N@@Statement
import JvmDerived.Pilot.@@N@@Code
set_option linter.unusedVariables false
set_option linter.unusedSimpArgs false
namespace Jvm.Pilot.@@N@@
open Jvm Jvm.ClassFile Sem Op Lib Jvm.Free Jvm.Stand Jvm.LawKit Jvm.RoadKit Bundle Jvm.Pilot.@@N@@.Jvm.D
section OwnGo
variable {p : Program} {l : Launch} {e : Env} {R : Room} {s : State} {m : MethodId} {args : Array Value} {below : List Frame} {meth : Method} {c : Code} {T T' : State} {locs : List Loc} {cells slots : Nat} {Q : Option Value → Heap → List Loc → Prop} {C S : Nat} {g g' : JFrame} {F : Outcome → State → Prop}
/-- from this state and frame the body comes to an end of which F holds -/
def Go (p : Program) (e : Env) (below : List Frame) (F : Outcome → State → Prop) (T : State) (g : JFrame) : Prop :=
  ∃ s₂ o, Steps p.tables e below (T.setTop g) s₂ ∧ s₂.status = .running ∧ Ended s₂ below o ∧ F o s₂
/-- it returned, Q holds, and nothing else has moved than L and so many new cells and slots -/
abbrev EndN (s : State) (Q : Option Value → Heap → List Loc → Prop) (C S : Nat) (o : Outcome) (t : State) : Prop := ∃ v L, o = .returned v ∧ Q v t.heap L ∧ FrameEnd s o t L C S
theorem Go.enter (q : g = g') (k : Go p e below F T g') : ∃ s₂ o, Steps p.tables e below (T.setTop g) s₂ ∧ s₂.status = .running ∧ Ended s₂ below o ∧ F o s₂ := by
  subst q
  exact k
theorem Go.by (h : ∀ t, Steps p.tables e below (T'.setTop g') t → Steps p.tables e below (T.setTop g) t) (k : Go p e below F T' g') : Go p e below F T g := by
  obtain ⟨s₂, o, h1, h2⟩ := k
  exact ⟨s₂, o, h _ h1, h2⟩
theorem Go.to (h : Steps p.tables e below (T.setTop g) (T'.setTop g')) (k : Go p e below F T' g') : Go p e below F T g := by
  obtain ⟨s₂, o, h1, h2⟩ := k
  exact ⟨s₂, o, h.trans h1, h2⟩
abbrev own_retKind (i : Instr) (t : FieldType) (w : Value) : Prop := (i = .ireturn ∧ (t = .int ∨ t = .boolean ∨ t = .byte ∨ t = .char ∨ t = .short) ∧ ∃ z, w = .int z) ∨ (i = .lreturn ∧ t = .long ∧ ∃ z, w = .long z) ∨ (i = .dreturn ∧ t = .double ∧ ∃ z, w = .double z) ∨ (i = .freturn ∧ t = .float ∧ ∃ z, w = .float z) ∨ (i = .areturn ∧ t.isReference = true ∧ w.isRef = true)
theorem Go.ret (X : Stand p l e R s m args below meth c T locs cells slots) (hx : p.tables.exec = Jvm.exec) (hlocks : meth.locks = false) {pc : Nat} {Ls : Array Slot} {w : Value} {t : FieldType} {i : Instr} {rest : List Value} (hret : meth.sig.returnType = some t) (hn : narrow t w = w)
    (hi : own_retKind i t w) (hd : decode c.code pc = .ok (i, 1)) (hq : Q (some w) T.heap locs) (hc : cells ≤ C) (hs : slots ≤ S) : Go p e below (EndN s Q C S) T (mkF m pc Ls (w :: rest)) := by
  obtain ⟨fs, hr, hrun, hended, hW, hsame⟩ := X.leave (v := some w) (fun h => by rw [hret] at h; cases h) hlocks
  exact ⟨_, _, retOut X hx hret hn hi hd hr, hrun, hended, _, _, rfl, hq, ⟨_, rfl⟩, hW, hsame.mono hc hs⟩
theorem Go.retI (X : Stand p l e R s m args below meth c T locs cells slots) (hx : p.tables.exec = Jvm.exec) (hlocks : meth.locks = false) {pc : Nat} {Ls : Array Slot} {w : Int32} {t : FieldType} {rest : List Value} (hret : meth.sig.returnType = some t) (hn : narrow t (.int w) = .int w)
    (ht : t = .int ∨ t = .boolean ∨ t = .byte ∨ t = .char ∨ t = .short) (hd : decode c.code pc = .ok (.ireturn, 1)) (hq : Q (some (.int w)) T.heap locs) (hc : cells ≤ C) (hs : slots ≤ S) : Go p e below (EndN s Q C S) T (mkF m pc Ls (.int w :: rest)) :=
  Go.ret X hx hlocks hret hn (Or.inl ⟨rfl, ht, _, rfl⟩) hd hq hc hs
theorem Go.retJ (X : Stand p l e R s m args below meth c T locs cells slots) (hx : p.tables.exec = Jvm.exec) (hlocks : meth.locks = false) {pc : Nat} {Ls : Array Slot} {w : Int64} {rest : List Value} (hret : meth.sig.returnType = some .long)
    (hd : decode c.code pc = .ok (.lreturn, 1)) (hq : Q (some (.long w)) T.heap locs) (hc : cells ≤ C) (hs : slots ≤ S) : Go p e below (EndN s Q C S) T (mkF m pc Ls (.long w :: rest)) :=
  Go.ret X hx hlocks hret rfl (Or.inr (Or.inl ⟨rfl, rfl, _, rfl⟩)) hd hq hc hs
theorem own_narR (t : FieldType) {w : Value} (ht : t.isReference = true) (hw : w.isRef = true) : narrow t w = w := by
  cases t <;> first | (simp [FieldType.isReference] at ht; done) | (rcases ref_cases hw with rfl | ⟨_, rfl⟩ <;> rfl)
theorem own_fitR (t : FieldType) {w : Value} (ht : t.isReference = true) (hw : w.isRef = true) : fits t w = true := by
  cases t <;> first | (simp [FieldType.isReference] at ht; done) | (rcases ref_cases hw with rfl | ⟨_, rfl⟩ <;> rfl)
theorem Go.retA (X : Stand p l e R s m args below meth c T locs cells slots) (hx : p.tables.exec = Jvm.exec) (hlocks : meth.locks = false) {pc : Nat} {Ls : Array Slot} {w : Value} {t : FieldType} {rest : List Value} (hret : meth.sig.returnType = some t) (ht : t.isReference = true) (hw : w.isRef = true)
    (hd : decode c.code pc = .ok (.areturn, 1)) (hq : Q (some w) T.heap locs) (hc : cells ≤ C) (hs : slots ≤ S) : Go p e below (EndN s Q C S) T (mkF m pc Ls (w :: rest)) :=
  Go.ret X hx hlocks hret (own_narR t ht hw) (Or.inr (Or.inr (Or.inr (Or.inr ⟨rfl, ht, hw⟩)))) hd hq hc hs
theorem Go.retV (X : Stand p l e R s m args below meth c T locs cells slots) (hx : p.tables.exec = Jvm.exec) (hlocks : meth.locks = false) {pc : Nat} {Ls : Array Slot} (hret : meth.sig.returnType = none)
    (hd : decode c.code pc = .ok (.return_, 1)) (hq : Q none T.heap locs) (hc : cells ≤ C) (hs : slots ≤ S) : Go p e below (EndN s Q C S) T (mkF m pc Ls []) := by
  obtain ⟨fs, hr, hrun, hended, hW, hsame⟩ := X.leave (v := none) (fun _ => rfl) hlocks
  exact ⟨_, _, X.returnOut hx hret hd hr, hrun, hended, _, _, rfl, hq, ⟨_, rfl⟩, hW, hsame.mono hc hs⟩
end OwnGo
theorem own_ord {args : Array Value} {s : State} {t : Term} {a : Addr} {C n d : String} {k : Int32} (h : (Jvm.Cond.eq (Term.field t C n d) (Term.int k)).value args s none s [] = some true) (ev : t.eval args s none [] s = some (.ref a)) : s.fieldOf? a C n d = some (.int k) :=
  (fld_at ev).symm.trans (eqv_i (Term.int_eval k) h)
theorem own_eqR {args : Array Value} {s : State} {X Y : Term} {d : Addr} (h : (Jvm.Cond.eq X Y).value args s none s [] = some true) (hY : Y.eval args s none [] s = some (.ref d)) : X.eval args s none [] s = some (.ref d) := by
  obtain ⟨x, y, hx, hy, -, hk⟩ := cmp_v (Or.inl h)
  obtain rfl : (.ref d) = y := Option.some.inj (hY.symm.trans hy)
  have hr : x.isRef = true := hk.2
  rw [hx, gotT (eq_R hx hY hr rfl) h]

theorem own_masked (x : Int32) : ¬ (x &&& 2147483647) < 0 := by
  have h := (c_and x (2147483647 : Int32) (by decide)).1
  rw [XT.negI32]
  omega
theorem own_irem (x y : Int32) : x - x / y * y = x % y := irem_eq_mod x y
theorem own_rem {x d k : Int32} (n : Nat) (hx : ¬ x < 0) (hd : d.toInt = n) (hn : 0 < n) (hk : k = x - x / d * d) : ∃ j : Nat, j < n ∧ k = Int32.ofNat j := by
  rw [own_irem] at hk
  rw [XT.negI32] at hx
  have h1 := (c_irem x d n hd).1 (by omega)
  have h2 := Int.emod_nonneg x.toInt (b := (n : Int)) (by omega)
  have h3 := Int.emod_lt_of_pos x.toInt (b := (n : Int)) (by omega)
  refine ⟨k.toInt.toNat, by rw [hk, h1]; omega, ?_⟩
  apply Int32.toInt_inj.mp
  have h4 := rng32 k
  rw [← hk] at h1
  rw [Int32.toInt_ofNat_of_lt (by omega)]
  omega

theorem own_mod5 {x k : Int32} (h : k = (x &&& 2147483647) - (x &&& 2147483647) / 5 * 5) : k = 0 ∨ k = 1 ∨ k = 2 ∨ k = 3 ∨ k = 4 := by
  obtain ⟨j, hj, rfl⟩ := own_rem 5 (own_masked x) (d := 5) rfl (by decide) h
  rcases (by omega : j = 0 ∨ j = 1 ∨ j = 2 ∨ j = 3 ∨ j = 4) with rfl | rfl | rfl | rfl | rfl <;> simp
theorem pn_1 : plainName "com/example/entries_to_nodes/entriestonodes/pubsub/node/AffiliationPublishesPinLaw" = true := by first | (simp [plainName, overriddenIn]; done) | decide +kernel
theorem ef_2 (m : MethodId) (x0 : Int32) : entryFrame m #[(.int x0)] 1 = mkF m 0 #[.val (.int x0)] [] := by (first | (simp [entryFrame, mkF, argsToLocals, Value.category]; done) | rfl)
theorem d1_0 : decode method_3_code 0 = .ok (.iload_n 0, 1) := by decide +kernel
theorem d1_1 : decode method_3_code 1 = .ok (.ifCond .ne 7, 3) := by decide +kernel
theorem d1_4 : decode method_3_code 4 = .ok (.getstatic 20, 3) := by decide +kernel
theorem d1_7 : decode method_3_code 7 = .ok (.areturn, 1) := by decide +kernel
theorem d1_8 : decode method_3_code 8 = .ok (.iload_n 0, 1) := by decide +kernel
theorem d1_9 : decode method_3_code 9 = .ok (.iconst 1, 1) := by decide +kernel
theorem d1_10 : decode method_3_code 10 = .ok (.if_icmp .ne 7, 3) := by decide +kernel
theorem d1_13 : decode method_3_code 13 = .ok (.getstatic 24, 3) := by decide +kernel
theorem d1_16 : decode method_3_code 16 = .ok (.areturn, 1) := by decide +kernel
theorem d1_17 : decode method_3_code 17 = .ok (.iload_n 0, 1) := by decide +kernel
theorem d1_18 : decode method_3_code 18 = .ok (.iconst 2, 1) := by decide +kernel
theorem d1_19 : decode method_3_code 19 = .ok (.if_icmp .ne 7, 3) := by decide +kernel
theorem d1_22 : decode method_3_code 22 = .ok (.getstatic 27, 3) := by decide +kernel
theorem d1_25 : decode method_3_code 25 = .ok (.areturn, 1) := by decide +kernel
theorem d1_26 : decode method_3_code 26 = .ok (.iload_n 0, 1) := by decide +kernel
theorem d1_27 : decode method_3_code 27 = .ok (.iconst 3, 1) := by decide +kernel
theorem d1_28 : decode method_3_code 28 = .ok (.if_icmp .ne 7, 3) := by decide +kernel
theorem d1_31 : decode method_3_code 31 = .ok (.getstatic 30, 3) := by decide +kernel
theorem d1_34 : decode method_3_code 34 = .ok (.areturn, 1) := by decide +kernel
theorem d1_35 : decode method_3_code 35 = .ok (.getstatic 33, 3) := by decide +kernel
theorem d1_38 : decode method_3_code 38 = .ok (.areturn, 1) := by decide +kernel
def Q_rm1 (Z : State) (k : Int32) (a : Addr) (c_OWNER : Addr) (c_PUBLISHER : Addr) (c_MEMBER : Addr) (c_NONE : Addr) (c_OUTCAST : Addr) (h0 : Heap) (n0 : Nat) (v : Option Value) (h : Heap) (L : List Loc) : Prop := v = some (.ref a) ∧ Fr n0 L ∧ h = h0
set_option maxRecDepth 65536 in
set_option maxHeartbeats 40000000 in
theorem rm1 (l : Launch) (Z : State) (a0 : Array Value) (hw : ∀ d ∈ tables_1, d.before a0 Z = true) (ws : List Jvm.Cond) (k : Int32) (a : Addr) (c_OWNER : Addr) (c_PUBLISHER : Addr) (c_MEMBER : Addr) (c_NONE : Addr) (c_OUTCAST : Addr) (h0 : Heap) (n0 : Nat) (Z0 : n0 ≤ h0.size) (O0 : Old Z n0 h0) (S_c_OWNER : Sta Z Z.heap "com/example/entries_to_nodes/entriestonodes/pubsub/node/Affiliation" "OWNER" "Lcom/example/entries_to_nodes/entriestonodes/pubsub/node/Affiliation;" (.ref c_OWNER)) (E_c_OWNER : Exa Z Z.heap c_OWNER "com/example/entries_to_nodes/entriestonodes/pubsub/node/Affiliation") (O_c_OWNER : Fld Z Z.heap c_OWNER "java/lang/Enum" "ordinal" "I" (.int 0)) (S_c_PUBLISHER : Sta Z Z.heap "com/example/entries_to_nodes/entriestonodes/pubsub/node/Affiliation" "PUBLISHER" "Lcom/example/entries_to_nodes/entriestonodes/pubsub/node/Affiliation;" (.ref c_PUBLISHER)) (E_c_PUBLISHER : Exa Z Z.heap c_PUBLISHER "com/example/entries_to_nodes/entriestonodes/pubsub/node/Affiliation") (O_c_PUBLISHER : Fld Z Z.heap c_PUBLISHER "java/lang/Enum" "ordinal" "I" (.int 1)) (S_c_MEMBER : Sta Z Z.heap "com/example/entries_to_nodes/entriestonodes/pubsub/node/Affiliation" "MEMBER" "Lcom/example/entries_to_nodes/entriestonodes/pubsub/node/Affiliation;" (.ref c_MEMBER)) (E_c_MEMBER : Exa Z Z.heap c_MEMBER "com/example/entries_to_nodes/entriestonodes/pubsub/node/Affiliation") (O_c_MEMBER : Fld Z Z.heap c_MEMBER "java/lang/Enum" "ordinal" "I" (.int 2)) (S_c_NONE : Sta Z Z.heap "com/example/entries_to_nodes/entriestonodes/pubsub/node/Affiliation" "NONE" "Lcom/example/entries_to_nodes/entriestonodes/pubsub/node/Affiliation;" (.ref c_NONE)) (E_c_NONE : Exa Z Z.heap c_NONE "com/example/entries_to_nodes/entriestonodes/pubsub/node/Affiliation") (O_c_NONE : Fld Z Z.heap c_NONE "java/lang/Enum" "ordinal" "I" (.int 3)) (S_c_OUTCAST : Sta Z Z.heap "com/example/entries_to_nodes/entriestonodes/pubsub/node/Affiliation" "OUTCAST" "Lcom/example/entries_to_nodes/entriestonodes/pubsub/node/Affiliation;" (.ref c_OUTCAST)) (E_c_OUTCAST : Exa Z Z.heap c_OUTCAST "com/example/entries_to_nodes/entriestonodes/pubsub/node/Affiliation") (O_c_OUTCAST : Fld Z Z.heap c_OUTCAST "java/lang/Enum" "ordinal" "I" (.int 4)) (hp : (k = 0 ∧ c_OWNER = a) ∨ (k = 1 ∧ c_PUBLISHER = a) ∨ (k = 2 ∧ c_MEMBER = a) ∨ (k = 3 ∧ c_NONE = a) ∨ (k = 4 ∧ c_OUTCAST = a)) :
    MetFree l (⟨"com/example/entries_to_nodes/entriestonodes/pubsub/node/AffiliationPublishesPinLaw", "pick", "(I)Lcom/example/entries_to_nodes/entriestonodes/pubsub/node/Affiliation;"⟩ : MethodName) (head1 (Jvm.Cond.code (⟨"com/example/entries_to_nodes/entriestonodes/pubsub/node/AffiliationPublishesPinLaw", "pick", "(I)Lcom/example/entries_to_nodes/entriestonodes/pubsub/node/Affiliation;"⟩ : MethodName) method_3_code 1 (some (.object "com/example/entries_to_nodes/entriestonodes/pubsub/node/Affiliation")) :: ws) ({ frames := 0, cells := 0, slots := 0, locals := 0 } : Room)) (fun as' U => as' = #[(.int k)] ∧ Z.Warmed39 U.vm ∧ U.heap = h0) (fun _ _ _ _ _ => True) (fun _ U o U' => ∃ v L, o = .returned v ∧ Q_rm1 Z k a c_OWNER c_PUBLISHER c_MEMBER c_NONE c_OUTCAST h0 n0 v U'.heap L ∧ FrameEnd U o U' L ({ frames := 0, cells := 0, slots := 0, locals := 0 } : Room).cells ({ frames := 0, cells := 0, slots := 0, locals := 0 } : Room).slots) := by
  refine MetFree.of_bodySF (plainFor_of_name pn_1) hisR ?_
  intro p e s m args below meth c s₁ Bd hml0 hP hK
  obtain ⟨rfl, hZ, hh⟩ := hP
  have hx := Bd.exec
  have hby := Bd.bytes
  have hml : c.maxLocals = 1 := hml0
  have hown : s.vm.findClass "com/example/entries_to_nodes/entriestonodes/pubsub/node/AffiliationPublishesPinLaw" = some m.cls := findClass_of_methodNamed Bd.named
  have hnm := (name_of_methodNamed Bd.named Bd.method).1
  have X0 : Stand p l e ({ frames := 0, cells := 0, slots := 0, locals := 0 } : Room) s m #[(.int k)] below meth c s₁ [] 0 0 := Stand.of_body Bd
  have e0 : s₁.heap = h0 := by rw [← hh, Bd.state]; rfl
  have N0 := Fr.nil n0
  refine Go.enter (F := EndN s (Q_rm1 Z k a c_OWNER c_PUBLISHER c_MEMBER c_NONE c_OUTCAST h0 n0) ({ frames := 0, cells := 0, slots := 0, locals := 0 } : Room).cells ({ frames := 0, cells := 0, slots := 0, locals := 0 } : Room).slots) (ef_2 m k) ?_
  show Go _ _ _ _ s₁ (mkF m 0 #[.val (.int k)] [])
  rcases hp with ⟨rfl, rfl⟩ | ⟨rfl, rfl⟩ | ⟨rfl, rfl⟩ | ⟨rfl, rfl⟩ | ⟨rfl, rfl⟩
  · show Go _ _ _ _ s₁ (mkF m 0 #[.val (.int (0 : Int32))] [])
    refine Go.by (fun _ gk => XS.iloadN X0.here hx rfl (hb hby d1_0) rfl gk) ?_
    show Go _ _ _ _ s₁ (mkF m 1 #[.val (.int (0 : Int32))] [(.int (0 : Int32))])
    refine Go.by (fun _ gk => XS.ifNo X0.here hx rfl (hb hby d1_1) rfl (XT.i0_ne_f rfl) gk) ?_
    show Go _ _ _ _ s₁ (mkF m 4 #[.val (.int (0 : Int32))] [])
    have F1 : Sta Z h0 "com/example/entries_to_nodes/entriestonodes/pubsub/node/Affiliation" "OWNER" "Lcom/example/entries_to_nodes/entriestonodes/pubsub/node/Affiliation;" (.ref c_OWNER) := S_c_OWNER.ext O0.2
    obtain ⟨T2, X2, e2, st2⟩ := getS2 X0 hx hZ hown (host := "") (Or.inl (hw _ (List.mem_of_getElem? (i := 5) rfl))) Via.refl e0 F1 (g := (mkF m 4 #[.val (.int (0 : Int32))] [])) rfl (hb hby d1_4)
    refine Go.by st2 ?_
    show Go _ _ _ _ T2 (mkF m 7 #[.val (.int (0 : Int32))] [(.ref c_OWNER)])
    exact Go.retA X2 hx Bd.notSynchronized Bd.returns rfl rfl (hb hby d1_7) (by rw [e2]; exact ⟨rfl, N0, rfl⟩) (by decide) (by decide)
  · show Go _ _ _ _ s₁ (mkF m 0 #[.val (.int (1 : Int32))] [])
    refine Go.by (fun _ gk => XS.iloadN X0.here hx rfl (hb hby d1_0) rfl gk) ?_
    show Go _ _ _ _ s₁ (mkF m 1 #[.val (.int (1 : Int32))] [(.int (1 : Int32))])
    refine Go.by (fun _ gk => XS.ifYes X0.here hx rfl (pc0 := 1) (pc' := 8) rfl (hb hby d1_1) rfl (XT.i0_ne_t (by decide)) (by decide) (by decide) gk) ?_
    show Go _ _ _ _ s₁ (mkF m 8 #[.val (.int (1 : Int32))] [])
    refine Go.by (fun _ gk => XS.iloadN X0.here hx rfl (hb hby d1_8) rfl gk) ?_
    show Go _ _ _ _ s₁ (mkF m 9 #[.val (.int (1 : Int32))] [(.int (1 : Int32))])
    refine Go.by (fun _ gk => XT.iconstV X0.here hx rfl (1 : Int32) (hb hby d1_9) (by decide) gk) ?_
    show Go _ _ _ _ s₁ (mkF m 10 #[.val (.int (1 : Int32))] [(.int (1 : Int32)), (.int (1 : Int32))])
    refine Go.by (fun _ gk => XS.icmpNo X0.here hx rfl (hb hby d1_10) rfl (XT.ii_ne_f rfl) gk) ?_
    show Go _ _ _ _ s₁ (mkF m 13 #[.val (.int (1 : Int32))] [])
    have F3 : Sta Z h0 "com/example/entries_to_nodes/entriestonodes/pubsub/node/Affiliation" "PUBLISHER" "Lcom/example/entries_to_nodes/entriestonodes/pubsub/node/Affiliation;" (.ref c_PUBLISHER) := S_c_PUBLISHER.ext O0.2
    obtain ⟨T4, X4, e4, st4⟩ := getS2 X0 hx hZ hown (host := "") (Or.inl (hw _ (List.mem_of_getElem? (i := 18) rfl))) Via.refl e0 F3 (g := (mkF m 13 #[.val (.int (1 : Int32))] [])) rfl (hb hby d1_13)
    refine Go.by st4 ?_
    show Go _ _ _ _ T4 (mkF m 16 #[.val (.int (1 : Int32))] [(.ref c_PUBLISHER)])
    exact Go.retA X4 hx Bd.notSynchronized Bd.returns rfl rfl (hb hby d1_16) (by rw [e4]; exact ⟨rfl, N0, rfl⟩) (by decide) (by decide)
  · show Go _ _ _ _ s₁ (mkF m 0 #[.val (.int (2 : Int32))] [])
    refine Go.by (fun _ gk => XS.iloadN X0.here hx rfl (hb hby d1_0) rfl gk) ?_
    show Go _ _ _ _ s₁ (mkF m 1 #[.val (.int (2 : Int32))] [(.int (2 : Int32))])
    refine Go.by (fun _ gk => XS.ifYes X0.here hx rfl (pc0 := 1) (pc' := 8) rfl (hb hby d1_1) rfl (XT.i0_ne_t (by decide)) (by decide) (by decide) gk) ?_
    show Go _ _ _ _ s₁ (mkF m 8 #[.val (.int (2 : Int32))] [])
    refine Go.by (fun _ gk => XS.iloadN X0.here hx rfl (hb hby d1_8) rfl gk) ?_
    show Go _ _ _ _ s₁ (mkF m 9 #[.val (.int (2 : Int32))] [(.int (2 : Int32))])
    refine Go.by (fun _ gk => XT.iconstV X0.here hx rfl (1 : Int32) (hb hby d1_9) (by decide) gk) ?_
    show Go _ _ _ _ s₁ (mkF m 10 #[.val (.int (2 : Int32))] [(.int (1 : Int32)), (.int (2 : Int32))])
    refine Go.by (fun _ gk => XS.icmpYes X0.here hx rfl (pc0 := 10) (pc' := 17) rfl (hb hby d1_10) rfl (XT.ii_ne_t (by decide)) (by decide) (by decide) gk) ?_
    show Go _ _ _ _ s₁ (mkF m 17 #[.val (.int (2 : Int32))] [])
    refine Go.by (fun _ gk => XS.iloadN X0.here hx rfl (hb hby d1_17) rfl gk) ?_
    show Go _ _ _ _ s₁ (mkF m 18 #[.val (.int (2 : Int32))] [(.int (2 : Int32))])
    refine Go.by (fun _ gk => XT.iconstV X0.here hx rfl (2 : Int32) (hb hby d1_18) (by decide) gk) ?_
    show Go _ _ _ _ s₁ (mkF m 19 #[.val (.int (2 : Int32))] [(.int (2 : Int32)), (.int (2 : Int32))])
    refine Go.by (fun _ gk => XS.icmpNo X0.here hx rfl (hb hby d1_19) rfl (XT.ii_ne_f rfl) gk) ?_
    show Go _ _ _ _ s₁ (mkF m 22 #[.val (.int (2 : Int32))] [])
    have F5 : Sta Z h0 "com/example/entries_to_nodes/entriestonodes/pubsub/node/Affiliation" "MEMBER" "Lcom/example/entries_to_nodes/entriestonodes/pubsub/node/Affiliation;" (.ref c_MEMBER) := S_c_MEMBER.ext O0.2
    obtain ⟨T6, X6, e6, st6⟩ := getS2 X0 hx hZ hown (host := "") (Or.inl (hw _ (List.mem_of_getElem? (i := 21) rfl))) Via.refl e0 F5 (g := (mkF m 22 #[.val (.int (2 : Int32))] [])) rfl (hb hby d1_22)
    refine Go.by st6 ?_
    show Go _ _ _ _ T6 (mkF m 25 #[.val (.int (2 : Int32))] [(.ref c_MEMBER)])
    exact Go.retA X6 hx Bd.notSynchronized Bd.returns rfl rfl (hb hby d1_25) (by rw [e6]; exact ⟨rfl, N0, rfl⟩) (by decide) (by decide)
  · show Go _ _ _ _ s₁ (mkF m 0 #[.val (.int (3 : Int32))] [])
    refine Go.by (fun _ gk => XS.iloadN X0.here hx rfl (hb hby d1_0) rfl gk) ?_
    show Go _ _ _ _ s₁ (mkF m 1 #[.val (.int (3 : Int32))] [(.int (3 : Int32))])
    refine Go.by (fun _ gk => XS.ifYes X0.here hx rfl (pc0 := 1) (pc' := 8) rfl (hb hby d1_1) rfl (XT.i0_ne_t (by decide)) (by decide) (by decide) gk) ?_
    show Go _ _ _ _ s₁ (mkF m 8 #[.val (.int (3 : Int32))] [])
    refine Go.by (fun _ gk => XS.iloadN X0.here hx rfl (hb hby d1_8) rfl gk) ?_
    show Go _ _ _ _ s₁ (mkF m 9 #[.val (.int (3 : Int32))] [(.int (3 : Int32))])
    refine Go.by (fun _ gk => XT.iconstV X0.here hx rfl (1 : Int32) (hb hby d1_9) (by decide) gk) ?_
    show Go _ _ _ _ s₁ (mkF m 10 #[.val (.int (3 : Int32))] [(.int (1 : Int32)), (.int (3 : Int32))])
    refine Go.by (fun _ gk => XS.icmpYes X0.here hx rfl (pc0 := 10) (pc' := 17) rfl (hb hby d1_10) rfl (XT.ii_ne_t (by decide)) (by decide) (by decide) gk) ?_
    show Go _ _ _ _ s₁ (mkF m 17 #[.val (.int (3 : Int32))] [])
    refine Go.by (fun _ gk => XS.iloadN X0.here hx rfl (hb hby d1_17) rfl gk) ?_
    show Go _ _ _ _ s₁ (mkF m 18 #[.val (.int (3 : Int32))] [(.int (3 : Int32))])
    refine Go.by (fun _ gk => XT.iconstV X0.here hx rfl (2 : Int32) (hb hby d1_18) (by decide) gk) ?_
    show Go _ _ _ _ s₁ (mkF m 19 #[.val (.int (3 : Int32))] [(.int (2 : Int32)), (.int (3 : Int32))])
    refine Go.by (fun _ gk => XS.icmpYes X0.here hx rfl (pc0 := 19) (pc' := 26) rfl (hb hby d1_19) rfl (XT.ii_ne_t (by decide)) (by decide) (by decide) gk) ?_
    show Go _ _ _ _ s₁ (mkF m 26 #[.val (.int (3 : Int32))] [])
    refine Go.by (fun _ gk => XS.iloadN X0.here hx rfl (hb hby d1_26) rfl gk) ?_
    show Go _ _ _ _ s₁ (mkF m 27 #[.val (.int (3 : Int32))] [(.int (3 : Int32))])
    refine Go.by (fun _ gk => XT.iconstV X0.here hx rfl (3 : Int32) (hb hby d1_27) (by decide) gk) ?_
    show Go _ _ _ _ s₁ (mkF m 28 #[.val (.int (3 : Int32))] [(.int (3 : Int32)), (.int (3 : Int32))])
    refine Go.by (fun _ gk => XS.icmpNo X0.here hx rfl (hb hby d1_28) rfl (XT.ii_ne_f rfl) gk) ?_
    show Go _ _ _ _ s₁ (mkF m 31 #[.val (.int (3 : Int32))] [])
    have F7 : Sta Z h0 "com/example/entries_to_nodes/entriestonodes/pubsub/node/Affiliation" "NONE" "Lcom/example/entries_to_nodes/entriestonodes/pubsub/node/Affiliation;" (.ref c_NONE) := S_c_NONE.ext O0.2
    obtain ⟨T8, X8, e8, st8⟩ := getS2 X0 hx hZ hown (host := "") (Or.inl (hw _ (List.mem_of_getElem? (i := 14) rfl))) Via.refl e0 F7 (g := (mkF m 31 #[.val (.int (3 : Int32))] [])) rfl (hb hby d1_31)
    refine Go.by st8 ?_
    show Go _ _ _ _ T8 (mkF m 34 #[.val (.int (3 : Int32))] [(.ref c_NONE)])
    exact Go.retA X8 hx Bd.notSynchronized Bd.returns rfl rfl (hb hby d1_34) (by rw [e8]; exact ⟨rfl, N0, rfl⟩) (by decide) (by decide)
  · show Go _ _ _ _ s₁ (mkF m 0 #[.val (.int (4 : Int32))] [])
    refine Go.by (fun _ gk => XS.iloadN X0.here hx rfl (hb hby d1_0) rfl gk) ?_
    show Go _ _ _ _ s₁ (mkF m 1 #[.val (.int (4 : Int32))] [(.int (4 : Int32))])
    refine Go.by (fun _ gk => XS.ifYes X0.here hx rfl (pc0 := 1) (pc' := 8) rfl (hb hby d1_1) rfl (XT.i0_ne_t (by decide)) (by decide) (by decide) gk) ?_
    show Go _ _ _ _ s₁ (mkF m 8 #[.val (.int (4 : Int32))] [])
    refine Go.by (fun _ gk => XS.iloadN X0.here hx rfl (hb hby d1_8) rfl gk) ?_
    show Go _ _ _ _ s₁ (mkF m 9 #[.val (.int (4 : Int32))] [(.int (4 : Int32))])
    refine Go.by (fun _ gk => XT.iconstV X0.here hx rfl (1 : Int32) (hb hby d1_9) (by decide) gk) ?_
    show Go _ _ _ _ s₁ (mkF m 10 #[.val (.int (4 : Int32))] [(.int (1 : Int32)), (.int (4 : Int32))])
    refine Go.by (fun _ gk => XS.icmpYes X0.here hx rfl (pc0 := 10) (pc' := 17) rfl (hb hby d1_10) rfl (XT.ii_ne_t (by decide)) (by decide) (by decide) gk) ?_
    show Go _ _ _ _ s₁ (mkF m 17 #[.val (.int (4 : Int32))] [])
    refine Go.by (fun _ gk => XS.iloadN X0.here hx rfl (hb hby d1_17) rfl gk) ?_
    show Go _ _ _ _ s₁ (mkF m 18 #[.val (.int (4 : Int32))] [(.int (4 : Int32))])
    refine Go.by (fun _ gk => XT.iconstV X0.here hx rfl (2 : Int32) (hb hby d1_18) (by decide) gk) ?_
    show Go _ _ _ _ s₁ (mkF m 19 #[.val (.int (4 : Int32))] [(.int (2 : Int32)), (.int (4 : Int32))])
    refine Go.by (fun _ gk => XS.icmpYes X0.here hx rfl (pc0 := 19) (pc' := 26) rfl (hb hby d1_19) rfl (XT.ii_ne_t (by decide)) (by decide) (by decide) gk) ?_
    show Go _ _ _ _ s₁ (mkF m 26 #[.val (.int (4 : Int32))] [])
    refine Go.by (fun _ gk => XS.iloadN X0.here hx rfl (hb hby d1_26) rfl gk) ?_
    show Go _ _ _ _ s₁ (mkF m 27 #[.val (.int (4 : Int32))] [(.int (4 : Int32))])
    refine Go.by (fun _ gk => XT.iconstV X0.here hx rfl (3 : Int32) (hb hby d1_27) (by decide) gk) ?_
    show Go _ _ _ _ s₁ (mkF m 28 #[.val (.int (4 : Int32))] [(.int (3 : Int32)), (.int (4 : Int32))])
    refine Go.by (fun _ gk => XS.icmpYes X0.here hx rfl (pc0 := 28) (pc' := 35) rfl (hb hby d1_28) rfl (XT.ii_ne_t (by decide)) (by decide) (by decide) gk) ?_
    show Go _ _ _ _ s₁ (mkF m 35 #[.val (.int (4 : Int32))] [])
    have F9 : Sta Z h0 "com/example/entries_to_nodes/entriestonodes/pubsub/node/Affiliation" "OUTCAST" "Lcom/example/entries_to_nodes/entriestonodes/pubsub/node/Affiliation;" (.ref c_OUTCAST) := S_c_OUTCAST.ext O0.2
    obtain ⟨T10, X10, e10, st10⟩ := getS2 X0 hx hZ hown (host := "") (Or.inl (hw _ (List.mem_of_getElem? (i := 19) rfl))) Via.refl e0 F9 (g := (mkF m 35 #[.val (.int (4 : Int32))] [])) rfl (hb hby d1_35)
    refine Go.by st10 ?_
    show Go _ _ _ _ T10 (mkF m 38 #[.val (.int (4 : Int32))] [(.ref c_OUTCAST)])
    exact Go.retA X10 hx Bd.notSynchronized Bd.returns rfl rfl (hb hby d1_38) (by rw [e10]; exact ⟨rfl, N0, rfl⟩) (by decide) (by decide)
theorem pn_24 : plainName "com/example/entries_to_nodes/entriestonodes/pubsub/node/Affiliation" = true := by first | (simp [plainName, overriddenIn]; done) | decide +kernel
theorem ef_25 (m : MethodId) (x0 : Addr) : entryFrame m #[(.ref x0)] 1 = mkF m 0 #[.val (.ref x0)] [] := by (first | (simp [entryFrame, mkF, argsToLocals, Value.category]; done) | rfl)
theorem d2_0 : decode prog_12_method_6_code 0 = .ok (.aload_n 0, 1) := by decide +kernel
theorem d2_1 : decode prog_12_method_6_code 1 = .ok (.getstatic 3, 3) := by decide +kernel
theorem d2_4 : decode prog_12_method_6_code 4 = .ok (.if_acmp .eq 10, 3) := by decide +kernel
theorem d2_14 : decode prog_12_method_6_code 14 = .ok (.iconst 1, 1) := by decide +kernel
theorem d2_15 : decode prog_12_method_6_code 15 = .ok (.goto 4, 3) := by decide +kernel
theorem d2_19 : decode prog_12_method_6_code 19 = .ok (.ireturn, 1) := by decide +kernel
theorem d2_7 : decode prog_12_method_6_code 7 = .ok (.aload_n 0, 1) := by decide +kernel
theorem d2_8 : decode prog_12_method_6_code 8 = .ok (.getstatic 7, 3) := by decide +kernel
theorem d2_11 : decode prog_12_method_6_code 11 = .ok (.if_acmp .ne 7, 3) := by decide +kernel
theorem d2_18 : decode prog_12_method_6_code 18 = .ok (.iconst 0, 1) := by decide +kernel
def Q_rm2 (Z : State) (a : Addr) (r : Int32) (c_OWNER : Addr) (c_PUBLISHER : Addr) (c_MEMBER : Addr) (c_NONE : Addr) (c_OUTCAST : Addr) (h0 : Heap) (n0 : Nat) (v : Option Value) (h : Heap) (L : List Loc) : Prop := v = some (.int r) ∧ Fr n0 L ∧ h = h0
set_option maxRecDepth 65536 in
set_option maxHeartbeats 40000000 in
theorem rm2 (l : Launch) (Z : State) (a0 : Array Value) (hw : ∀ d ∈ tables_1, d.before a0 Z = true) (ws : List Jvm.Cond) (a : Addr) (r : Int32) (c_OWNER : Addr) (c_PUBLISHER : Addr) (c_MEMBER : Addr) (c_NONE : Addr) (c_OUTCAST : Addr) (h0 : Heap) (n0 : Nat) (Z0 : n0 ≤ h0.size) (O0 : Old Z n0 h0) (S_c_OWNER : Sta Z Z.heap "com/example/entries_to_nodes/entriestonodes/pubsub/node/Affiliation" "OWNER" "Lcom/example/entries_to_nodes/entriestonodes/pubsub/node/Affiliation;" (.ref c_OWNER)) (E_c_OWNER : Exa Z Z.heap c_OWNER "com/example/entries_to_nodes/entriestonodes/pubsub/node/Affiliation") (O_c_OWNER : Fld Z Z.heap c_OWNER "java/lang/Enum" "ordinal" "I" (.int 0)) (S_c_PUBLISHER : Sta Z Z.heap "com/example/entries_to_nodes/entriestonodes/pubsub/node/Affiliation" "PUBLISHER" "Lcom/example/entries_to_nodes/entriestonodes/pubsub/node/Affiliation;" (.ref c_PUBLISHER)) (E_c_PUBLISHER : Exa Z Z.heap c_PUBLISHER "com/example/entries_to_nodes/entriestonodes/pubsub/node/Affiliation") (O_c_PUBLISHER : Fld Z Z.heap c_PUBLISHER "java/lang/Enum" "ordinal" "I" (.int 1)) (S_c_MEMBER : Sta Z Z.heap "com/example/entries_to_nodes/entriestonodes/pubsub/node/Affiliation" "MEMBER" "Lcom/example/entries_to_nodes/entriestonodes/pubsub/node/Affiliation;" (.ref c_MEMBER)) (E_c_MEMBER : Exa Z Z.heap c_MEMBER "com/example/entries_to_nodes/entriestonodes/pubsub/node/Affiliation") (O_c_MEMBER : Fld Z Z.heap c_MEMBER "java/lang/Enum" "ordinal" "I" (.int 2)) (S_c_NONE : Sta Z Z.heap "com/example/entries_to_nodes/entriestonodes/pubsub/node/Affiliation" "NONE" "Lcom/example/entries_to_nodes/entriestonodes/pubsub/node/Affiliation;" (.ref c_NONE)) (E_c_NONE : Exa Z Z.heap c_NONE "com/example/entries_to_nodes/entriestonodes/pubsub/node/Affiliation") (O_c_NONE : Fld Z Z.heap c_NONE "java/lang/Enum" "ordinal" "I" (.int 3)) (S_c_OUTCAST : Sta Z Z.heap "com/example/entries_to_nodes/entriestonodes/pubsub/node/Affiliation" "OUTCAST" "Lcom/example/entries_to_nodes/entriestonodes/pubsub/node/Affiliation;" (.ref c_OUTCAST)) (E_c_OUTCAST : Exa Z Z.heap c_OUTCAST "com/example/entries_to_nodes/entriestonodes/pubsub/node/Affiliation") (O_c_OUTCAST : Fld Z Z.heap c_OUTCAST "java/lang/Enum" "ordinal" "I" (.int 4)) (hp : (c_OWNER = a ∧ r = 1) ∨ (c_PUBLISHER = a ∧ r = 1) ∨ (c_MEMBER = a ∧ r = 0) ∨ (c_NONE = a ∧ r = 0) ∨ (c_OUTCAST = a ∧ r = 0)) :
    MetFree l (⟨"com/example/entries_to_nodes/entriestonodes/pubsub/node/Affiliation", "publishes", "()Z"⟩ : MethodName) (head1 (Jvm.Cond.code (⟨"com/example/entries_to_nodes/entriestonodes/pubsub/node/Affiliation", "publishes", "()Z"⟩ : MethodName) prog_12_method_6_code 1 (some .boolean) :: ws) ({ frames := 0, cells := 0, slots := 0, locals := 0 } : Room)) (fun as' U => as' = #[(.ref a)] ∧ Z.Warmed39 U.vm ∧ U.heap = h0) (fun _ _ _ _ _ => True) (fun _ U o U' => ∃ v L, o = .returned v ∧ Q_rm2 Z a r c_OWNER c_PUBLISHER c_MEMBER c_NONE c_OUTCAST h0 n0 v U'.heap L ∧ FrameEnd U o U' L ({ frames := 0, cells := 0, slots := 0, locals := 0 } : Room).cells ({ frames := 0, cells := 0, slots := 0, locals := 0 } : Room).slots) := by
  refine MetFree.of_bodySF (plainFor_of_name pn_24) hisR ?_
  intro p e s m args below meth c s₁ Bd hml0 hP hK
  obtain ⟨rfl, hZ, hh⟩ := hP
  have hx := Bd.exec
  have hby := Bd.bytes
  have hml : c.maxLocals = 1 := hml0
  have hown : s.vm.findClass "com/example/entries_to_nodes/entriestonodes/pubsub/node/Affiliation" = some m.cls := findClass_of_methodNamed Bd.named
  have hnm := (name_of_methodNamed Bd.named Bd.method).1
  have X0 : Stand p l e ({ frames := 0, cells := 0, slots := 0, locals := 0 } : Room) s m #[(.ref a)] below meth c s₁ [] 0 0 := Stand.of_body Bd
  have e0 : s₁.heap = h0 := by rw [← hh, Bd.state]; rfl
  have N0 := Fr.nil n0
  refine Go.enter (F := EndN s (Q_rm2 Z a r c_OWNER c_PUBLISHER c_MEMBER c_NONE c_OUTCAST h0 n0) ({ frames := 0, cells := 0, slots := 0, locals := 0 } : Room).cells ({ frames := 0, cells := 0, slots := 0, locals := 0 } : Room).slots) (ef_25 m a) ?_
  show Go _ _ _ _ s₁ (mkF m 0 #[.val (.ref a)] [])
  rcases hp with ⟨rfl, rfl⟩ | ⟨rfl, rfl⟩ | ⟨rfl, rfl⟩ | ⟨rfl, rfl⟩ | ⟨rfl, rfl⟩
  · show Go _ _ _ _ s₁ (mkF m 0 #[.val (.ref c_OWNER)] [])
    refine Go.by (fun _ gk => XS.aloadN X0.here hx rfl (hb hby d2_0) rfl rfl gk) ?_
    show Go _ _ _ _ s₁ (mkF m 1 #[.val (.ref c_OWNER)] [(.ref c_OWNER)])
    have F1 : Sta Z h0 "com/example/entries_to_nodes/entriestonodes/pubsub/node/Affiliation" "OWNER" "Lcom/example/entries_to_nodes/entriestonodes/pubsub/node/Affiliation;" (.ref c_OWNER) := S_c_OWNER.ext O0.2
    obtain ⟨T2, X2, e2, st2⟩ := getS2 X0 hx hZ hown (host := "") (Or.inl (hw _ (List.mem_of_getElem? (i := 13) rfl))) Via.refl e0 F1 (g := (mkF m 1 #[.val (.ref c_OWNER)] [(.ref c_OWNER)])) rfl (hb hby d2_1)
    refine Go.by st2 ?_
    show Go _ _ _ _ T2 (mkF m 4 #[.val (.ref c_OWNER)] [(.ref c_OWNER), (.ref c_OWNER)])
    refine Go.by (fun _ gk => XT.acmpYes X2.here hx rfl (pc0 := 4) (pc' := 14) rfl (hb hby d2_4) rfl rfl rfl (XT.aa_eq_t rfl) (by decide) (by decide) gk) ?_
    show Go _ _ _ _ T2 (mkF m 14 #[.val (.ref c_OWNER)] [])
    refine Go.by (fun _ gk => XT.iconstV X2.here hx rfl (1 : Int32) (hb hby d2_14) (by decide) gk) ?_
    show Go _ _ _ _ T2 (mkF m 15 #[.val (.ref c_OWNER)] [(.int (1 : Int32))])
    refine Go.by (fun _ gk => XS.goto X2.here hx rfl (pc0 := 15) (pc' := 19) rfl (hb hby d2_15) (by decide) (by decide) gk) ?_
    show Go _ _ _ _ T2 (mkF m 19 #[.val (.ref c_OWNER)] [(.int (1 : Int32))])
    exact Go.retI X2 hx Bd.notSynchronized Bd.returns rfl (by simp) (hb hby d2_19) (by rw [e2]; exact ⟨rfl, N0, rfl⟩) (by decide) (by decide)
  · show Go _ _ _ _ s₁ (mkF m 0 #[.val (.ref c_PUBLISHER)] [])
    refine Go.by (fun _ gk => XS.aloadN X0.here hx rfl (hb hby d2_0) rfl rfl gk) ?_
    show Go _ _ _ _ s₁ (mkF m 1 #[.val (.ref c_PUBLISHER)] [(.ref c_PUBLISHER)])
    have F3 : Sta Z h0 "com/example/entries_to_nodes/entriestonodes/pubsub/node/Affiliation" "OWNER" "Lcom/example/entries_to_nodes/entriestonodes/pubsub/node/Affiliation;" (.ref c_OWNER) := S_c_OWNER.ext O0.2
    obtain ⟨T4, X4, e4, st4⟩ := getS2 X0 hx hZ hown (host := "") (Or.inl (hw _ (List.mem_of_getElem? (i := 13) rfl))) Via.refl e0 F3 (g := (mkF m 1 #[.val (.ref c_PUBLISHER)] [(.ref c_PUBLISHER)])) rfl (hb hby d2_1)
    refine Go.by st4 ?_
    show Go _ _ _ _ T4 (mkF m 4 #[.val (.ref c_PUBLISHER)] [(.ref c_OWNER), (.ref c_PUBLISHER)])
    refine Go.by (fun _ gk => XT.acmpNo X4.here hx rfl (hb hby d2_4) rfl rfl rfl (XT.aa_eq_f (fun q => (Fld.ne O_c_PUBLISHER O_c_OWNER (by decide)) (Value.ref.inj q))) gk) ?_
    show Go _ _ _ _ T4 (mkF m 7 #[.val (.ref c_PUBLISHER)] [])
    refine Go.by (fun _ gk => XS.aloadN X4.here hx rfl (hb hby d2_7) rfl rfl gk) ?_
    show Go _ _ _ _ T4 (mkF m 8 #[.val (.ref c_PUBLISHER)] [(.ref c_PUBLISHER)])
    have F5 : Sta Z h0 "com/example/entries_to_nodes/entriestonodes/pubsub/node/Affiliation" "PUBLISHER" "Lcom/example/entries_to_nodes/entriestonodes/pubsub/node/Affiliation;" (.ref c_PUBLISHER) := S_c_PUBLISHER.ext O0.2
    obtain ⟨T6, X6, e6, st6⟩ := getS2 X4 hx hZ hown (host := "") (Or.inl (hw _ (List.mem_of_getElem? (i := 16) rfl))) Via.refl e4 F5 (g := (mkF m 8 #[.val (.ref c_PUBLISHER)] [(.ref c_PUBLISHER)])) rfl (hb hby d2_8)
    refine Go.by st6 ?_
    show Go _ _ _ _ T6 (mkF m 11 #[.val (.ref c_PUBLISHER)] [(.ref c_PUBLISHER), (.ref c_PUBLISHER)])
    refine Go.by (fun _ gk => XT.acmpNo X6.here hx rfl (hb hby d2_11) rfl rfl rfl (XT.aa_ne_f rfl) gk) ?_
    show Go _ _ _ _ T6 (mkF m 14 #[.val (.ref c_PUBLISHER)] [])
    refine Go.by (fun _ gk => XT.iconstV X6.here hx rfl (1 : Int32) (hb hby d2_14) (by decide) gk) ?_
    show Go _ _ _ _ T6 (mkF m 15 #[.val (.ref c_PUBLISHER)] [(.int (1 : Int32))])
    refine Go.by (fun _ gk => XS.goto X6.here hx rfl (pc0 := 15) (pc' := 19) rfl (hb hby d2_15) (by decide) (by decide) gk) ?_
    show Go _ _ _ _ T6 (mkF m 19 #[.val (.ref c_PUBLISHER)] [(.int (1 : Int32))])
    exact Go.retI X6 hx Bd.notSynchronized Bd.returns rfl (by simp) (hb hby d2_19) (by rw [e6]; exact ⟨rfl, N0, rfl⟩) (by decide) (by decide)
  · show Go _ _ _ _ s₁ (mkF m 0 #[.val (.ref c_MEMBER)] [])
    refine Go.by (fun _ gk => XS.aloadN X0.here hx rfl (hb hby d2_0) rfl rfl gk) ?_
    show Go _ _ _ _ s₁ (mkF m 1 #[.val (.ref c_MEMBER)] [(.ref c_MEMBER)])
    have F7 : Sta Z h0 "com/example/entries_to_nodes/entriestonodes/pubsub/node/Affiliation" "OWNER" "Lcom/example/entries_to_nodes/entriestonodes/pubsub/node/Affiliation;" (.ref c_OWNER) := S_c_OWNER.ext O0.2
    obtain ⟨T8, X8, e8, st8⟩ := getS2 X0 hx hZ hown (host := "") (Or.inl (hw _ (List.mem_of_getElem? (i := 13) rfl))) Via.refl e0 F7 (g := (mkF m 1 #[.val (.ref c_MEMBER)] [(.ref c_MEMBER)])) rfl (hb hby d2_1)
    refine Go.by st8 ?_
    show Go _ _ _ _ T8 (mkF m 4 #[.val (.ref c_MEMBER)] [(.ref c_OWNER), (.ref c_MEMBER)])
    refine Go.by (fun _ gk => XT.acmpNo X8.here hx rfl (hb hby d2_4) rfl rfl rfl (XT.aa_eq_f (fun q => (Fld.ne O_c_MEMBER O_c_OWNER (by decide)) (Value.ref.inj q))) gk) ?_
    show Go _ _ _ _ T8 (mkF m 7 #[.val (.ref c_MEMBER)] [])
    refine Go.by (fun _ gk => XS.aloadN X8.here hx rfl (hb hby d2_7) rfl rfl gk) ?_
    show Go _ _ _ _ T8 (mkF m 8 #[.val (.ref c_MEMBER)] [(.ref c_MEMBER)])
    have F9 : Sta Z h0 "com/example/entries_to_nodes/entriestonodes/pubsub/node/Affiliation" "PUBLISHER" "Lcom/example/entries_to_nodes/entriestonodes/pubsub/node/Affiliation;" (.ref c_PUBLISHER) := S_c_PUBLISHER.ext O0.2
    obtain ⟨T10, X10, e10, st10⟩ := getS2 X8 hx hZ hown (host := "") (Or.inl (hw _ (List.mem_of_getElem? (i := 16) rfl))) Via.refl e8 F9 (g := (mkF m 8 #[.val (.ref c_MEMBER)] [(.ref c_MEMBER)])) rfl (hb hby d2_8)
    refine Go.by st10 ?_
    show Go _ _ _ _ T10 (mkF m 11 #[.val (.ref c_MEMBER)] [(.ref c_PUBLISHER), (.ref c_MEMBER)])
    refine Go.by (fun _ gk => XT.acmpYes X10.here hx rfl (pc0 := 11) (pc' := 18) rfl (hb hby d2_11) rfl rfl rfl (XT.aa_ne_t (fun q => (Fld.ne O_c_MEMBER O_c_PUBLISHER (by decide)) (Value.ref.inj q))) (by decide) (by decide) gk) ?_
    show Go _ _ _ _ T10 (mkF m 18 #[.val (.ref c_MEMBER)] [])
    refine Go.by (fun _ gk => XT.iconstV X10.here hx rfl (0 : Int32) (hb hby d2_18) (by decide) gk) ?_
    show Go _ _ _ _ T10 (mkF m 19 #[.val (.ref c_MEMBER)] [(.int (0 : Int32))])
    exact Go.retI X10 hx Bd.notSynchronized Bd.returns rfl (by simp) (hb hby d2_19) (by rw [e10]; exact ⟨rfl, N0, rfl⟩) (by decide) (by decide)
  · show Go _ _ _ _ s₁ (mkF m 0 #[.val (.ref c_NONE)] [])
    refine Go.by (fun _ gk => XS.aloadN X0.here hx rfl (hb hby d2_0) rfl rfl gk) ?_
    show Go _ _ _ _ s₁ (mkF m 1 #[.val (.ref c_NONE)] [(.ref c_NONE)])
    have F11 : Sta Z h0 "com/example/entries_to_nodes/entriestonodes/pubsub/node/Affiliation" "OWNER" "Lcom/example/entries_to_nodes/entriestonodes/pubsub/node/Affiliation;" (.ref c_OWNER) := S_c_OWNER.ext O0.2
    obtain ⟨T12, X12, e12, st12⟩ := getS2 X0 hx hZ hown (host := "") (Or.inl (hw _ (List.mem_of_getElem? (i := 13) rfl))) Via.refl e0 F11 (g := (mkF m 1 #[.val (.ref c_NONE)] [(.ref c_NONE)])) rfl (hb hby d2_1)
    refine Go.by st12 ?_
    show Go _ _ _ _ T12 (mkF m 4 #[.val (.ref c_NONE)] [(.ref c_OWNER), (.ref c_NONE)])
    refine Go.by (fun _ gk => XT.acmpNo X12.here hx rfl (hb hby d2_4) rfl rfl rfl (XT.aa_eq_f (fun q => (Fld.ne O_c_NONE O_c_OWNER (by decide)) (Value.ref.inj q))) gk) ?_
    show Go _ _ _ _ T12 (mkF m 7 #[.val (.ref c_NONE)] [])
    refine Go.by (fun _ gk => XS.aloadN X12.here hx rfl (hb hby d2_7) rfl rfl gk) ?_
    show Go _ _ _ _ T12 (mkF m 8 #[.val (.ref c_NONE)] [(.ref c_NONE)])
    have F13 : Sta Z h0 "com/example/entries_to_nodes/entriestonodes/pubsub/node/Affiliation" "PUBLISHER" "Lcom/example/entries_to_nodes/entriestonodes/pubsub/node/Affiliation;" (.ref c_PUBLISHER) := S_c_PUBLISHER.ext O0.2
    obtain ⟨T14, X14, e14, st14⟩ := getS2 X12 hx hZ hown (host := "") (Or.inl (hw _ (List.mem_of_getElem? (i := 16) rfl))) Via.refl e12 F13 (g := (mkF m 8 #[.val (.ref c_NONE)] [(.ref c_NONE)])) rfl (hb hby d2_8)
    refine Go.by st14 ?_
    show Go _ _ _ _ T14 (mkF m 11 #[.val (.ref c_NONE)] [(.ref c_PUBLISHER), (.ref c_NONE)])
    refine Go.by (fun _ gk => XT.acmpYes X14.here hx rfl (pc0 := 11) (pc' := 18) rfl (hb hby d2_11) rfl rfl rfl (XT.aa_ne_t (fun q => (Fld.ne O_c_NONE O_c_PUBLISHER (by decide)) (Value.ref.inj q))) (by decide) (by decide) gk) ?_
    show Go _ _ _ _ T14 (mkF m 18 #[.val (.ref c_NONE)] [])
    refine Go.by (fun _ gk => XT.iconstV X14.here hx rfl (0 : Int32) (hb hby d2_18) (by decide) gk) ?_
    show Go _ _ _ _ T14 (mkF m 19 #[.val (.ref c_NONE)] [(.int (0 : Int32))])
    exact Go.retI X14 hx Bd.notSynchronized Bd.returns rfl (by simp) (hb hby d2_19) (by rw [e14]; exact ⟨rfl, N0, rfl⟩) (by decide) (by decide)
  · show Go _ _ _ _ s₁ (mkF m 0 #[.val (.ref c_OUTCAST)] [])
    refine Go.by (fun _ gk => XS.aloadN X0.here hx rfl (hb hby d2_0) rfl rfl gk) ?_
    show Go _ _ _ _ s₁ (mkF m 1 #[.val (.ref c_OUTCAST)] [(.ref c_OUTCAST)])
    have F15 : Sta Z h0 "com/example/entries_to_nodes/entriestonodes/pubsub/node/Affiliation" "OWNER" "Lcom/example/entries_to_nodes/entriestonodes/pubsub/node/Affiliation;" (.ref c_OWNER) := S_c_OWNER.ext O0.2
    obtain ⟨T16, X16, e16, st16⟩ := getS2 X0 hx hZ hown (host := "") (Or.inl (hw _ (List.mem_of_getElem? (i := 13) rfl))) Via.refl e0 F15 (g := (mkF m 1 #[.val (.ref c_OUTCAST)] [(.ref c_OUTCAST)])) rfl (hb hby d2_1)
    refine Go.by st16 ?_
    show Go _ _ _ _ T16 (mkF m 4 #[.val (.ref c_OUTCAST)] [(.ref c_OWNER), (.ref c_OUTCAST)])
    refine Go.by (fun _ gk => XT.acmpNo X16.here hx rfl (hb hby d2_4) rfl rfl rfl (XT.aa_eq_f (fun q => (Fld.ne O_c_OUTCAST O_c_OWNER (by decide)) (Value.ref.inj q))) gk) ?_
    show Go _ _ _ _ T16 (mkF m 7 #[.val (.ref c_OUTCAST)] [])
    refine Go.by (fun _ gk => XS.aloadN X16.here hx rfl (hb hby d2_7) rfl rfl gk) ?_
    show Go _ _ _ _ T16 (mkF m 8 #[.val (.ref c_OUTCAST)] [(.ref c_OUTCAST)])
    have F17 : Sta Z h0 "com/example/entries_to_nodes/entriestonodes/pubsub/node/Affiliation" "PUBLISHER" "Lcom/example/entries_to_nodes/entriestonodes/pubsub/node/Affiliation;" (.ref c_PUBLISHER) := S_c_PUBLISHER.ext O0.2
    obtain ⟨T18, X18, e18, st18⟩ := getS2 X16 hx hZ hown (host := "") (Or.inl (hw _ (List.mem_of_getElem? (i := 16) rfl))) Via.refl e16 F17 (g := (mkF m 8 #[.val (.ref c_OUTCAST)] [(.ref c_OUTCAST)])) rfl (hb hby d2_8)
    refine Go.by st18 ?_
    show Go _ _ _ _ T18 (mkF m 11 #[.val (.ref c_OUTCAST)] [(.ref c_PUBLISHER), (.ref c_OUTCAST)])
    refine Go.by (fun _ gk => XT.acmpYes X18.here hx rfl (pc0 := 11) (pc' := 18) rfl (hb hby d2_11) rfl rfl rfl (XT.aa_ne_t (fun q => (Fld.ne O_c_OUTCAST O_c_PUBLISHER (by decide)) (Value.ref.inj q))) (by decide) (by decide) gk) ?_
    show Go _ _ _ _ T18 (mkF m 18 #[.val (.ref c_OUTCAST)] [])
    refine Go.by (fun _ gk => XT.iconstV X18.here hx rfl (0 : Int32) (hb hby d2_18) (by decide) gk) ?_
    show Go _ _ _ _ T18 (mkF m 19 #[.val (.ref c_OUTCAST)] [(.int (0 : Int32))])
    exact Go.retI X18 hx Bd.notSynchronized Bd.returns rfl (by simp) (hb hby d2_19) (by rw [e18]; exact ⟨rfl, N0, rfl⟩) (by decide) (by decide)
theorem ef_36 (m : MethodId) (x0 : Int32) : entryFrame m #[(.int x0)] 4 = mkF m 0 #[.val (.int x0), .unset, .unset, .unset] [] := by (first | (simp [entryFrame, mkF, argsToLocals, Value.category]; done) | rfl)
theorem pd_37 : parseMethodDescriptor "(I)Lcom/example/entries_to_nodes/entriestonodes/pubsub/node/Affiliation;" = some ⟨[.int], some (.object "com/example/entries_to_nodes/entriestonodes/pubsub/node/Affiliation")⟩ := by decide +kernel
theorem pd_38 : parseMethodDescriptor "()Z" = some ⟨[], some .boolean⟩ := by decide +kernel
def Q_rm0 (Z : State) (p0 : Int32) (c_OWNER : Addr) (c_PUBLISHER : Addr) (c_MEMBER : Addr) (c_NONE : Addr) (c_OUTCAST : Addr) (h0 : Heap) (n0 : Nat) (v : Option Value) (h : Heap) (L : List Loc) : Prop := v = some (.int 1) ∧ Fr n0 L
set_option maxRecDepth 65536 in
set_option maxHeartbeats 40000000 in
theorem rm0 (l : Launch) (Z : State) (a0 : Array Value) (hw : ∀ d ∈ tables_1, d.before a0 Z = true) (ws : List Jvm.Cond) (p0 : Int32) (c_OWNER : Addr) (c_PUBLISHER : Addr) (c_MEMBER : Addr) (c_NONE : Addr) (c_OUTCAST : Addr) (h0 : Heap) (n0 : Nat) (Z0 : n0 ≤ h0.size) (O0 : Old Z n0 h0) (S_c_OWNER : Sta Z Z.heap "com/example/entries_to_nodes/entriestonodes/pubsub/node/Affiliation" "OWNER" "Lcom/example/entries_to_nodes/entriestonodes/pubsub/node/Affiliation;" (.ref c_OWNER)) (E_c_OWNER : Exa Z Z.heap c_OWNER "com/example/entries_to_nodes/entriestonodes/pubsub/node/Affiliation") (O_c_OWNER : Fld Z Z.heap c_OWNER "java/lang/Enum" "ordinal" "I" (.int 0)) (S_c_PUBLISHER : Sta Z Z.heap "com/example/entries_to_nodes/entriestonodes/pubsub/node/Affiliation" "PUBLISHER" "Lcom/example/entries_to_nodes/entriestonodes/pubsub/node/Affiliation;" (.ref c_PUBLISHER)) (E_c_PUBLISHER : Exa Z Z.heap c_PUBLISHER "com/example/entries_to_nodes/entriestonodes/pubsub/node/Affiliation") (O_c_PUBLISHER : Fld Z Z.heap c_PUBLISHER "java/lang/Enum" "ordinal" "I" (.int 1)) (S_c_MEMBER : Sta Z Z.heap "com/example/entries_to_nodes/entriestonodes/pubsub/node/Affiliation" "MEMBER" "Lcom/example/entries_to_nodes/entriestonodes/pubsub/node/Affiliation;" (.ref c_MEMBER)) (E_c_MEMBER : Exa Z Z.heap c_MEMBER "com/example/entries_to_nodes/entriestonodes/pubsub/node/Affiliation") (O_c_MEMBER : Fld Z Z.heap c_MEMBER "java/lang/Enum" "ordinal" "I" (.int 2)) (S_c_NONE : Sta Z Z.heap "com/example/entries_to_nodes/entriestonodes/pubsub/node/Affiliation" "NONE" "Lcom/example/entries_to_nodes/entriestonodes/pubsub/node/Affiliation;" (.ref c_NONE)) (E_c_NONE : Exa Z Z.heap c_NONE "com/example/entries_to_nodes/entriestonodes/pubsub/node/Affiliation") (O_c_NONE : Fld Z Z.heap c_NONE "java/lang/Enum" "ordinal" "I" (.int 3)) (S_c_OUTCAST : Sta Z Z.heap "com/example/entries_to_nodes/entriestonodes/pubsub/node/Affiliation" "OUTCAST" "Lcom/example/entries_to_nodes/entriestonodes/pubsub/node/Affiliation;" (.ref c_OUTCAST)) (E_c_OUTCAST : Exa Z Z.heap c_OUTCAST "com/example/entries_to_nodes/entriestonodes/pubsub/node/Affiliation") (O_c_OUTCAST : Fld Z Z.heap c_OUTCAST "java/lang/Enum" "ordinal" "I" (.int 4)) :
    MetFree l x (head1 (Jvm.Cond.code x code maxLocals ret :: ws) room_1) (fun as' U => as' = #[(.int p0)] ∧ Z.Warmed39 U.vm ∧ U.heap = h0) (fun _ _ _ _ _ => True) (fun _ U o U' => ∃ v L, o = .returned v ∧ Q_rm0 Z p0 c_OWNER c_PUBLISHER c_MEMBER c_NONE c_OUTCAST h0 n0 v U'.heap L ∧ FrameEnd U o U' L 0 0) := by
  refine MetFree.of_bodySF (plainFor_of_name pn_1) hisR ?_
  intro p e s m args below meth c s₁ Bd hml0 hP hK
  obtain ⟨rfl, hZ, hh⟩ := hP
  have hx := Bd.exec
  have hby := Bd.bytes
  have hml : c.maxLocals = 4 := hml0
  have hown : s.vm.findClass "com/example/entries_to_nodes/entriestonodes/pubsub/node/AffiliationPublishesPinLaw" = some m.cls := findClass_of_methodNamed Bd.named
  have hnm := (name_of_methodNamed Bd.named Bd.method).1
  have X0 : Stand p l e room_1 s m #[(.int p0)] below meth c s₁ [] 0 0 := Stand.of_body Bd
  have e0 : s₁.heap = h0 := by rw [← hh, Bd.state]; rfl
  have N0 := Fr.nil n0
  refine Go.enter (F := EndN s (Q_rm0 Z p0 c_OWNER c_PUBLISHER c_MEMBER c_NONE c_OUTCAST h0 n0) 0 0) (ef_36 m p0) ?_
  show Go _ _ _ _ s₁ (mkF m 0 #[.val (.int p0), .unset, .unset, .unset] [])
  refine Go.by (fun _ gk => XS.iloadN X0.here hx rfl (hb hby at_0) rfl gk) ?_
  show Go _ _ _ _ s₁ (mkF m 1 #[.val (.int p0), .unset, .unset, .unset] [(.int p0)])
  refine Go.by (fun _ gk => X0.ldcI hx hown (mvT hZ (hw _ (List.mem_of_getElem? (i := 0) rfl))) (g := (mkF m 1 #[.val (.int p0), .unset, .unset, .unset] [(.int p0)])) rfl (hb hby at_1) gk) ?_
  show Go _ _ _ _ s₁ (mkF m 3 #[.val (.int p0), .unset, .unset, .unset] [(.int (2147483647 : Int32)), (.int p0)])
  refine Go.by (fun _ gk => XS.iand X0.here hx rfl (hb hby at_3) rfl gk) ?_
  show Go _ _ _ _ s₁ (mkF m 4 #[.val (.int p0), .unset, .unset, .unset] [(.int (p0 &&& (2147483647 : Int32)))])
  refine Go.by (fun _ gk => XT.iconstV X0.here hx rfl (5 : Int32) (hb hby at_4) (by decide) gk) ?_
  show Go _ _ _ _ s₁ (mkF m 5 #[.val (.int p0), .unset, .unset, .unset] [(.int (5 : Int32)), (.int (p0 &&& (2147483647 : Int32)))])
  refine Go.by (fun _ gk => XS.irem X0.here hx rfl (hb hby at_5) rfl (by decide) gk) ?_
  show Go _ _ _ _ s₁ (mkF m 6 #[.val (.int p0), .unset, .unset, .unset] [(.int ((p0 &&& (2147483647 : Int32)) - (p0 &&& (2147483647 : Int32)) / (5 : Int32) * (5 : Int32)))])
  refine Go.by (fun _ gk => XS.istoreN X0.here hx rfl (hb hby at_6) rfl (l' := #[.val (.int p0), .val (.int ((p0 &&& (2147483647 : Int32)) - (p0 &&& (2147483647 : Int32)) / (5 : Int32) * (5 : Int32))), .unset, .unset]) rfl gk) ?_
  show Go _ _ _ _ s₁ (mkF m 7 #[.val (.int p0), .val (.int ((p0 &&& (2147483647 : Int32)) - (p0 &&& (2147483647 : Int32)) / (5 : Int32) * (5 : Int32))), .unset, .unset] [])
  obtain ⟨k, h_k⟩ : ∃ z, z = ((p0 &&& (2147483647 : Int32)) - (p0 &&& (2147483647 : Int32)) / (5 : Int32) * (5 : Int32)) := ⟨_, rfl⟩
  rw [← h_k]
  show Go _ _ _ _ s₁ (mkF m 7 #[.val (.int p0), .val (.int k), .unset, .unset] [])
  rcases own_mod5 h_k with rfl | rfl | rfl | rfl | rfl
  · show Go _ _ _ _ s₁ (mkF m 7 #[.val (.int p0), .val (.int (0 : Int32)), .unset, .unset] [])
    refine Go.by (fun _ gk => XS.iloadN X0.here hx rfl (hb hby at_7) rfl gk) ?_
    show Go _ _ _ _ s₁ (mkF m 8 #[.val (.int p0), .val (.int (0 : Int32)), .unset, .unset] [(.int (0 : Int32))])
    obtain ⟨_, _, ⟨T1, L1, k1, n1⟩, -, X1, ⟨Lc1, hQ1, l1, y1, z1⟩, st1⟩ := Jvm.LawKit.callS X0 hx (y := (⟨"com/example/entries_to_nodes/entriestonodes/pubsub/node/AffiliationPublishesPinLaw", "pick", "(I)Lcom/example/entries_to_nodes/entriestonodes/pubsub/node/Affiliation;"⟩ : MethodName)) hown (mvT hZ (hw _ (List.mem_of_getElem? (i := 1) rfl))) (mvT hZ (hw _ (List.mem_of_getElem? (i := 2) rfl))) (mvT hZ (hw _ (List.mem_of_getElem? (i := 3) rfl))) (mvT hZ (hw _ (List.mem_of_getElem? (i := 4) rfl))) (by decide) (backOf (W := 0) (rm1 l Z a0 hw [] (0 : Int32) c_OWNER c_OWNER c_PUBLISHER c_MEMBER c_NONE c_OUTCAST h0 n0 Z0 O0 S_c_OWNER E_c_OWNER O_c_OWNER S_c_PUBLISHER E_c_PUBLISHER O_c_PUBLISHER S_c_MEMBER E_c_MEMBER O_c_MEMBER S_c_NONE E_c_NONE O_c_NONE S_c_OUTCAST E_c_OUTCAST O_c_OUTCAST (Or.inl ⟨rfl, rfl⟩)) hZ (hw _ (List.mem_of_getElem? (i := 4) rfl)) (hw _ (List.mem_of_getElem? (i := 3) rfl)) (by decide) (by decide)) (g := (mkF m 8 #[.val (.int p0), .val (.int (0 : Int32)), .unset, .unset] [(.int (0 : Int32))])) rfl (by rw [hml]; rfl) (argsL := [(.int (0 : Int32))]) (rest := []) (lenOf pd_37 rfl) rfl (by show 2 * 0 + _ ≤ _; exact Nat.le_of_eq rfl) (hb hby at_8) (fun _ _ => ⟨rfl, e0, (by decide : 0 + 0 ≤ _), (by decide : 0 + 0 ≤ _)⟩)
    dsimp only [Pt.U, Pt.locs, Pt.cells, Pt.slots] at X1 l1 y1 z1 st1 hQ1
    subst l1 y1 z1
    obtain ⟨rfl, N1q, e1⟩ := hQ1
    have N1 := Fr.app N0 N1q
    refine Go.by st1 ?_
    show Go _ _ _ _ T1 (mkF m 11 #[.val (.int p0), .val (.int (0 : Int32)), .unset, .unset] [(.ref c_OWNER)])
    refine Go.by (fun _ gk => XS.astoreN X1.here hx rfl (hb hby at_11) rfl rfl (l' := #[.val (.int p0), .val (.int (0 : Int32)), .val (.ref c_OWNER), .unset]) rfl gk) ?_
    show Go _ _ _ _ T1 (mkF m 12 #[.val (.int p0), .val (.int (0 : Int32)), .val (.ref c_OWNER), .unset] [])
    refine Go.by (fun _ gk => XS.iloadN X1.here hx rfl (hb hby at_12) rfl gk) ?_
    show Go _ _ _ _ T1 (mkF m 13 #[.val (.int p0), .val (.int (0 : Int32)), .val (.ref c_OWNER), .unset] [(.int (0 : Int32))])
    refine Go.by (fun _ gk => XT.iconstV X1.here hx rfl (2 : Int32) (hb hby at_13) (by decide) gk) ?_
    show Go _ _ _ _ T1 (mkF m 14 #[.val (.int p0), .val (.int (0 : Int32)), .val (.ref c_OWNER), .unset] [(.int (2 : Int32)), (.int (0 : Int32))])
    refine Go.by (fun _ gk => XS.icmpNo X1.here hx rfl (hb hby at_14) rfl (XT.ii_ge_f (by decide)) gk) ?_
    show Go _ _ _ _ T1 (mkF m 17 #[.val (.int p0), .val (.int (0 : Int32)), .val (.ref c_OWNER), .unset] [])
    refine Go.by (fun _ gk => XT.iconstV X1.here hx rfl (1 : Int32) (hb hby at_17) (by decide) gk) ?_
    show Go _ _ _ _ T1 (mkF m 18 #[.val (.int p0), .val (.int (0 : Int32)), .val (.ref c_OWNER), .unset] [(.int (1 : Int32))])
    refine Go.by (fun _ gk => XS.goto X1.here hx rfl (pc0 := 18) (pc' := 22) rfl (hb hby at_18) (by decide) (by decide) gk) ?_
    show Go _ _ _ _ T1 (mkF m 22 #[.val (.int p0), .val (.int (0 : Int32)), .val (.ref c_OWNER), .unset] [(.int (1 : Int32))])
    refine Go.by (fun _ gk => XS.istoreN X1.here hx rfl (hb hby at_22) rfl (l' := #[.val (.int p0), .val (.int (0 : Int32)), .val (.ref c_OWNER), .val (.int (1 : Int32))]) rfl gk) ?_
    show Go _ _ _ _ T1 (mkF m 23 #[.val (.int p0), .val (.int (0 : Int32)), .val (.ref c_OWNER), .val (.int (1 : Int32))] [])
    refine Go.by (fun _ gk => XS.aloadN X1.here hx rfl (hb hby at_23) rfl rfl gk) ?_
    show Go _ _ _ _ T1 (mkF m 24 #[.val (.int p0), .val (.int (0 : Int32)), .val (.ref c_OWNER), .val (.int (1 : Int32))] [(.ref c_OWNER)])
    have F3 : Exa Z h0 c_OWNER "com/example/entries_to_nodes/entriestonodes/pubsub/node/Affiliation" := E_c_OWNER.ext O0.2
    obtain ⟨cq2, kq2, q2a, q2b, q2c⟩ := isOf hZ e1 F3
    obtain ⟨_, _, ⟨T2, L2, k2, n2⟩, -, X2, ⟨Lc2, hQ2, l2, y2, z2⟩, st2⟩ := X1.virtualBack hx (y := (⟨"com/example/entries_to_nodes/entriestonodes/pubsub/node/Affiliation", "publishes", "()Z"⟩ : MethodName)) (z := (⟨"com/example/entries_to_nodes/entriestonodes/pubsub/node/Affiliation", "publishes", "()Z"⟩ : MethodName)) hown (mvT hZ (hw _ (List.mem_of_getElem? (i := 8) rfl))) (mvT hZ (hw _ (List.mem_of_getElem? (i := 9) rfl))) (notFace_of_selects (args := #[]) (mvT hZ (hw _ (List.mem_of_getElem? (i := 11) rfl)))) (mvT hZ (hw _ (List.mem_of_getElem? (i := 11) rfl))) (mvT hZ (hw _ (List.mem_of_getElem? (i := 10) rfl))) (by decide) (backOf (W := 0) (rm2 l Z a0 hw [] c_OWNER 1 c_OWNER c_PUBLISHER c_MEMBER c_NONE c_OUTCAST h0 n0 Z0 O0 S_c_OWNER E_c_OWNER O_c_OWNER S_c_PUBLISHER E_c_PUBLISHER O_c_PUBLISHER S_c_MEMBER E_c_MEMBER O_c_MEMBER S_c_NONE E_c_NONE O_c_NONE S_c_OUTCAST E_c_OUTCAST O_c_OUTCAST (Or.inl ⟨rfl, rfl⟩)) hZ (hw _ (List.mem_of_getElem? (i := 12) rfl)) (hw _ (List.mem_of_getElem? (i := 6) rfl)) (by decide) (by decide)) q2a q2c (g := (mkF m 24 #[.val (.int p0), .val (.int (0 : Int32)), .val (.ref c_OWNER), .val (.int (1 : Int32))] [(.ref c_OWNER)])) rfl (by rw [hml]; rfl) (Steps.refl _) (argsL := []) (rest := []) (lenOf pd_38 rfl) rfl (by show 2 * 0 + _ ≤ _; exact Nat.le_of_eq rfl) (hb hby at_24) (fun _ _ => ⟨rfl, e1, (by decide : 0 + 0 ≤ _), (by decide : 0 + 0 ≤ _)⟩)
    dsimp only [Pt.U, Pt.locs, Pt.cells, Pt.slots] at X2 l2 y2 z2 st2 hQ2
    subst l2 y2 z2
    obtain ⟨rfl, N2q, e2⟩ := hQ2
    have N2 := Fr.app N1 N2q
    refine Go.to st2 ?_
    show Go _ _ _ _ T2 (mkF m 27 #[.val (.int p0), .val (.int (0 : Int32)), .val (.ref c_OWNER), .val (.int (1 : Int32))] [(.int (1 : Int32))])
    refine Go.by (fun _ gk => XS.iloadN X2.here hx rfl (hb hby at_27) rfl gk) ?_
    show Go _ _ _ _ T2 (mkF m 28 #[.val (.int p0), .val (.int (0 : Int32)), .val (.ref c_OWNER), .val (.int (1 : Int32))] [(.int (1 : Int32)), (.int (1 : Int32))])
    refine Go.by (fun _ gk => XS.icmpNo X2.here hx rfl (hb hby at_28) rfl (XT.ii_ne_f rfl) gk) ?_
    show Go _ _ _ _ T2 (mkF m 31 #[.val (.int p0), .val (.int (0 : Int32)), .val (.ref c_OWNER), .val (.int (1 : Int32))] [])
    refine Go.by (fun _ gk => XT.iconstV X2.here hx rfl (1 : Int32) (hb hby at_31) (by decide) gk) ?_
    show Go _ _ _ _ T2 (mkF m 32 #[.val (.int p0), .val (.int (0 : Int32)), .val (.ref c_OWNER), .val (.int (1 : Int32))] [(.int (1 : Int32))])
    refine Go.by (fun _ gk => XS.goto X2.here hx rfl (pc0 := 32) (pc' := 36) rfl (hb hby at_32) (by decide) (by decide) gk) ?_
    show Go _ _ _ _ T2 (mkF m 36 #[.val (.int p0), .val (.int (0 : Int32)), .val (.ref c_OWNER), .val (.int (1 : Int32))] [(.int (1 : Int32))])
    exact Go.retI X2 hx Bd.notSynchronized Bd.returns rfl (by simp) (hb hby at_36) (by rw [e2]; exact ⟨rfl, N2⟩) (by decide) (by decide)
  · show Go _ _ _ _ s₁ (mkF m 7 #[.val (.int p0), .val (.int (1 : Int32)), .unset, .unset] [])
    refine Go.by (fun _ gk => XS.iloadN X0.here hx rfl (hb hby at_7) rfl gk) ?_
    show Go _ _ _ _ s₁ (mkF m 8 #[.val (.int p0), .val (.int (1 : Int32)), .unset, .unset] [(.int (1 : Int32))])
    obtain ⟨_, _, ⟨T4, L4, k4, n4⟩, -, X4, ⟨Lc4, hQ4, l4, y4, z4⟩, st4⟩ := Jvm.LawKit.callS X0 hx (y := (⟨"com/example/entries_to_nodes/entriestonodes/pubsub/node/AffiliationPublishesPinLaw", "pick", "(I)Lcom/example/entries_to_nodes/entriestonodes/pubsub/node/Affiliation;"⟩ : MethodName)) hown (mvT hZ (hw _ (List.mem_of_getElem? (i := 1) rfl))) (mvT hZ (hw _ (List.mem_of_getElem? (i := 2) rfl))) (mvT hZ (hw _ (List.mem_of_getElem? (i := 3) rfl))) (mvT hZ (hw _ (List.mem_of_getElem? (i := 4) rfl))) (by decide) (backOf (W := 0) (rm1 l Z a0 hw [] (1 : Int32) c_PUBLISHER c_OWNER c_PUBLISHER c_MEMBER c_NONE c_OUTCAST h0 n0 Z0 O0 S_c_OWNER E_c_OWNER O_c_OWNER S_c_PUBLISHER E_c_PUBLISHER O_c_PUBLISHER S_c_MEMBER E_c_MEMBER O_c_MEMBER S_c_NONE E_c_NONE O_c_NONE S_c_OUTCAST E_c_OUTCAST O_c_OUTCAST (Or.inr (Or.inl ⟨rfl, rfl⟩))) hZ (hw _ (List.mem_of_getElem? (i := 4) rfl)) (hw _ (List.mem_of_getElem? (i := 3) rfl)) (by decide) (by decide)) (g := (mkF m 8 #[.val (.int p0), .val (.int (1 : Int32)), .unset, .unset] [(.int (1 : Int32))])) rfl (by rw [hml]; rfl) (argsL := [(.int (1 : Int32))]) (rest := []) (lenOf pd_37 rfl) rfl (by show 2 * 0 + _ ≤ _; exact Nat.le_of_eq rfl) (hb hby at_8) (fun _ _ => ⟨rfl, e0, (by decide : 0 + 0 ≤ _), (by decide : 0 + 0 ≤ _)⟩)
    dsimp only [Pt.U, Pt.locs, Pt.cells, Pt.slots] at X4 l4 y4 z4 st4 hQ4
    subst l4 y4 z4
    obtain ⟨rfl, N4q, e4⟩ := hQ4
    have N4 := Fr.app N0 N4q
    refine Go.by st4 ?_
    show Go _ _ _ _ T4 (mkF m 11 #[.val (.int p0), .val (.int (1 : Int32)), .unset, .unset] [(.ref c_PUBLISHER)])
    refine Go.by (fun _ gk => XS.astoreN X4.here hx rfl (hb hby at_11) rfl rfl (l' := #[.val (.int p0), .val (.int (1 : Int32)), .val (.ref c_PUBLISHER), .unset]) rfl gk) ?_
    show Go _ _ _ _ T4 (mkF m 12 #[.val (.int p0), .val (.int (1 : Int32)), .val (.ref c_PUBLISHER), .unset] [])
    refine Go.by (fun _ gk => XS.iloadN X4.here hx rfl (hb hby at_12) rfl gk) ?_
    show Go _ _ _ _ T4 (mkF m 13 #[.val (.int p0), .val (.int (1 : Int32)), .val (.ref c_PUBLISHER), .unset] [(.int (1 : Int32))])
    refine Go.by (fun _ gk => XT.iconstV X4.here hx rfl (2 : Int32) (hb hby at_13) (by decide) gk) ?_
    show Go _ _ _ _ T4 (mkF m 14 #[.val (.int p0), .val (.int (1 : Int32)), .val (.ref c_PUBLISHER), .unset] [(.int (2 : Int32)), (.int (1 : Int32))])
    refine Go.by (fun _ gk => XS.icmpNo X4.here hx rfl (hb hby at_14) rfl (XT.ii_ge_f (by decide)) gk) ?_
    show Go _ _ _ _ T4 (mkF m 17 #[.val (.int p0), .val (.int (1 : Int32)), .val (.ref c_PUBLISHER), .unset] [])
    refine Go.by (fun _ gk => XT.iconstV X4.here hx rfl (1 : Int32) (hb hby at_17) (by decide) gk) ?_
    show Go _ _ _ _ T4 (mkF m 18 #[.val (.int p0), .val (.int (1 : Int32)), .val (.ref c_PUBLISHER), .unset] [(.int (1 : Int32))])
    refine Go.by (fun _ gk => XS.goto X4.here hx rfl (pc0 := 18) (pc' := 22) rfl (hb hby at_18) (by decide) (by decide) gk) ?_
    show Go _ _ _ _ T4 (mkF m 22 #[.val (.int p0), .val (.int (1 : Int32)), .val (.ref c_PUBLISHER), .unset] [(.int (1 : Int32))])
    refine Go.by (fun _ gk => XS.istoreN X4.here hx rfl (hb hby at_22) rfl (l' := #[.val (.int p0), .val (.int (1 : Int32)), .val (.ref c_PUBLISHER), .val (.int (1 : Int32))]) rfl gk) ?_
    show Go _ _ _ _ T4 (mkF m 23 #[.val (.int p0), .val (.int (1 : Int32)), .val (.ref c_PUBLISHER), .val (.int (1 : Int32))] [])
    refine Go.by (fun _ gk => XS.aloadN X4.here hx rfl (hb hby at_23) rfl rfl gk) ?_
    show Go _ _ _ _ T4 (mkF m 24 #[.val (.int p0), .val (.int (1 : Int32)), .val (.ref c_PUBLISHER), .val (.int (1 : Int32))] [(.ref c_PUBLISHER)])
    have F6 : Exa Z h0 c_PUBLISHER "com/example/entries_to_nodes/entriestonodes/pubsub/node/Affiliation" := E_c_PUBLISHER.ext O0.2
    obtain ⟨cq5, kq5, q5a, q5b, q5c⟩ := isOf hZ e4 F6
    obtain ⟨_, _, ⟨T5, L5, k5, n5⟩, -, X5, ⟨Lc5, hQ5, l5, y5, z5⟩, st5⟩ := X4.virtualBack hx (y := (⟨"com/example/entries_to_nodes/entriestonodes/pubsub/node/Affiliation", "publishes", "()Z"⟩ : MethodName)) (z := (⟨"com/example/entries_to_nodes/entriestonodes/pubsub/node/Affiliation", "publishes", "()Z"⟩ : MethodName)) hown (mvT hZ (hw _ (List.mem_of_getElem? (i := 8) rfl))) (mvT hZ (hw _ (List.mem_of_getElem? (i := 9) rfl))) (notFace_of_selects (args := #[]) (mvT hZ (hw _ (List.mem_of_getElem? (i := 11) rfl)))) (mvT hZ (hw _ (List.mem_of_getElem? (i := 11) rfl))) (mvT hZ (hw _ (List.mem_of_getElem? (i := 10) rfl))) (by decide) (backOf (W := 0) (rm2 l Z a0 hw [] c_PUBLISHER 1 c_OWNER c_PUBLISHER c_MEMBER c_NONE c_OUTCAST h0 n0 Z0 O0 S_c_OWNER E_c_OWNER O_c_OWNER S_c_PUBLISHER E_c_PUBLISHER O_c_PUBLISHER S_c_MEMBER E_c_MEMBER O_c_MEMBER S_c_NONE E_c_NONE O_c_NONE S_c_OUTCAST E_c_OUTCAST O_c_OUTCAST (Or.inr (Or.inl ⟨rfl, rfl⟩))) hZ (hw _ (List.mem_of_getElem? (i := 12) rfl)) (hw _ (List.mem_of_getElem? (i := 6) rfl)) (by decide) (by decide)) q5a q5c (g := (mkF m 24 #[.val (.int p0), .val (.int (1 : Int32)), .val (.ref c_PUBLISHER), .val (.int (1 : Int32))] [(.ref c_PUBLISHER)])) rfl (by rw [hml]; rfl) (Steps.refl _) (argsL := []) (rest := []) (lenOf pd_38 rfl) rfl (by show 2 * 0 + _ ≤ _; exact Nat.le_of_eq rfl) (hb hby at_24) (fun _ _ => ⟨rfl, e4, (by decide : 0 + 0 ≤ _), (by decide : 0 + 0 ≤ _)⟩)
    dsimp only [Pt.U, Pt.locs, Pt.cells, Pt.slots] at X5 l5 y5 z5 st5 hQ5
    subst l5 y5 z5
    obtain ⟨rfl, N5q, e5⟩ := hQ5
    have N5 := Fr.app N4 N5q
    refine Go.to st5 ?_
    show Go _ _ _ _ T5 (mkF m 27 #[.val (.int p0), .val (.int (1 : Int32)), .val (.ref c_PUBLISHER), .val (.int (1 : Int32))] [(.int (1 : Int32))])
    refine Go.by (fun _ gk => XS.iloadN X5.here hx rfl (hb hby at_27) rfl gk) ?_
    show Go _ _ _ _ T5 (mkF m 28 #[.val (.int p0), .val (.int (1 : Int32)), .val (.ref c_PUBLISHER), .val (.int (1 : Int32))] [(.int (1 : Int32)), (.int (1 : Int32))])
    refine Go.by (fun _ gk => XS.icmpNo X5.here hx rfl (hb hby at_28) rfl (XT.ii_ne_f rfl) gk) ?_
    show Go _ _ _ _ T5 (mkF m 31 #[.val (.int p0), .val (.int (1 : Int32)), .val (.ref c_PUBLISHER), .val (.int (1 : Int32))] [])
    refine Go.by (fun _ gk => XT.iconstV X5.here hx rfl (1 : Int32) (hb hby at_31) (by decide) gk) ?_
    show Go _ _ _ _ T5 (mkF m 32 #[.val (.int p0), .val (.int (1 : Int32)), .val (.ref c_PUBLISHER), .val (.int (1 : Int32))] [(.int (1 : Int32))])
    refine Go.by (fun _ gk => XS.goto X5.here hx rfl (pc0 := 32) (pc' := 36) rfl (hb hby at_32) (by decide) (by decide) gk) ?_
    show Go _ _ _ _ T5 (mkF m 36 #[.val (.int p0), .val (.int (1 : Int32)), .val (.ref c_PUBLISHER), .val (.int (1 : Int32))] [(.int (1 : Int32))])
    exact Go.retI X5 hx Bd.notSynchronized Bd.returns rfl (by simp) (hb hby at_36) (by rw [e5]; exact ⟨rfl, N5⟩) (by decide) (by decide)
  · show Go _ _ _ _ s₁ (mkF m 7 #[.val (.int p0), .val (.int (2 : Int32)), .unset, .unset] [])
    refine Go.by (fun _ gk => XS.iloadN X0.here hx rfl (hb hby at_7) rfl gk) ?_
    show Go _ _ _ _ s₁ (mkF m 8 #[.val (.int p0), .val (.int (2 : Int32)), .unset, .unset] [(.int (2 : Int32))])
    obtain ⟨_, _, ⟨T7, L7, k7, n7⟩, -, X7, ⟨Lc7, hQ7, l7, y7, z7⟩, st7⟩ := Jvm.LawKit.callS X0 hx (y := (⟨"com/example/entries_to_nodes/entriestonodes/pubsub/node/AffiliationPublishesPinLaw", "pick", "(I)Lcom/example/entries_to_nodes/entriestonodes/pubsub/node/Affiliation;"⟩ : MethodName)) hown (mvT hZ (hw _ (List.mem_of_getElem? (i := 1) rfl))) (mvT hZ (hw _ (List.mem_of_getElem? (i := 2) rfl))) (mvT hZ (hw _ (List.mem_of_getElem? (i := 3) rfl))) (mvT hZ (hw _ (List.mem_of_getElem? (i := 4) rfl))) (by decide) (backOf (W := 0) (rm1 l Z a0 hw [] (2 : Int32) c_MEMBER c_OWNER c_PUBLISHER c_MEMBER c_NONE c_OUTCAST h0 n0 Z0 O0 S_c_OWNER E_c_OWNER O_c_OWNER S_c_PUBLISHER E_c_PUBLISHER O_c_PUBLISHER S_c_MEMBER E_c_MEMBER O_c_MEMBER S_c_NONE E_c_NONE O_c_NONE S_c_OUTCAST E_c_OUTCAST O_c_OUTCAST (Or.inr (Or.inr (Or.inl ⟨rfl, rfl⟩)))) hZ (hw _ (List.mem_of_getElem? (i := 4) rfl)) (hw _ (List.mem_of_getElem? (i := 3) rfl)) (by decide) (by decide)) (g := (mkF m 8 #[.val (.int p0), .val (.int (2 : Int32)), .unset, .unset] [(.int (2 : Int32))])) rfl (by rw [hml]; rfl) (argsL := [(.int (2 : Int32))]) (rest := []) (lenOf pd_37 rfl) rfl (by show 2 * 0 + _ ≤ _; exact Nat.le_of_eq rfl) (hb hby at_8) (fun _ _ => ⟨rfl, e0, (by decide : 0 + 0 ≤ _), (by decide : 0 + 0 ≤ _)⟩)
    dsimp only [Pt.U, Pt.locs, Pt.cells, Pt.slots] at X7 l7 y7 z7 st7 hQ7
    subst l7 y7 z7
    obtain ⟨rfl, N7q, e7⟩ := hQ7
    have N7 := Fr.app N0 N7q
    refine Go.by st7 ?_
    show Go _ _ _ _ T7 (mkF m 11 #[.val (.int p0), .val (.int (2 : Int32)), .unset, .unset] [(.ref c_MEMBER)])
    refine Go.by (fun _ gk => XS.astoreN X7.here hx rfl (hb hby at_11) rfl rfl (l' := #[.val (.int p0), .val (.int (2 : Int32)), .val (.ref c_MEMBER), .unset]) rfl gk) ?_
    show Go _ _ _ _ T7 (mkF m 12 #[.val (.int p0), .val (.int (2 : Int32)), .val (.ref c_MEMBER), .unset] [])
    refine Go.by (fun _ gk => XS.iloadN X7.here hx rfl (hb hby at_12) rfl gk) ?_
    show Go _ _ _ _ T7 (mkF m 13 #[.val (.int p0), .val (.int (2 : Int32)), .val (.ref c_MEMBER), .unset] [(.int (2 : Int32))])
    refine Go.by (fun _ gk => XT.iconstV X7.here hx rfl (2 : Int32) (hb hby at_13) (by decide) gk) ?_
    show Go _ _ _ _ T7 (mkF m 14 #[.val (.int p0), .val (.int (2 : Int32)), .val (.ref c_MEMBER), .unset] [(.int (2 : Int32)), (.int (2 : Int32))])
    refine Go.by (fun _ gk => XS.icmpYes X7.here hx rfl (pc0 := 14) (pc' := 21) rfl (hb hby at_14) rfl (XT.ii_ge_t (by decide)) (by decide) (by decide) gk) ?_
    show Go _ _ _ _ T7 (mkF m 21 #[.val (.int p0), .val (.int (2 : Int32)), .val (.ref c_MEMBER), .unset] [])
    refine Go.by (fun _ gk => XT.iconstV X7.here hx rfl (0 : Int32) (hb hby at_21) (by decide) gk) ?_
    show Go _ _ _ _ T7 (mkF m 22 #[.val (.int p0), .val (.int (2 : Int32)), .val (.ref c_MEMBER), .unset] [(.int (0 : Int32))])
    refine Go.by (fun _ gk => XS.istoreN X7.here hx rfl (hb hby at_22) rfl (l' := #[.val (.int p0), .val (.int (2 : Int32)), .val (.ref c_MEMBER), .val (.int (0 : Int32))]) rfl gk) ?_
    show Go _ _ _ _ T7 (mkF m 23 #[.val (.int p0), .val (.int (2 : Int32)), .val (.ref c_MEMBER), .val (.int (0 : Int32))] [])
    refine Go.by (fun _ gk => XS.aloadN X7.here hx rfl (hb hby at_23) rfl rfl gk) ?_
    show Go _ _ _ _ T7 (mkF m 24 #[.val (.int p0), .val (.int (2 : Int32)), .val (.ref c_MEMBER), .val (.int (0 : Int32))] [(.ref c_MEMBER)])
    have F9 : Exa Z h0 c_MEMBER "com/example/entries_to_nodes/entriestonodes/pubsub/node/Affiliation" := E_c_MEMBER.ext O0.2
    obtain ⟨cq8, kq8, q8a, q8b, q8c⟩ := isOf hZ e7 F9
    obtain ⟨_, _, ⟨T8, L8, k8, n8⟩, -, X8, ⟨Lc8, hQ8, l8, y8, z8⟩, st8⟩ := X7.virtualBack hx (y := (⟨"com/example/entries_to_nodes/entriestonodes/pubsub/node/Affiliation", "publishes", "()Z"⟩ : MethodName)) (z := (⟨"com/example/entries_to_nodes/entriestonodes/pubsub/node/Affiliation", "publishes", "()Z"⟩ : MethodName)) hown (mvT hZ (hw _ (List.mem_of_getElem? (i := 8) rfl))) (mvT hZ (hw _ (List.mem_of_getElem? (i := 9) rfl))) (notFace_of_selects (args := #[]) (mvT hZ (hw _ (List.mem_of_getElem? (i := 11) rfl)))) (mvT hZ (hw _ (List.mem_of_getElem? (i := 11) rfl))) (mvT hZ (hw _ (List.mem_of_getElem? (i := 10) rfl))) (by decide) (backOf (W := 0) (rm2 l Z a0 hw [] c_MEMBER 0 c_OWNER c_PUBLISHER c_MEMBER c_NONE c_OUTCAST h0 n0 Z0 O0 S_c_OWNER E_c_OWNER O_c_OWNER S_c_PUBLISHER E_c_PUBLISHER O_c_PUBLISHER S_c_MEMBER E_c_MEMBER O_c_MEMBER S_c_NONE E_c_NONE O_c_NONE S_c_OUTCAST E_c_OUTCAST O_c_OUTCAST (Or.inr (Or.inr (Or.inl ⟨rfl, rfl⟩)))) hZ (hw _ (List.mem_of_getElem? (i := 12) rfl)) (hw _ (List.mem_of_getElem? (i := 6) rfl)) (by decide) (by decide)) q8a q8c (g := (mkF m 24 #[.val (.int p0), .val (.int (2 : Int32)), .val (.ref c_MEMBER), .val (.int (0 : Int32))] [(.ref c_MEMBER)])) rfl (by rw [hml]; rfl) (Steps.refl _) (argsL := []) (rest := []) (lenOf pd_38 rfl) rfl (by show 2 * 0 + _ ≤ _; exact Nat.le_of_eq rfl) (hb hby at_24) (fun _ _ => ⟨rfl, e7, (by decide : 0 + 0 ≤ _), (by decide : 0 + 0 ≤ _)⟩)
    dsimp only [Pt.U, Pt.locs, Pt.cells, Pt.slots] at X8 l8 y8 z8 st8 hQ8
    subst l8 y8 z8
    obtain ⟨rfl, N8q, e8⟩ := hQ8
    have N8 := Fr.app N7 N8q
    refine Go.to st8 ?_
    show Go _ _ _ _ T8 (mkF m 27 #[.val (.int p0), .val (.int (2 : Int32)), .val (.ref c_MEMBER), .val (.int (0 : Int32))] [(.int (0 : Int32))])
    refine Go.by (fun _ gk => XS.iloadN X8.here hx rfl (hb hby at_27) rfl gk) ?_
    show Go _ _ _ _ T8 (mkF m 28 #[.val (.int p0), .val (.int (2 : Int32)), .val (.ref c_MEMBER), .val (.int (0 : Int32))] [(.int (0 : Int32)), (.int (0 : Int32))])
    refine Go.by (fun _ gk => XS.icmpNo X8.here hx rfl (hb hby at_28) rfl (XT.ii_ne_f rfl) gk) ?_
    show Go _ _ _ _ T8 (mkF m 31 #[.val (.int p0), .val (.int (2 : Int32)), .val (.ref c_MEMBER), .val (.int (0 : Int32))] [])
    refine Go.by (fun _ gk => XT.iconstV X8.here hx rfl (1 : Int32) (hb hby at_31) (by decide) gk) ?_
    show Go _ _ _ _ T8 (mkF m 32 #[.val (.int p0), .val (.int (2 : Int32)), .val (.ref c_MEMBER), .val (.int (0 : Int32))] [(.int (1 : Int32))])
    refine Go.by (fun _ gk => XS.goto X8.here hx rfl (pc0 := 32) (pc' := 36) rfl (hb hby at_32) (by decide) (by decide) gk) ?_
    show Go _ _ _ _ T8 (mkF m 36 #[.val (.int p0), .val (.int (2 : Int32)), .val (.ref c_MEMBER), .val (.int (0 : Int32))] [(.int (1 : Int32))])
    exact Go.retI X8 hx Bd.notSynchronized Bd.returns rfl (by simp) (hb hby at_36) (by rw [e8]; exact ⟨rfl, N8⟩) (by decide) (by decide)
  · show Go _ _ _ _ s₁ (mkF m 7 #[.val (.int p0), .val (.int (3 : Int32)), .unset, .unset] [])
    refine Go.by (fun _ gk => XS.iloadN X0.here hx rfl (hb hby at_7) rfl gk) ?_
    show Go _ _ _ _ s₁ (mkF m 8 #[.val (.int p0), .val (.int (3 : Int32)), .unset, .unset] [(.int (3 : Int32))])
    obtain ⟨_, _, ⟨T10, L10, k10, n10⟩, -, X10, ⟨Lc10, hQ10, l10, y10, z10⟩, st10⟩ := Jvm.LawKit.callS X0 hx (y := (⟨"com/example/entries_to_nodes/entriestonodes/pubsub/node/AffiliationPublishesPinLaw", "pick", "(I)Lcom/example/entries_to_nodes/entriestonodes/pubsub/node/Affiliation;"⟩ : MethodName)) hown (mvT hZ (hw _ (List.mem_of_getElem? (i := 1) rfl))) (mvT hZ (hw _ (List.mem_of_getElem? (i := 2) rfl))) (mvT hZ (hw _ (List.mem_of_getElem? (i := 3) rfl))) (mvT hZ (hw _ (List.mem_of_getElem? (i := 4) rfl))) (by decide) (backOf (W := 0) (rm1 l Z a0 hw [] (3 : Int32) c_NONE c_OWNER c_PUBLISHER c_MEMBER c_NONE c_OUTCAST h0 n0 Z0 O0 S_c_OWNER E_c_OWNER O_c_OWNER S_c_PUBLISHER E_c_PUBLISHER O_c_PUBLISHER S_c_MEMBER E_c_MEMBER O_c_MEMBER S_c_NONE E_c_NONE O_c_NONE S_c_OUTCAST E_c_OUTCAST O_c_OUTCAST (Or.inr (Or.inr (Or.inr (Or.inl ⟨rfl, rfl⟩))))) hZ (hw _ (List.mem_of_getElem? (i := 4) rfl)) (hw _ (List.mem_of_getElem? (i := 3) rfl)) (by decide) (by decide)) (g := (mkF m 8 #[.val (.int p0), .val (.int (3 : Int32)), .unset, .unset] [(.int (3 : Int32))])) rfl (by rw [hml]; rfl) (argsL := [(.int (3 : Int32))]) (rest := []) (lenOf pd_37 rfl) rfl (by show 2 * 0 + _ ≤ _; exact Nat.le_of_eq rfl) (hb hby at_8) (fun _ _ => ⟨rfl, e0, (by decide : 0 + 0 ≤ _), (by decide : 0 + 0 ≤ _)⟩)
    dsimp only [Pt.U, Pt.locs, Pt.cells, Pt.slots] at X10 l10 y10 z10 st10 hQ10
    subst l10 y10 z10
    obtain ⟨rfl, N10q, e10⟩ := hQ10
    have N10 := Fr.app N0 N10q
    refine Go.by st10 ?_
    show Go _ _ _ _ T10 (mkF m 11 #[.val (.int p0), .val (.int (3 : Int32)), .unset, .unset] [(.ref c_NONE)])
    refine Go.by (fun _ gk => XS.astoreN X10.here hx rfl (hb hby at_11) rfl rfl (l' := #[.val (.int p0), .val (.int (3 : Int32)), .val (.ref c_NONE), .unset]) rfl gk) ?_
    show Go _ _ _ _ T10 (mkF m 12 #[.val (.int p0), .val (.int (3 : Int32)), .val (.ref c_NONE), .unset] [])
    refine Go.by (fun _ gk => XS.iloadN X10.here hx rfl (hb hby at_12) rfl gk) ?_
    show Go _ _ _ _ T10 (mkF m 13 #[.val (.int p0), .val (.int (3 : Int32)), .val (.ref c_NONE), .unset] [(.int (3 : Int32))])
    refine Go.by (fun _ gk => XT.iconstV X10.here hx rfl (2 : Int32) (hb hby at_13) (by decide) gk) ?_
    show Go _ _ _ _ T10 (mkF m 14 #[.val (.int p0), .val (.int (3 : Int32)), .val (.ref c_NONE), .unset] [(.int (2 : Int32)), (.int (3 : Int32))])
    refine Go.by (fun _ gk => XS.icmpYes X10.here hx rfl (pc0 := 14) (pc' := 21) rfl (hb hby at_14) rfl (XT.ii_ge_t (by decide)) (by decide) (by decide) gk) ?_
    show Go _ _ _ _ T10 (mkF m 21 #[.val (.int p0), .val (.int (3 : Int32)), .val (.ref c_NONE), .unset] [])
    refine Go.by (fun _ gk => XT.iconstV X10.here hx rfl (0 : Int32) (hb hby at_21) (by decide) gk) ?_
    show Go _ _ _ _ T10 (mkF m 22 #[.val (.int p0), .val (.int (3 : Int32)), .val (.ref c_NONE), .unset] [(.int (0 : Int32))])
    refine Go.by (fun _ gk => XS.istoreN X10.here hx rfl (hb hby at_22) rfl (l' := #[.val (.int p0), .val (.int (3 : Int32)), .val (.ref c_NONE), .val (.int (0 : Int32))]) rfl gk) ?_
    show Go _ _ _ _ T10 (mkF m 23 #[.val (.int p0), .val (.int (3 : Int32)), .val (.ref c_NONE), .val (.int (0 : Int32))] [])
    refine Go.by (fun _ gk => XS.aloadN X10.here hx rfl (hb hby at_23) rfl rfl gk) ?_
    show Go _ _ _ _ T10 (mkF m 24 #[.val (.int p0), .val (.int (3 : Int32)), .val (.ref c_NONE), .val (.int (0 : Int32))] [(.ref c_NONE)])
    have F12 : Exa Z h0 c_NONE "com/example/entries_to_nodes/entriestonodes/pubsub/node/Affiliation" := E_c_NONE.ext O0.2
    obtain ⟨cq11, kq11, q11a, q11b, q11c⟩ := isOf hZ e10 F12
    obtain ⟨_, _, ⟨T11, L11, k11, n11⟩, -, X11, ⟨Lc11, hQ11, l11, y11, z11⟩, st11⟩ := X10.virtualBack hx (y := (⟨"com/example/entries_to_nodes/entriestonodes/pubsub/node/Affiliation", "publishes", "()Z"⟩ : MethodName)) (z := (⟨"com/example/entries_to_nodes/entriestonodes/pubsub/node/Affiliation", "publishes", "()Z"⟩ : MethodName)) hown (mvT hZ (hw _ (List.mem_of_getElem? (i := 8) rfl))) (mvT hZ (hw _ (List.mem_of_getElem? (i := 9) rfl))) (notFace_of_selects (args := #[]) (mvT hZ (hw _ (List.mem_of_getElem? (i := 11) rfl)))) (mvT hZ (hw _ (List.mem_of_getElem? (i := 11) rfl))) (mvT hZ (hw _ (List.mem_of_getElem? (i := 10) rfl))) (by decide) (backOf (W := 0) (rm2 l Z a0 hw [] c_NONE 0 c_OWNER c_PUBLISHER c_MEMBER c_NONE c_OUTCAST h0 n0 Z0 O0 S_c_OWNER E_c_OWNER O_c_OWNER S_c_PUBLISHER E_c_PUBLISHER O_c_PUBLISHER S_c_MEMBER E_c_MEMBER O_c_MEMBER S_c_NONE E_c_NONE O_c_NONE S_c_OUTCAST E_c_OUTCAST O_c_OUTCAST (Or.inr (Or.inr (Or.inr (Or.inl ⟨rfl, rfl⟩))))) hZ (hw _ (List.mem_of_getElem? (i := 12) rfl)) (hw _ (List.mem_of_getElem? (i := 6) rfl)) (by decide) (by decide)) q11a q11c (g := (mkF m 24 #[.val (.int p0), .val (.int (3 : Int32)), .val (.ref c_NONE), .val (.int (0 : Int32))] [(.ref c_NONE)])) rfl (by rw [hml]; rfl) (Steps.refl _) (argsL := []) (rest := []) (lenOf pd_38 rfl) rfl (by show 2 * 0 + _ ≤ _; exact Nat.le_of_eq rfl) (hb hby at_24) (fun _ _ => ⟨rfl, e10, (by decide : 0 + 0 ≤ _), (by decide : 0 + 0 ≤ _)⟩)
    dsimp only [Pt.U, Pt.locs, Pt.cells, Pt.slots] at X11 l11 y11 z11 st11 hQ11
    subst l11 y11 z11
    obtain ⟨rfl, N11q, e11⟩ := hQ11
    have N11 := Fr.app N10 N11q
    refine Go.to st11 ?_
    show Go _ _ _ _ T11 (mkF m 27 #[.val (.int p0), .val (.int (3 : Int32)), .val (.ref c_NONE), .val (.int (0 : Int32))] [(.int (0 : Int32))])
    refine Go.by (fun _ gk => XS.iloadN X11.here hx rfl (hb hby at_27) rfl gk) ?_
    show Go _ _ _ _ T11 (mkF m 28 #[.val (.int p0), .val (.int (3 : Int32)), .val (.ref c_NONE), .val (.int (0 : Int32))] [(.int (0 : Int32)), (.int (0 : Int32))])
    refine Go.by (fun _ gk => XS.icmpNo X11.here hx rfl (hb hby at_28) rfl (XT.ii_ne_f rfl) gk) ?_
    show Go _ _ _ _ T11 (mkF m 31 #[.val (.int p0), .val (.int (3 : Int32)), .val (.ref c_NONE), .val (.int (0 : Int32))] [])
    refine Go.by (fun _ gk => XT.iconstV X11.here hx rfl (1 : Int32) (hb hby at_31) (by decide) gk) ?_
    show Go _ _ _ _ T11 (mkF m 32 #[.val (.int p0), .val (.int (3 : Int32)), .val (.ref c_NONE), .val (.int (0 : Int32))] [(.int (1 : Int32))])
    refine Go.by (fun _ gk => XS.goto X11.here hx rfl (pc0 := 32) (pc' := 36) rfl (hb hby at_32) (by decide) (by decide) gk) ?_
    show Go _ _ _ _ T11 (mkF m 36 #[.val (.int p0), .val (.int (3 : Int32)), .val (.ref c_NONE), .val (.int (0 : Int32))] [(.int (1 : Int32))])
    exact Go.retI X11 hx Bd.notSynchronized Bd.returns rfl (by simp) (hb hby at_36) (by rw [e11]; exact ⟨rfl, N11⟩) (by decide) (by decide)
  · show Go _ _ _ _ s₁ (mkF m 7 #[.val (.int p0), .val (.int (4 : Int32)), .unset, .unset] [])
    refine Go.by (fun _ gk => XS.iloadN X0.here hx rfl (hb hby at_7) rfl gk) ?_
    show Go _ _ _ _ s₁ (mkF m 8 #[.val (.int p0), .val (.int (4 : Int32)), .unset, .unset] [(.int (4 : Int32))])
    obtain ⟨_, _, ⟨T13, L13, k13, n13⟩, -, X13, ⟨Lc13, hQ13, l13, y13, z13⟩, st13⟩ := Jvm.LawKit.callS X0 hx (y := (⟨"com/example/entries_to_nodes/entriestonodes/pubsub/node/AffiliationPublishesPinLaw", "pick", "(I)Lcom/example/entries_to_nodes/entriestonodes/pubsub/node/Affiliation;"⟩ : MethodName)) hown (mvT hZ (hw _ (List.mem_of_getElem? (i := 1) rfl))) (mvT hZ (hw _ (List.mem_of_getElem? (i := 2) rfl))) (mvT hZ (hw _ (List.mem_of_getElem? (i := 3) rfl))) (mvT hZ (hw _ (List.mem_of_getElem? (i := 4) rfl))) (by decide) (backOf (W := 0) (rm1 l Z a0 hw [] (4 : Int32) c_OUTCAST c_OWNER c_PUBLISHER c_MEMBER c_NONE c_OUTCAST h0 n0 Z0 O0 S_c_OWNER E_c_OWNER O_c_OWNER S_c_PUBLISHER E_c_PUBLISHER O_c_PUBLISHER S_c_MEMBER E_c_MEMBER O_c_MEMBER S_c_NONE E_c_NONE O_c_NONE S_c_OUTCAST E_c_OUTCAST O_c_OUTCAST (Or.inr (Or.inr (Or.inr (Or.inr (⟨rfl, rfl⟩)))))) hZ (hw _ (List.mem_of_getElem? (i := 4) rfl)) (hw _ (List.mem_of_getElem? (i := 3) rfl)) (by decide) (by decide)) (g := (mkF m 8 #[.val (.int p0), .val (.int (4 : Int32)), .unset, .unset] [(.int (4 : Int32))])) rfl (by rw [hml]; rfl) (argsL := [(.int (4 : Int32))]) (rest := []) (lenOf pd_37 rfl) rfl (by show 2 * 0 + _ ≤ _; exact Nat.le_of_eq rfl) (hb hby at_8) (fun _ _ => ⟨rfl, e0, (by decide : 0 + 0 ≤ _), (by decide : 0 + 0 ≤ _)⟩)
    dsimp only [Pt.U, Pt.locs, Pt.cells, Pt.slots] at X13 l13 y13 z13 st13 hQ13
    subst l13 y13 z13
    obtain ⟨rfl, N13q, e13⟩ := hQ13
    have N13 := Fr.app N0 N13q
    refine Go.by st13 ?_
    show Go _ _ _ _ T13 (mkF m 11 #[.val (.int p0), .val (.int (4 : Int32)), .unset, .unset] [(.ref c_OUTCAST)])
    refine Go.by (fun _ gk => XS.astoreN X13.here hx rfl (hb hby at_11) rfl rfl (l' := #[.val (.int p0), .val (.int (4 : Int32)), .val (.ref c_OUTCAST), .unset]) rfl gk) ?_
    show Go _ _ _ _ T13 (mkF m 12 #[.val (.int p0), .val (.int (4 : Int32)), .val (.ref c_OUTCAST), .unset] [])
    refine Go.by (fun _ gk => XS.iloadN X13.here hx rfl (hb hby at_12) rfl gk) ?_
    show Go _ _ _ _ T13 (mkF m 13 #[.val (.int p0), .val (.int (4 : Int32)), .val (.ref c_OUTCAST), .unset] [(.int (4 : Int32))])
    refine Go.by (fun _ gk => XT.iconstV X13.here hx rfl (2 : Int32) (hb hby at_13) (by decide) gk) ?_
    show Go _ _ _ _ T13 (mkF m 14 #[.val (.int p0), .val (.int (4 : Int32)), .val (.ref c_OUTCAST), .unset] [(.int (2 : Int32)), (.int (4 : Int32))])
    refine Go.by (fun _ gk => XS.icmpYes X13.here hx rfl (pc0 := 14) (pc' := 21) rfl (hb hby at_14) rfl (XT.ii_ge_t (by decide)) (by decide) (by decide) gk) ?_
    show Go _ _ _ _ T13 (mkF m 21 #[.val (.int p0), .val (.int (4 : Int32)), .val (.ref c_OUTCAST), .unset] [])
    refine Go.by (fun _ gk => XT.iconstV X13.here hx rfl (0 : Int32) (hb hby at_21) (by decide) gk) ?_
    show Go _ _ _ _ T13 (mkF m 22 #[.val (.int p0), .val (.int (4 : Int32)), .val (.ref c_OUTCAST), .unset] [(.int (0 : Int32))])
    refine Go.by (fun _ gk => XS.istoreN X13.here hx rfl (hb hby at_22) rfl (l' := #[.val (.int p0), .val (.int (4 : Int32)), .val (.ref c_OUTCAST), .val (.int (0 : Int32))]) rfl gk) ?_
    show Go _ _ _ _ T13 (mkF m 23 #[.val (.int p0), .val (.int (4 : Int32)), .val (.ref c_OUTCAST), .val (.int (0 : Int32))] [])
    refine Go.by (fun _ gk => XS.aloadN X13.here hx rfl (hb hby at_23) rfl rfl gk) ?_
    show Go _ _ _ _ T13 (mkF m 24 #[.val (.int p0), .val (.int (4 : Int32)), .val (.ref c_OUTCAST), .val (.int (0 : Int32))] [(.ref c_OUTCAST)])
    have F15 : Exa Z h0 c_OUTCAST "com/example/entries_to_nodes/entriestonodes/pubsub/node/Affiliation" := E_c_OUTCAST.ext O0.2
    obtain ⟨cq14, kq14, q14a, q14b, q14c⟩ := isOf hZ e13 F15
    obtain ⟨_, _, ⟨T14, L14, k14, n14⟩, -, X14, ⟨Lc14, hQ14, l14, y14, z14⟩, st14⟩ := X13.virtualBack hx (y := (⟨"com/example/entries_to_nodes/entriestonodes/pubsub/node/Affiliation", "publishes", "()Z"⟩ : MethodName)) (z := (⟨"com/example/entries_to_nodes/entriestonodes/pubsub/node/Affiliation", "publishes", "()Z"⟩ : MethodName)) hown (mvT hZ (hw _ (List.mem_of_getElem? (i := 8) rfl))) (mvT hZ (hw _ (List.mem_of_getElem? (i := 9) rfl))) (notFace_of_selects (args := #[]) (mvT hZ (hw _ (List.mem_of_getElem? (i := 11) rfl)))) (mvT hZ (hw _ (List.mem_of_getElem? (i := 11) rfl))) (mvT hZ (hw _ (List.mem_of_getElem? (i := 10) rfl))) (by decide) (backOf (W := 0) (rm2 l Z a0 hw [] c_OUTCAST 0 c_OWNER c_PUBLISHER c_MEMBER c_NONE c_OUTCAST h0 n0 Z0 O0 S_c_OWNER E_c_OWNER O_c_OWNER S_c_PUBLISHER E_c_PUBLISHER O_c_PUBLISHER S_c_MEMBER E_c_MEMBER O_c_MEMBER S_c_NONE E_c_NONE O_c_NONE S_c_OUTCAST E_c_OUTCAST O_c_OUTCAST (Or.inr (Or.inr (Or.inr (Or.inr (⟨rfl, rfl⟩)))))) hZ (hw _ (List.mem_of_getElem? (i := 12) rfl)) (hw _ (List.mem_of_getElem? (i := 6) rfl)) (by decide) (by decide)) q14a q14c (g := (mkF m 24 #[.val (.int p0), .val (.int (4 : Int32)), .val (.ref c_OUTCAST), .val (.int (0 : Int32))] [(.ref c_OUTCAST)])) rfl (by rw [hml]; rfl) (Steps.refl _) (argsL := []) (rest := []) (lenOf pd_38 rfl) rfl (by show 2 * 0 + _ ≤ _; exact Nat.le_of_eq rfl) (hb hby at_24) (fun _ _ => ⟨rfl, e13, (by decide : 0 + 0 ≤ _), (by decide : 0 + 0 ≤ _)⟩)
    dsimp only [Pt.U, Pt.locs, Pt.cells, Pt.slots] at X14 l14 y14 z14 st14 hQ14
    subst l14 y14 z14
    obtain ⟨rfl, N14q, e14⟩ := hQ14
    have N14 := Fr.app N13 N14q
    refine Go.to st14 ?_
    show Go _ _ _ _ T14 (mkF m 27 #[.val (.int p0), .val (.int (4 : Int32)), .val (.ref c_OUTCAST), .val (.int (0 : Int32))] [(.int (0 : Int32))])
    refine Go.by (fun _ gk => XS.iloadN X14.here hx rfl (hb hby at_27) rfl gk) ?_
    show Go _ _ _ _ T14 (mkF m 28 #[.val (.int p0), .val (.int (4 : Int32)), .val (.ref c_OUTCAST), .val (.int (0 : Int32))] [(.int (0 : Int32)), (.int (0 : Int32))])
    refine Go.by (fun _ gk => XS.icmpNo X14.here hx rfl (hb hby at_28) rfl (XT.ii_ne_f rfl) gk) ?_
    show Go _ _ _ _ T14 (mkF m 31 #[.val (.int p0), .val (.int (4 : Int32)), .val (.ref c_OUTCAST), .val (.int (0 : Int32))] [])
    refine Go.by (fun _ gk => XT.iconstV X14.here hx rfl (1 : Int32) (hb hby at_31) (by decide) gk) ?_
    show Go _ _ _ _ T14 (mkF m 32 #[.val (.int p0), .val (.int (4 : Int32)), .val (.ref c_OUTCAST), .val (.int (0 : Int32))] [(.int (1 : Int32))])
    refine Go.by (fun _ gk => XS.goto X14.here hx rfl (pc0 := 32) (pc' := 36) rfl (hb hby at_32) (by decide) (by decide) gk) ?_
    show Go _ _ _ _ T14 (mkF m 36 #[.val (.int p0), .val (.int (4 : Int32)), .val (.ref c_OUTCAST), .val (.int (0 : Int32))] [(.int (1 : Int32))])
    exact Go.retI X14 hx Bd.notSynchronized Bd.returns rfl (by simp) (hb hby at_36) (by rw [e14]; exact ⟨rfl, N14⟩) (by decide) (by decide)
set_option maxRecDepth 65536 in
set_option maxHeartbeats 40000000 in
theorem comes_1 {Post : Tables → Env → Array Value → State → Outcome → State → Prop} (hpost : ∀ tb e args s v u, (limb_1_1.after args s (.returned v) u = true ∧ limb_1_2.after args s (.returned v) u = true ∧ True) → FrameEnd s (.returned v) u (Jvm.fieldLocs frame_1_writes args s ++ Jvm.arrayLocs frame_1_arrays args s ++ Jvm.staticLocs frame_1_statics s) 0 0 → Post tb e args s (.returned v) u) :
    ArmFor flags0 classFile x code maxLocals ret World_1 tables_1 room_1 Calls_1 rest_1 Pre_1 Post := by
  intro l hfl _ _ p e ha hc hk s m args below hf hA hF happ hP
  obtain ⟨hcalls, hrest, hpre⟩ := hP
  obtain ⟨-, -, -, hnamed, -, -, -, hat⟩ := (Spec.applies_iff hf).mp happ
  obtain ⟨hg, hn⟩ := and_e (Cond.before_iff.mp (show (Jvm.Cond.and given_1 narrow_1).before args s = true from hpre))
  obtain ⟨hcount, hg0⟩ := and_e hg
  have ha0 := hg0
  obtain ⟨w0, rfl⟩ : ∃ w0 : Value, args = #[w0] := by
    have hs : args.size = 1 := by simpa [Cond.value, given_1] using hcount
    obtain ⟨L⟩ := args
    match L, hs with
    | [w0], _ => exact ⟨w0, rfl⟩
  have hw := fun d (hd : d ∈ tables_1) => atoms_spec (ws := Jvm.Cond.code x code maxLocals ret :: tables_1) hat d (List.mem_cons_of_mem _ hd)
  have hfit : Fit s := fun {y c} hc i hi => by
    obtain ⟨ha, rfl⟩ := Array.getElem?_eq_some_iff.mp hc
    have q := List.all_eq_true.mp ((Array.all_eq_true_iff_forall_mem.mp hF) _ (Array.getElem_mem ha)) i (List.mem_range.mpr hi)
    simpa [Array.getElem?_eq_getElem hi] using q
  obtain ⟨i0, ei0⟩ := is_v ha0
  obtain rfl : w0 = (.int i0) := Option.some.inj ei0
  have hnr0 := hn
  obtain ⟨nr0, hnr1⟩ := and_e hnr0
  obtain ⟨nr1, hnr2⟩ := and_e hnr1
  obtain ⟨nr2, hnr3⟩ := and_e hnr2
  obtain ⟨nr3, hnr4⟩ := and_e hnr3
  obtain ⟨nr4, hnr5⟩ := and_e hnr4
  obtain ⟨nr5, hnr6⟩ := and_e hnr5
  obtain ⟨nr6, hnr7⟩ := and_e hnr6
  obtain ⟨nr7, hnr8⟩ := and_e hnr7
  obtain ⟨nr8, hnr9⟩ := and_e hnr8
  have nr9 := hnr9
  obtain ⟨c_OWNER, ev_c_OWNER⟩ := exa_v nr0
  have S_c_OWNER : Sta s s.heap "com/example/entries_to_nodes/entriestonodes/pubsub/node/Affiliation" "OWNER" "Lcom/example/entries_to_nodes/entriestonodes/pubsub/node/Affiliation;" (.ref c_OWNER) := Sta.start ev_c_OWNER (Or.inr ⟨(hw _ (List.mem_of_getElem? (i := 6) rfl)), (hw _ (List.mem_of_getElem? (i := 7) rfl))⟩)
  have E_c_OWNER := Exa.start ev_c_OWNER nr0
  have O_c_OWNER := Fld.start (own_ord nr3 ev_c_OWNER)
  obtain ⟨c_PUBLISHER, ev_c_PUBLISHER⟩ := exa_v nr4
  have S_c_PUBLISHER : Sta s s.heap "com/example/entries_to_nodes/entriestonodes/pubsub/node/Affiliation" "PUBLISHER" "Lcom/example/entries_to_nodes/entriestonodes/pubsub/node/Affiliation;" (.ref c_PUBLISHER) := Sta.start ev_c_PUBLISHER (Or.inr ⟨(hw _ (List.mem_of_getElem? (i := 6) rfl)), (hw _ (List.mem_of_getElem? (i := 17) rfl))⟩)
  have E_c_PUBLISHER := Exa.start ev_c_PUBLISHER nr4
  have O_c_PUBLISHER := Fld.start (own_ord nr5 ev_c_PUBLISHER)
  obtain ⟨c_MEMBER, ev_c_MEMBER⟩ := exa_v nr8
  have S_c_MEMBER : Sta s s.heap "com/example/entries_to_nodes/entriestonodes/pubsub/node/Affiliation" "MEMBER" "Lcom/example/entries_to_nodes/entriestonodes/pubsub/node/Affiliation;" (.ref c_MEMBER) := Sta.start ev_c_MEMBER (Or.inr ⟨(hw _ (List.mem_of_getElem? (i := 6) rfl)), (hw _ (List.mem_of_getElem? (i := 22) rfl))⟩)
  have E_c_MEMBER := Exa.start ev_c_MEMBER nr8
  have O_c_MEMBER := Fld.start (own_ord nr9 ev_c_MEMBER)
  obtain ⟨c_NONE, ev_c_NONE⟩ := exa_v nr1
  have S_c_NONE : Sta s s.heap "com/example/entries_to_nodes/entriestonodes/pubsub/node/Affiliation" "NONE" "Lcom/example/entries_to_nodes/entriestonodes/pubsub/node/Affiliation;" (.ref c_NONE) := Sta.start ev_c_NONE (Or.inr ⟨(hw _ (List.mem_of_getElem? (i := 6) rfl)), (hw _ (List.mem_of_getElem? (i := 15) rfl))⟩)
  have E_c_NONE := Exa.start ev_c_NONE nr1
  have O_c_NONE := Fld.start (own_ord nr2 ev_c_NONE)
  obtain ⟨c_OUTCAST, ev_c_OUTCAST⟩ := exa_v nr6
  have S_c_OUTCAST : Sta s s.heap "com/example/entries_to_nodes/entriestonodes/pubsub/node/Affiliation" "OUTCAST" "Lcom/example/entries_to_nodes/entriestonodes/pubsub/node/Affiliation;" (.ref c_OUTCAST) := Sta.start ev_c_OUTCAST (Or.inr ⟨(hw _ (List.mem_of_getElem? (i := 6) rfl)), (hw _ (List.mem_of_getElem? (i := 20) rfl))⟩)
  have E_c_OUTCAST := Exa.start ev_c_OUTCAST nr6
  have O_c_OUTCAST := Fld.start (own_ord nr7 ev_c_OUTCAST)
  obtain ⟨n, o, h1, h2, h3, _, L, rfl, ⟨rfl, N⟩, hq⟩ := rm0 l s _ hw tables_1 i0 c_OWNER c_PUBLISHER c_MEMBER c_NONE c_OUTCAST s.heap s.heap.size (Nat.le_refl _) (Old.start s) S_c_OWNER E_c_OWNER O_c_OWNER S_c_PUBLISHER E_c_PUBLISHER O_c_PUBLISHER S_c_MEMBER E_c_MEMBER O_c_MEMBER S_c_NONE E_c_NONE O_c_NONE S_c_OUTCAST E_c_OUTCAST O_c_OUTCAST p e ha hc hk s m _ below hf ((Spec.applies_iff_loose hf).mp happ).1 ⟨rfl, State.Warmed39.refl s, rfl⟩ trivial
  refine ⟨n, _, h1, h2, h3, hpost _ _ _ _ _ _ ⟨Cond.after_iff.mpr rfl, Cond.after_iff.mpr (eq_i res_at (Term.int_eval (1)) rfl), trivial⟩ ⟨hq.1, hq.2.1, (hq.2.2.sift fun y hy => Or.inr (N y hy)).mono (by decide) (by decide)⟩⟩
theorem main_1_1 : Claimed_1_1 := comes_1 fun _ _ _ _ _ _ h hF => ⟨h.1, hF⟩
theorem main_1_2 : Claimed_1_2 := comes_1 fun _ _ _ _ _ _ h hF => ⟨h.2.1, hF⟩
end Jvm.Pilot.@@N@@
namespace Jvm.Pilot.@@N@@
open Jvm Jvm.ClassFile Sem Op Lib Jvm.Free Jvm.Stand Jvm.Pilot.@@N@@.Jvm.D
/-! MADE BY PROGRAM (witnessworld.py) out of the Statement's table words and the real class files: 12 classes; the members and pool entries that the words name. The judged class is class 1, her method 1. -/
namespace start1
open Jvm.ClassFile
def u (s : String) : CpInfo := .utf8 (stringToUtf16 s)
/-- a pool by its gaps: so many unusable entries, then the entry; so many at the end -/
def gap : Nat → List CpInfo → List CpInfo
  | 0, r => r
  | n + 1, r => .unusable :: gap n r
def poolList (es : List (Nat × CpInfo)) (last : Nat) : List CpInfo := es.foldr (fun e r => gap e.1 (e.2 :: r)) (gap last [])
def pool (es : List (Nat × CpInfo)) (last : Nat) : Array CpInfo := ⟨poolList es last⟩
def fileOf (pool : Array CpInfo) (this : Nat) (attrs : Array Attribute := #[]) (ms : Array MethodInfo := #[]) (fl : Nat := 33) (sup : Nat := 0) (ifs : Array Nat := #[]) (fds : Array FieldInfo := #[]) : ClassFile where
  minorVersion := 0
  majorVersion := 65
  constantPool := pool
  accessFlags := fl
  thisClass := this
  superClass := sup
  interfaces := ifs
  fields := fds
  methods := ms
  attributes := attrs
def plain (name : String) (sup : Option ClassId) : Class where
  name := name
  kind := .ordinary
  loader := none
  accessFlags := 33
  super := sup
  interfaces := #[]
  cf := none
  fields := #[]
  methods := #[]
  instanceTypes := #[]
  staticTypes := #[]
  resolved := #[]
  callSites := []
  init := .initialized
  statics := none
  mirror := none

def pool0 : Array CpInfo := pool [(5, u "<init>"), (0, u "()V"), (1, .class_ 10), (1, u "java/lang/Object")] 113

def k0m0 : Method := { name := "<init>", desc := "()V", sig := { parameters := [], returnType := none }, accessFlags := 1, code := none }
/-- java/lang/Object -/
def k0 : Class := { plain "java/lang/Object" none with
  accessFlags := 33
  interfaces := #[]
  cf := some (fileOf pool0 8 #[] #[{ accessFlags := 1, nameIndex := 5, descriptorIndex := 6, attributes := #[] }] 33 0 #[] #[])
  fields := #[]
  methods := #[k0m0]
  instanceTypes := #[]
  staticTypes := #[]
  resolved := Array.replicate 124 none
  statics := none }

def pool1 : Array CpInfo := pool [(2, .class_ 4), (1, u "java/lang/Object"), (0, u "<init>"), (0, u "()V"), (0, .integer 2147483647), (0, .methodref 9 10), (0, .class_ 11), (0, .nameAndType 12 13), (0, u "com/example/entries_to_nodes/entriestonodes/pubsub/node/AffiliationPublishesPinLaw"), (0, u "pick"), (0, u "(I)Lcom/example/entries_to_nodes/entriestonodes/pubsub/node/Affiliation;"), (0, .methodref 15 16), (0, .class_ 17), (0, .nameAndType 18 19), (0, u "com/example/entries_to_nodes/entriestonodes/pubsub/node/Affiliation"), (0, u "publishes"), (0, u "()Z"), (0, .fieldref 15 21), (0, .nameAndType 22 23), (0, u "OWNER"), (0, u "Lcom/example/entries_to_nodes/entriestonodes/pubsub/node/Affiliation;"), (0, .fieldref 15 25), (0, .nameAndType 26 23), (0, u "PUBLISHER"), (0, .fieldref 15 28), (0, .nameAndType 29 23), (0, u "MEMBER"), (0, .fieldref 15 31), (0, .nameAndType 32 23), (0, u "NONE"), (0, .fieldref 15 34), (0, .nameAndType 35 23), (0, u "OUTCAST"), (2, u "law"), (0, u "(I)Z")] 3

def k1m0 : Method := { name := "<init>", desc := "()V", sig := { parameters := [], returnType := none }, accessFlags := 1, code := none }
def k1c1 : Code := { maxStack := 2, maxLocals := 4, code := code, exceptionTable := #[], attributes := #[] }
def k1m1 : Method := { name := "law", desc := "(I)Z", sig := { parameters := [.int], returnType := some .boolean }, accessFlags := 9, code := some k1c1 }
def k1c2 : Code := { maxStack := 2, maxLocals := 1, code := method_3_code, exceptionTable := #[], attributes := #[] }
def k1m2 : Method := { name := "pick", desc := "(I)Lcom/example/entries_to_nodes/entriestonodes/pubsub/node/Affiliation;", sig := { parameters := [.int], returnType := some (.object "com/example/entries_to_nodes/entriestonodes/pubsub/node/Affiliation") }, accessFlags := 10, code := some k1c2 }
/-- com/example/entries_to_nodes/entriestonodes/pubsub/node/AffiliationPublishesPinLaw -/
def k1 : Class := { plain "com/example/entries_to_nodes/entriestonodes/pubsub/node/AffiliationPublishesPinLaw" (some 0) with
  accessFlags := 49
  interfaces := #[]
  cf := some (fileOf pool1 9 #[] #[{ accessFlags := 1, nameIndex := 5, descriptorIndex := 6, attributes := #[] }, { accessFlags := 9, nameIndex := 38, descriptorIndex := 39, attributes := #[] }, { accessFlags := 10, nameIndex := 12, descriptorIndex := 13, attributes := #[] }] 49 2 #[] #[])
  fields := #[]
  methods := #[k1m0, k1m1, k1m2]
  instanceTypes := #[]
  staticTypes := #[]
  resolved := Array.replicate 43 none
  statics := none }

def pool2 : Array CpInfo := pool [(1, .class_ 2), (0, u "java/lang/constant/Constable"), (0, .class_ 4), (0, u "java/lang/Object")] 6

/-- java/lang/constant/Constable -/
def k2 : Class := { plain "java/lang/constant/Constable" (some 0) with
  accessFlags := 1537
  interfaces := #[]
  cf := some (fileOf pool2 1 #[] #[] 1537 3 #[] #[])
  fields := #[]
  methods := #[]
  instanceTypes := #[]
  staticTypes := #[]
  resolved := Array.replicate 11 none
  statics := none }

def pool3 : Array CpInfo := pool [(1, .class_ 2), (0, u "java/lang/Comparable"), (0, .class_ 4), (0, u "java/lang/Object")] 7

/-- java/lang/Comparable -/
def k3 : Class := { plain "java/lang/Comparable" (some 0) with
  accessFlags := 1537
  interfaces := #[]
  cf := some (fileOf pool3 1 #[] #[] 1537 3 #[] #[])
  fields := #[]
  methods := #[]
  instanceTypes := #[]
  staticTypes := #[]
  resolved := Array.replicate 12 none
  statics := none }

def pool4 : Array CpInfo := pool [(1, .class_ 2), (0, u "java/io/Serializable"), (0, .class_ 4), (0, u "java/lang/Object")] 2

/-- java/io/Serializable -/
def k4 : Class := { plain "java/io/Serializable" (some 0) with
  accessFlags := 1537
  interfaces := #[]
  cf := some (fileOf pool4 1 #[] #[] 1537 3 #[] #[])
  fields := #[]
  methods := #[]
  instanceTypes := #[]
  staticTypes := #[]
  resolved := Array.replicate 7 none
  statics := none }

def pool5 : Array CpInfo := pool [(2, .class_ 4), (1, u "java/lang/Enum"), (0, u "name"), (0, u "Ljava/lang/String;"), (2, u "ordinal"), (0, u "I"), (1, .class_ 14), (1, u "java/lang/Object"), (4, u "hash"), (86, .class_ 108), (1, u "java/lang/Enum$EnumDesc"), (2, .class_ 112), (0, u "java/lang/constant/Constable"), (0, .class_ 114), (0, u "java/lang/Comparable"), (0, .class_ 116), (0, u "java/io/Serializable")] 87

/-- java/lang/Enum -/
def k5 : Class := { plain "java/lang/Enum" (some 0) with
  accessFlags := 1057
  interfaces := #[2, 3, 4]
  cf := some (fileOf pool5 2 #[.nestMembers #[106]] #[] 1057 12 #[111, 113, 115] #[{ accessFlags := 18, nameIndex := 5, descriptorIndex := 6, attributes := #[] }, { accessFlags := 18, nameIndex := 9, descriptorIndex := 10, attributes := #[] }, { accessFlags := 2, nameIndex := 19, descriptorIndex := 10, attributes := #[] }])
  fields := #[{ name := "name", type := (.object "java/lang/String"), accessFlags := 18, slot := 0, constantValue := 0 }, { name := "ordinal", type := .int, accessFlags := 18, slot := 1, constantValue := 0 }, { name := "hash", type := .int, accessFlags := 2, slot := 2, constantValue := 0 }]
  methods := #[]
  instanceTypes := #[(.object "java/lang/String"), .int, .int]
  staticTypes := #[]
  resolved := Array.replicate 204 none
  statics := none }

def pool6 : Array CpInfo := pool [(1, .class_ 2), (0, u "com/example/entries_to_nodes/entriestonodes/pubsub/node/Affiliation"), (0, .fieldref 1 4), (0, .nameAndType 5 6), (0, u "OWNER"), (0, u "Lcom/example/entries_to_nodes/entriestonodes/pubsub/node/Affiliation;"), (0, .fieldref 1 8), (0, .nameAndType 9 6), (0, u "PUBLISHER"), (2, u "MEMBER"), (2, u "NONE"), (2, u "OUTCAST"), (2, u "$VALUES"), (0, u "[Lcom/example/entries_to_nodes/entriestonodes/pubsub/node/Affiliation;"), (6, .class_ 31), (1, u "java/lang/Enum"), (50, u "publishes"), (0, u "()Z")] 4

def k6c0 : Code := { maxStack := 2, maxLocals := 1, code := prog_12_method_6_code, exceptionTable := #[], attributes := #[] }
def k6m0 : Method := { name := "publishes", desc := "()Z", sig := { parameters := [], returnType := some .boolean }, accessFlags := 1, code := some k6c0 }
/-- com/example/entries_to_nodes/entriestonodes/pubsub/node/Affiliation -/
def k6 : Class := { plain "com/example/entries_to_nodes/entriestonodes/pubsub/node/Affiliation" (some 5) with
  accessFlags := 16433
  interfaces := #[]
  cf := some (fileOf pool6 1 #[] #[{ accessFlags := 1, nameIndex := 82, descriptorIndex := 83, attributes := #[] }] 16433 29 #[] #[{ accessFlags := 16409, nameIndex := 5, descriptorIndex := 6, attributes := #[] }, { accessFlags := 16409, nameIndex := 9, descriptorIndex := 6, attributes := #[] }, { accessFlags := 16409, nameIndex := 12, descriptorIndex := 6, attributes := #[] }, { accessFlags := 16409, nameIndex := 15, descriptorIndex := 6, attributes := #[] }, { accessFlags := 16409, nameIndex := 18, descriptorIndex := 6, attributes := #[] }, { accessFlags := 4122, nameIndex := 21, descriptorIndex := 22, attributes := #[] }])
  fields := #[{ name := "OWNER", type := (.object "com/example/entries_to_nodes/entriestonodes/pubsub/node/Affiliation"), accessFlags := 16409, slot := 0, constantValue := 0 }, { name := "PUBLISHER", type := (.object "com/example/entries_to_nodes/entriestonodes/pubsub/node/Affiliation"), accessFlags := 16409, slot := 1, constantValue := 0 }, { name := "MEMBER", type := (.object "com/example/entries_to_nodes/entriestonodes/pubsub/node/Affiliation"), accessFlags := 16409, slot := 2, constantValue := 0 }, { name := "NONE", type := (.object "com/example/entries_to_nodes/entriestonodes/pubsub/node/Affiliation"), accessFlags := 16409, slot := 3, constantValue := 0 }, { name := "OUTCAST", type := (.object "com/example/entries_to_nodes/entriestonodes/pubsub/node/Affiliation"), accessFlags := 16409, slot := 4, constantValue := 0 }, { name := "$VALUES", type := (.array (.object "com/example/entries_to_nodes/entriestonodes/pubsub/node/Affiliation")), accessFlags := 4122, slot := 5, constantValue := 0 }]
  methods := #[k6m0]
  instanceTypes := #[(.object "java/lang/String"), .int, .int]
  staticTypes := #[(.object "com/example/entries_to_nodes/entriestonodes/pubsub/node/Affiliation"), (.object "com/example/entries_to_nodes/entriestonodes/pubsub/node/Affiliation"), (.object "com/example/entries_to_nodes/entriestonodes/pubsub/node/Affiliation"), (.object "com/example/entries_to_nodes/entriestonodes/pubsub/node/Affiliation"), (.object "com/example/entries_to_nodes/entriestonodes/pubsub/node/Affiliation"), (.array (.object "com/example/entries_to_nodes/entriestonodes/pubsub/node/Affiliation"))]
  resolved := Array.replicate 88 none
  statics := some 0 }

def pool7 : Array CpInfo := pool [(1, u "java/lang/Cloneable"), (0, .class_ 1), (0, u "java/lang/Object"), (0, .class_ 3)] 3

/-- java/lang/Cloneable -/
def k7 : Class := { plain "java/lang/Cloneable" (some 0) with
  accessFlags := 1537
  interfaces := #[]
  cf := some (fileOf pool7 2 #[] #[] 1537 4 #[] #[])
  fields := #[]
  methods := #[]
  instanceTypes := #[]
  staticTypes := #[]
  resolved := Array.replicate 8 none
  statics := none }

/-- the primitive byte -/
def k8 : Class := { plain "byte" none with kind := .primitive 'B', accessFlags := 0x411 }
/-- [B -/
def k9 : Class := { plain "[B" (some 0) with kind := .array 8 .byte, interfaces := #[7, 4], accessFlags := 1041 }

/-- the primitive int -/
def k10 : Class := { plain "int" none with kind := .primitive 'I', accessFlags := 0x411 }
/-- [I -/
def k11 : Class := { plain "[I" (some 0) with kind := .array 10 .int, interfaces := #[7, 4], accessFlags := 1041 }

def heap : Heap := #[{ cls := 6, slots := #[.ref 1, .ref 2, .ref 3, .ref 4, .ref 5, .null], vm := .statics 6 },
  { cls := 6, slots := #[.null, .int 0, .int 0], vm := .none },
  { cls := 6, slots := #[.null, .int 1, .int 0], vm := .none },
  { cls := 6, slots := #[.null, .int 2, .int 0], vm := .none },
  { cls := 6, slots := #[.null, .int 3, .int 0], vm := .none },
  { cls := 6, slots := #[.null, .int 4, .int 0], vm := .none }]
def classes : Array Class := #[k0, k1, k2, k3, k4, k5, k6, k7, k8, k9, k10, k11]
def interned : List (Array UInt16 × Addr) := []
def slotsUsed : Nat := 21
def theMethod : MethodId := ⟨1, 1⟩
def args0 : Array Value := #[.int 5]
def aboutOver (below : List Frame) : State where
  vm := { classes := classes, interned := interned.toArray }
  heap := heap
  slotsUsed := slotsUsed
  threads := #[{ frames := .invoking theMethod args0 :: below }]
def below0 : List Frame := [.native { method := ⟨0, 0⟩, args := #[] }]
def about1 : State := aboutOver below0
def p0 : Program := .bare "" "" ""
def e0 : Env := launch0.env 0 0 0
theorem w_frames : about1.frames = Frame.invoking theMethod args0 :: below0 := rfl
set_option maxRecDepth 65536 in
theorem w_args : argsFit about1.vm theMethod args0 = true := by decide +kernel
set_option maxRecDepth 65536 in
theorem w_heap : heapFits about1 = true := by decide +kernel
set_option maxRecDepth 65536 in
theorem w_runnable : about1.curStatus? = some .runnable := by decide +kernel
set_option maxRecDepth 65536 in
theorem w_alone : about1.alone = true := by decide +kernel
set_option maxRecDepth 65536 in
theorem w_named : about1.methodNamed? x = some theMethod := by decide +kernel
set_option maxRecDepth 65536 in
theorem w_hears : about1.hears theMethod below0 = true := by decide +kernel
set_option maxRecDepth 65536 in
theorem w_ripe : about1.ripe theMethod args0 below0 = true := by decide +kernel
theorem w_running : about1.status = .running := rfl
set_option maxRecDepth 65536 in
theorem w_room : about1.hasRoom e0.platform room_1 = true :=
  launch0.hasRoom_least _ room_1 (by decide +kernel) (by decide +kernel) (by decide +kernel) (by decide +kernel) (by decide +kernel) (by decide +kernel)
theorem allAtoms_all (ts : List Jvm.Cond) (a : Array Jvm.Value) (st : Jvm.State) : (allAtoms ts).before a st = ts.all (fun c => c.before a st) := by
  induction ts with
  | nil => rfl
  | cons c t ih =>
    show (Jvm.Cond.and c (allAtoms t)).before a st = _
    rw [Jvm.Cond.before_and, ih, List.all_cons]
def words1 : List Jvm.Cond := Jvm.Cond.code x code maxLocals ret :: tables_1
/-- a 'code' word, met by the world's own term for the bytes: nothing is compared byte by byte -/
theorem code_word {y : MethodName} {bytes : ByteArray} {mx : Nat} {rt : Option FieldType} {a : Array Value} {s : State} {m : MethodId} {meth : Method} {c : Code} (h1 : s.methodNamed? y = some m) (h2 : s.vm.method? m = some meth) (h3 : meth.code = some c) (h4 : c.code = bytes)
    (h5 : (c.maxLocals == mx && c.exceptionTable.isEmpty && decide (c.maxStack ≤ mostOperands) && decide (meth.sig.returnType = rt) && !meth.locks && decide (parseMethodDescriptor y.desc = some meth.sig)) = true) : (Jvm.Cond.code y bytes mx rt).before a s = true := by
  simp only [Bool.and_eq_true, beq_iff_eq, Bool.not_eq_true', decide_eq_true_eq] at h5
  obtain ⟨⟨⟨⟨⟨g1, g2⟩, g3⟩, g4⟩, g5⟩, g6⟩ := h5
  simp [Cond.before, Cond.holds, Cond.value, h1, h2, h3, h4, g1, g2, g3, g4, g5, g6]
def isCode : Jvm.Cond → Bool
  | .code _ _ _ _ => true
  | _ => false
theorem all_split {L : List Jvm.Cond} {P : Jvm.Cond → Bool} (h1 : L.all (fun c => isCode c || P c) = true) (h2 : ∀ c ∈ L.filter isCode, P c = true) : L.all P = true := by
  refine List.all_eq_true.mpr fun c hc => ?_
  have h := List.all_eq_true.mp h1 c hc
  rcases Bool.eq_false_or_eq_true (isCode c) with hi | hi
  · exact h2 c (List.mem_filter.mpr ⟨hc, hi⟩)
  · simpa [hi] using h
set_option maxRecDepth 65536 in
theorem w_c0 : (Jvm.Cond.code x code maxLocals ret).before args0 about1 = true := code_word (m := ⟨1, 1⟩) (meth := k1m1) (c := k1c1) (by decide +kernel) rfl rfl rfl (by decide +kernel)
set_option maxRecDepth 65536 in
theorem w_c1 : (Jvm.Cond.code ({ cls := "com/example/entries_to_nodes/entriestonodes/pubsub/node/AffiliationPublishesPinLaw", name := "pick", desc := "(I)Lcom/example/entries_to_nodes/entriestonodes/pubsub/node/Affiliation;" } : Jvm.MethodName) method_3_code (1 : Nat) (Option.some (Jvm.ClassFile.FieldType.object "com/example/entries_to_nodes/entriestonodes/pubsub/node/Affiliation"))).before args0 about1 = true := code_word (m := ⟨1, 2⟩) (meth := k1m2) (c := k1c2) (by decide +kernel) rfl rfl rfl (by decide +kernel)
set_option maxRecDepth 65536 in
theorem w_c2 : (Jvm.Cond.code ({ cls := "com/example/entries_to_nodes/entriestonodes/pubsub/node/Affiliation", name := "publishes", desc := "()Z" } : Jvm.MethodName) prog_12_method_6_code (1 : Nat) (Option.some Jvm.ClassFile.FieldType.boolean)).before args0 about1 = true := code_word (m := ⟨6, 0⟩) (meth := k6m0) (c := k6c0) (by decide +kernel) rfl rfl rfl (by decide +kernel)
def codes1 : List Jvm.Cond := [Jvm.Cond.code x code maxLocals ret, Jvm.Cond.code ({ cls := "com/example/entries_to_nodes/entriestonodes/pubsub/node/AffiliationPublishesPinLaw", name := "pick", desc := "(I)Lcom/example/entries_to_nodes/entriestonodes/pubsub/node/Affiliation;" } : Jvm.MethodName) method_3_code (1 : Nat) (Option.some (Jvm.ClassFile.FieldType.object "com/example/entries_to_nodes/entriestonodes/pubsub/node/Affiliation")), Jvm.Cond.code ({ cls := "com/example/entries_to_nodes/entriestonodes/pubsub/node/Affiliation", name := "publishes", desc := "()Z" } : Jvm.MethodName) prog_12_method_6_code (1 : Nat) (Option.some Jvm.ClassFile.FieldType.boolean)]
set_option maxRecDepth 65536 in
theorem codes_eq : words1.filter isCode = codes1 := rfl
theorem w_codes : ∀ c ∈ words1.filter isCode, c.before args0 about1 = true := by
  rw [codes_eq]
  intro c hc
  simp only [codes1, List.mem_cons, List.not_mem_nil, or_false] at hc
  rcases hc with rfl | rfl | rfl
  · exact w_c0
  · exact w_c1
  · exact w_c2
set_option maxRecDepth 65536 in
theorem w_t1 : words1.all (fun c => isCode c || c.before args0 about1) = true := by decide +kernel
theorem w_tables : (allAtoms (Jvm.Cond.code x code maxLocals ret :: tables_1)).before args0 about1 = true := by
  rw [allAtoms_all]
  show words1.all (fun c => c.before args0 about1) = true
  refine all_split ?_ w_codes
  rw [w_t1]
set_option maxRecDepth 65536 in
theorem w_case : (Jvm.Cond.and given_1 narrow_1).before args0 about1 = true := by decide +kernel
theorem w_applies : (headSpec (Jvm.Cond.code x code maxLocals ret :: tables_1) room_1).applies x e0.platform about1 = true :=
  (Spec.applies_iff w_frames).mpr ⟨w_running, w_runnable, w_alone, w_named, w_hears, w_ripe, w_room, w_tables⟩
theorem atStart : AtStart classFile x code maxLocals ret World_1 tables_1 room_1 Calls_1 rest_1 Pre_1 launch0 p0 e0 about1 theMethod args0 below0 :=
  ⟨lists_1, trivial, launch0.admits_env _ _ _, launch0.least_env, fairChoices_fair.cas, fairChoices_fair.clock, w_frames, w_args, w_heap, w_applies, trivial, trivial, w_case⟩
end start1
theorem witness_1 : WitnessClaimed_1 := ⟨start1.p0, start1.e0, start1.about1, start1.theMethod, start1.args0, start1.below0, start1.atStart⟩
end Jvm.Pilot.@@N@@
