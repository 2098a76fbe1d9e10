import JvmDerived
import JvmDerived.Pilot.@@N@@Statement
import JvmDerived.Pilot.@@N@@Code
set_option linter.unusedVariables false
set_option linter.unusedSimpArgs false
namespace Jvm.RoadKit
open Sem ClassFile Op Lib Jvm.Stand Jvm.Free Jvm.LawKit
section Own
variable {p : Program} {l : Launch} {e : Env} {R : Room} {s : State} {m : MethodId} {args : Array Value} {below : List Frame} {meth : Method} {c : Code} {T : State} {locs : List Loc} {cells slots : Nat}
/-- the run from U comes to its end, and the end meets Q -/
def own_Go (p : Program) (e : Env) (below : List Frame) (args : Array Value) (s : State) (Q : Array Value → State → Outcome → State → Prop) (U : State) : Prop := ∃ s₂ o, Steps p.tables e below U s₂ ∧ s₂.status = .running ∧ Ended s₂ below o ∧ Q args s o s₂
theorem own_st {Q : Array Value → State → Outcome → State → Prop} {U V : State} (k : ∀ t, Steps p.tables e below V t → Steps p.tables e below U t) (h : own_Go p e below args s Q V) : own_Go p e below args s Q U := by
  obtain ⟨s2, o, h1, h2⟩ := h
  exact ⟨s2, o, k _ h1, h2⟩
theorem own_ret {Q : Option Value → Heap → List Loc → Prop} {rc rs : Nat} (X : Stand p l e R s m args below meth c T locs cells slots) (hx : p.tables.exec = Jvm.exec) {pc : Nat} {Ls : Array Slot} {w : Value} {t : FieldType} {i : Instr} {rest : List Value} (hlk : meth.locks = false) (hret : meth.sig.returnType = some t) (hn : narrow t w = w)
    (hi : (i = .ireturn ∧ (t = .int ∨ t = .boolean ∨ t = .byte ∨ t = .char ∨ t = .short) ∧ ∃ z, w = .int z) ∨ (i = .lreturn ∧ t = .long ∧ ∃ z, w = .long z) ∨ (i = .dreturn ∧ t = .double ∧ ∃ z, w = .double z) ∨ (i = .freturn ∧ t = .float ∧ ∃ z, w = .float z) ∨ (i = .areturn ∧ t.isReference = true ∧ w.isRef = true))
    (hd : decode c.code pc = .ok (i, 1)) (hc : cells ≤ rc) (hs : slots ≤ rs) (hQ : Q (some w) T.heap locs) :
    own_Go p e below args s (fun _ U o U' => ∃ v L, o = .returned v ∧ Q v U'.heap L ∧ FrameEnd U o U' L rc rs) (T.setTop (mkF m pc Ls (w :: rest))) := by
  obtain ⟨fs, hr, hrun, hended, hW, hsame⟩ := X.leave (v := some w) (fun h => by rw [hret] at h; cases h) hlk
  exact ⟨_, _, retOut X hx hret hn hi hd hr, hrun, hended, _, _, rfl, hQ, ⟨_, rfl⟩, hW, hsame.mono hc hs⟩
theorem own_ret0 {Q : Option Value → Heap → List Loc → Prop} {rc rs : Nat} (X : Stand p l e R s m args below meth c T locs cells slots) (hx : p.tables.exec = Jvm.exec) {pc : Nat} {Ls : Array Slot} (hlk : meth.locks = false) (hret : meth.sig.returnType = none)
    (hd : decode c.code pc = .ok (.return_, 1)) (hc : cells ≤ rc) (hs : slots ≤ rs) (hQ : Q none T.heap locs) :
    own_Go p e below args s (fun _ U o U' => ∃ v L, o = .returned v ∧ Q v U'.heap L ∧ FrameEnd U o U' L rc rs) (T.setTop (mkF m pc Ls [])) := by
  obtain ⟨fs, hr, hrun, hended, hW, hsame⟩ := X.leave (v := none) (fun _ => rfl) hlk
  exact ⟨_, _, X.returnOut hx hret hd hr, hrun, hended, _, _, rfl, hQ, ⟨_, rfl⟩, hW, hsame.mono hc hs⟩
/-- what the sheet says of a static that holds an object of its class -/
theorem own_sta {Z : State} {args : Array Value} {C n d K : String} (hx : (Jvm.Cond.exactly (.static C n d) K).value args Z none Z [] = some true) (wi : (Jvm.Cond.initialized C).before args Z = true) (wl : (Jvm.Cond.laysStatic C n d).before args Z = true) :
    ∃ a, Sta Z Z.heap C n d (.ref a) ∧ Exa Z Z.heap a K ∧ (Jvm.Term.static C n d).eval args Z none [] Z = some (.ref a) := by
  obtain ⟨a, ev⟩ := exa_v hx
  exact ⟨a, Sta.start ev (Or.inr ⟨wi, wl⟩), Exa.start ev hx, ev⟩
theorem own_eqi {Z : State} {args : Array Value} {t : Jvm.Term} {k : Int32} (h : (Jvm.Cond.eq t (.int k)).value args Z none Z [] = some true) : t.eval args Z none [] Z = some (.int k) := by
  cases hv : t.eval args Z none [] Z with
  | none => simp [Cond.value, Term.eval, hv] at h
  | some v => cases v <;> simp [Cond.value, Term.eval, hv] at h ⊢ <;> exact h
theorem own_fld {Z : State} {args : Array Value} {t : Jvm.Term} {C n d : String} {a : Addr} {k : Int32} (ev : t.eval args Z none [] Z = some (.ref a)) (h : (Jvm.Cond.eq (.field t C n d) (.int k)).value args Z none Z [] = some true) : Fld Z Z.heap a C n d (.int k) :=
  Fld.start ((fld_at ev).symm.trans (own_eqi h))
end Own
end Jvm.RoadKit
namespace Jvm.Pilot.@@N@@
open Jvm Jvm.ClassFile Sem Op Lib Jvm.Free Jvm.Stand Jvm.LawKit Jvm.RoadKit Bundle Jvm.Pilot.@@N@@.Jvm.D
def own_cs : List (Nat × String) := [(0, "RECEIVED"), (1, "RELABELLED"), (2, "NOT_SENT"), (3, "NOT_RECEIVED")]
def own_En (Z : State) (h : Heap) (A : Nat → Addr) : Prop := ∀ q ∈ own_cs, Sta Z h "com/example/trust_grade/trustgrade/network/Transfer$Outcome" q.2 "Lcom/example/trust_grade/trustgrade/network/Transfer$Outcome;" (.ref (A q.1)) ∧ Exa Z h (A q.1) "com/example/trust_grade/trustgrade/network/Transfer$Outcome" ∧ Fld Z h (A q.1) "java/lang/Enum" "ordinal" "I" (.int (Int32.ofNat q.1))
theorem own_S {Z : State} {h : Heap} {A : Nat → Addr} (En : own_En Z h A) (k : Nat) {i : Nat} {n : String} (q : own_cs[k]? = some (i, n)) : Sta Z h "com/example/trust_grade/trustgrade/network/Transfer$Outcome" n "Lcom/example/trust_grade/trustgrade/network/Transfer$Outcome;" (.ref (A i)) := (En _ (List.mem_of_getElem? q)).1
theorem own_E {Z : State} {h : Heap} {A : Nat → Addr} (En : own_En Z h A) (k : Nat) {i : Nat} {n : String} (q : own_cs[k]? = some (i, n)) : Exa Z h (A i) "com/example/trust_grade/trustgrade/network/Transfer$Outcome" := (En _ (List.mem_of_getElem? q)).2.1
theorem own_O {Z : State} {h : Heap} {A : Nat → Addr} (En : own_En Z h A) (k : Nat) {i : Nat} {n : String} (q : own_cs[k]? = some (i, n)) : Fld Z h (A i) "java/lang/Enum" "ordinal" "I" (.int (Int32.ofNat i)) := (En _ (List.mem_of_getElem? q)).2.2
theorem own_ne {Z : State} {h : Heap} {A : Nat → Addr} (En : own_En Z h A) (k k' : Nat) {i j : Nat} {n n' : String} (q : own_cs[k]? = some (i, n)) (q' : own_cs[k']? = some (j, n')) (d : Int32.ofNat i ≠ Int32.ofNat j) : A i ≠ A j := (own_O En k q).ne (own_O En k' q') fun e => d (Value.int.inj e)
theorem own_En.ext {Z : State} {h h' : Heap} {A : Nat → Addr} (En : own_En Z h A) (E : Ext h h') : own_En Z h' A := fun q hq => by
  have r := En q hq
  exact ⟨r.1.ext E, r.2.1.ext E, r.2.2.ext E⟩
theorem own_En.wr {Z : State} {h h' : Heap} {A : Nat → Addr} {a : Addr} {sl : Nat} {v : Value} (En : own_En Z h A) (W : Wr h h' a sl v) (hne : ∀ q ∈ own_cs, A q.1 ≠ a) : own_En Z h' A := fun q hq => by
  have r := En q hq
  exact ⟨r.1.wr W, r.2.1.wr W, r.2.2.other W (Or.inl (hne q hq))⟩
def Q_own_isv0 (Z : State) (A : Nat → Addr) (h0 : Heap) (n0 : Nat) (v : Option Value) (h : Heap) (L : List Loc) : Prop := v = some (.int (0 : Int32)) ∧ Fr n0 L ∧ h = h0
theorem own_d1_0 : decode prog_43_method_4_code 0 = .ok (.aload_n 0, 1) := by decide +kernel
theorem own_d1_1 : decode prog_43_method_4_code 1 = .ok (.getstatic 10, 3) := by decide +kernel
theorem own_d1_4 : decode prog_43_method_4_code 4 = .ok (.if_acmp .eq 10, 3) := by decide +kernel
theorem own_d1_7 : decode prog_43_method_4_code 7 = .ok (.aload_n 0, 1) := by decide +kernel
theorem own_d1_8 : decode prog_43_method_4_code 8 = .ok (.getstatic 13, 3) := by decide +kernel
theorem own_d1_11 : decode prog_43_method_4_code 11 = .ok (.if_acmp .ne 7, 3) := by decide +kernel
theorem own_d1_18 : decode prog_43_method_4_code 18 = .ok (.iconst 0, 1) := by decide +kernel
theorem own_d1_19 : decode prog_43_method_4_code 19 = .ok (.ireturn, 1) := by decide +kernel
theorem own_pn_com_example_trust_grade_trustgrade_network_Transfer_Outcome : plainName "com/example/trust_grade/trustgrade/network/Transfer$Outcome" = true := by first | (simp [plainName, overriddenIn]; done) | decide +kernel
set_option maxRecDepth 65536 in
set_option maxHeartbeats 40000000 in
theorem own_isv0 (l : Launch) (Z : State) (a0 : Array Value) (hw : ∀ d ∈ tables_1, d.before a0 Z = true) (ws : List Jvm.Cond) (A : Nat → Addr) (h0 : Heap) (n0 : Nat) (Z0 : n0 ≤ h0.size) (En : own_En Z h0 A) :
    MetFree l (⟨"com/example/trust_grade/trustgrade/network/Transfer$Outcome", "isViolation", "()Z"⟩ : MethodName) (head1 (Jvm.Cond.code (⟨"com/example/trust_grade/trustgrade/network/Transfer$Outcome", "isViolation", "()Z"⟩ : MethodName) prog_43_method_4_code 1 (some .boolean) :: ws) ({ frames := 0, cells := 0, slots := 0, locals := 0 } : Room)) (fun a U => a = #[(.ref (A 0))] ∧ Z.Warmed39 U.vm ∧ U.heap = h0) (fun _ _ _ _ _ => True) (fun _ U o U' => ∃ v L, o = .returned v ∧ Q_own_isv0 Z A h0 n0 v U'.heap L ∧ FrameEnd U o U' L ({ frames := 0, cells := 0, slots := 0, locals := 0 } : Room).cells ({ frames := 0, cells := 0, slots := 0, locals := 0 } : Room).slots) := by
  refine MetFree.of_bodySF (plainFor_of_name own_pn_com_example_trust_grade_trustgrade_network_Transfer_Outcome) hisR ?_
  intro p e s m args below meth c s₁ Bd hml0 hP hK
  obtain ⟨rfl, hZ, hh⟩ := hP
  have hx := Bd.exec
  have hby := Bd.bytes
  have hml : c.maxLocals = 1 := hml0
  have hown : s.vm.findClass "com/example/trust_grade/trustgrade/network/Transfer$Outcome" = some m.cls := findClass_of_methodNamed Bd.named
  have hnm := (name_of_methodNamed Bd.named Bd.method).1
  have hlk : meth.locks = false := BodyLoose.notSynchronized Bd
  have X0 : Stand p l e ({ frames := 0, cells := 0, slots := 0, locals := 0 } : Room) s m #[(.ref (A 0))] below meth c s₁ [] 0 0 := Stand.of_body Bd
  have e0 : s₁.heap = h0 := by rw [← hh, Bd.state]; rfl
  have N0 := Fr.nil n0
  show own_Go p e below #[(.ref (A 0))] s (fun _ U o U' => ∃ v L, o = .returned v ∧ Q_own_isv0 Z A h0 n0 v U'.heap L ∧ FrameEnd U o U' L ({ frames := 0, cells := 0, slots := 0, locals := 0 } : Room).cells ({ frames := 0, cells := 0, slots := 0, locals := 0 } : Room).slots) (s₁.setTop (entryFrame m #[(.ref (A 0))] 1))
  refine own_st (V := s₁.setTop (mkF m 0 #[.val (.ref (A 0))] [])) (fun t k => castTop (by first | (simp [entryFrame, mkF, argsToLocals, Value.category]; done) | rfl) k) ?_
  refine own_st (V := s₁.setTop (mkF m 1 #[.val (.ref (A 0))] [(.ref (A 0))])) (fun t k => XS.aloadN X0.here hx rfl (hb hby own_d1_0) rfl rfl k) ?_
  obtain ⟨T1, X1, e1, st1⟩ := getS2 X0 hx hZ hown (host := "") (Or.inl (hw _ (List.mem_of_getElem? (i := 8) rfl))) Via.refl e0 (own_S En 2 (i := 2) (n := "NOT_SENT") rfl) (g := (mkF m 1 #[.val (.ref (A 0))] [(.ref (A 0))])) rfl (hb hby own_d1_1)
  refine own_st (V := T1.setTop (mkF m 4 #[.val (.ref (A 0))] [(.ref (A 2)), (.ref (A 0))])) (fun t k => st1 _ k) ?_
  refine own_st (V := T1.setTop (mkF m 7 #[.val (.ref (A 0))] [])) (fun t k => Jvm.RoadKit.acmp (g := (mkF m 4 #[.val (.ref (A 0))] [(.ref (A 2)), (.ref (A 0))])) X1 hx rfl rfl rfl (pc0 := 4) (pc' := 7) (same := false) rfl (hb hby own_d1_4) rfl (decide_eq_false fun q => own_ne En 0 2 (i := 0) (n := "RECEIVED") (j := 2) (n' := "NOT_SENT") rfl rfl (by decide) (Value.ref.inj q)) (by decide) (by decide) k) ?_
  refine own_st (V := T1.setTop (mkF m 8 #[.val (.ref (A 0))] [(.ref (A 0))])) (fun t k => XS.aloadN X1.here hx rfl (hb hby own_d1_7) rfl rfl k) ?_
  obtain ⟨T2, X2, e2, st2⟩ := getS2 X1 hx hZ hown (host := "") (Or.inl (hw _ (List.mem_of_getElem? (i := 10) rfl))) Via.refl e1 (own_S En 3 (i := 3) (n := "NOT_RECEIVED") rfl) (g := (mkF m 8 #[.val (.ref (A 0))] [(.ref (A 0))])) rfl (hb hby own_d1_8)
  refine own_st (V := T2.setTop (mkF m 11 #[.val (.ref (A 0))] [(.ref (A 3)), (.ref (A 0))])) (fun t k => st2 _ k) ?_
  refine own_st (V := T2.setTop (mkF m 18 #[.val (.ref (A 0))] [])) (fun t k => Jvm.RoadKit.acmp (g := (mkF m 11 #[.val (.ref (A 0))] [(.ref (A 3)), (.ref (A 0))])) X2 hx rfl rfl rfl (pc0 := 11) (pc' := 18) (same := false) rfl (hb hby own_d1_11) rfl (decide_eq_false fun q => own_ne En 0 3 (i := 0) (n := "RECEIVED") (j := 3) (n' := "NOT_RECEIVED") rfl rfl (by decide) (Value.ref.inj q)) (by decide) (by decide) k) ?_
  refine own_st (V := T2.setTop (mkF m 19 #[.val (.ref (A 0))] [(.int (0 : Int32))])) (fun t k => XS.iconst X2.here hx rfl (hb hby own_d1_18) k) ?_
  exact own_ret X2 hx hlk Bd.returns (by decide +kernel) (Or.inl ⟨rfl, by simp, _, rfl⟩) (hb hby own_d1_19) (by decide) (by decide) (by show Q_own_isv0 Z A h0 n0 _ T2.heap _; rw [e2]; exact ⟨rfl, N0, rfl⟩)
def Q_own_isv1 (Z : State) (A : Nat → Addr) (h0 : Heap) (n0 : Nat) (v : Option Value) (h : Heap) (L : List Loc) : Prop := v = some (.int (0 : Int32)) ∧ Fr n0 L ∧ h = h0
set_option maxRecDepth 65536 in
set_option maxHeartbeats 40000000 in
theorem own_isv1 (l : Launch) (Z : State) (a0 : Array Value) (hw : ∀ d ∈ tables_1, d.before a0 Z = true) (ws : List Jvm.Cond) (A : Nat → Addr) (h0 : Heap) (n0 : Nat) (Z0 : n0 ≤ h0.size) (En : own_En Z h0 A) :
    MetFree l (⟨"com/example/trust_grade/trustgrade/network/Transfer$Outcome", "isViolation", "()Z"⟩ : MethodName) (head1 (Jvm.Cond.code (⟨"com/example/trust_grade/trustgrade/network/Transfer$Outcome", "isViolation", "()Z"⟩ : MethodName) prog_43_method_4_code 1 (some .boolean) :: ws) ({ frames := 0, cells := 0, slots := 0, locals := 0 } : Room)) (fun a U => a = #[(.ref (A 1))] ∧ Z.Warmed39 U.vm ∧ U.heap = h0) (fun _ _ _ _ _ => True) (fun _ U o U' => ∃ v L, o = .returned v ∧ Q_own_isv1 Z A h0 n0 v U'.heap L ∧ FrameEnd U o U' L ({ frames := 0, cells := 0, slots := 0, locals := 0 } : Room).cells ({ frames := 0, cells := 0, slots := 0, locals := 0 } : Room).slots) := by
  refine MetFree.of_bodySF (plainFor_of_name own_pn_com_example_trust_grade_trustgrade_network_Transfer_Outcome) hisR ?_
  intro p e s m args below meth c s₁ Bd hml0 hP hK
  obtain ⟨rfl, hZ, hh⟩ := hP
  have hx := Bd.exec
  have hby := Bd.bytes
  have hml : c.maxLocals = 1 := hml0
  have hown : s.vm.findClass "com/example/trust_grade/trustgrade/network/Transfer$Outcome" = some m.cls := findClass_of_methodNamed Bd.named
  have hnm := (name_of_methodNamed Bd.named Bd.method).1
  have hlk : meth.locks = false := BodyLoose.notSynchronized Bd
  have X0 : Stand p l e ({ frames := 0, cells := 0, slots := 0, locals := 0 } : Room) s m #[(.ref (A 1))] below meth c s₁ [] 0 0 := Stand.of_body Bd
  have e0 : s₁.heap = h0 := by rw [← hh, Bd.state]; rfl
  have N0 := Fr.nil n0
  show own_Go p e below #[(.ref (A 1))] s (fun _ U o U' => ∃ v L, o = .returned v ∧ Q_own_isv1 Z A h0 n0 v U'.heap L ∧ FrameEnd U o U' L ({ frames := 0, cells := 0, slots := 0, locals := 0 } : Room).cells ({ frames := 0, cells := 0, slots := 0, locals := 0 } : Room).slots) (s₁.setTop (entryFrame m #[(.ref (A 1))] 1))
  refine own_st (V := s₁.setTop (mkF m 0 #[.val (.ref (A 1))] [])) (fun t k => castTop (by first | (simp [entryFrame, mkF, argsToLocals, Value.category]; done) | rfl) k) ?_
  refine own_st (V := s₁.setTop (mkF m 1 #[.val (.ref (A 1))] [(.ref (A 1))])) (fun t k => XS.aloadN X0.here hx rfl (hb hby own_d1_0) rfl rfl k) ?_
  obtain ⟨T3, X3, e3, st3⟩ := getS2 X0 hx hZ hown (host := "") (Or.inl (hw _ (List.mem_of_getElem? (i := 8) rfl))) Via.refl e0 (own_S En 2 (i := 2) (n := "NOT_SENT") rfl) (g := (mkF m 1 #[.val (.ref (A 1))] [(.ref (A 1))])) rfl (hb hby own_d1_1)
  refine own_st (V := T3.setTop (mkF m 4 #[.val (.ref (A 1))] [(.ref (A 2)), (.ref (A 1))])) (fun t k => st3 _ k) ?_
  refine own_st (V := T3.setTop (mkF m 7 #[.val (.ref (A 1))] [])) (fun t k => Jvm.RoadKit.acmp (g := (mkF m 4 #[.val (.ref (A 1))] [(.ref (A 2)), (.ref (A 1))])) X3 hx rfl rfl rfl (pc0 := 4) (pc' := 7) (same := false) rfl (hb hby own_d1_4) rfl (decide_eq_false fun q => own_ne En 1 2 (i := 1) (n := "RELABELLED") (j := 2) (n' := "NOT_SENT") rfl rfl (by decide) (Value.ref.inj q)) (by decide) (by decide) k) ?_
  refine own_st (V := T3.setTop (mkF m 8 #[.val (.ref (A 1))] [(.ref (A 1))])) (fun t k => XS.aloadN X3.here hx rfl (hb hby own_d1_7) rfl rfl k) ?_
  obtain ⟨T4, X4, e4, st4⟩ := getS2 X3 hx hZ hown (host := "") (Or.inl (hw _ (List.mem_of_getElem? (i := 10) rfl))) Via.refl e3 (own_S En 3 (i := 3) (n := "NOT_RECEIVED") rfl) (g := (mkF m 8 #[.val (.ref (A 1))] [(.ref (A 1))])) rfl (hb hby own_d1_8)
  refine own_st (V := T4.setTop (mkF m 11 #[.val (.ref (A 1))] [(.ref (A 3)), (.ref (A 1))])) (fun t k => st4 _ k) ?_
  refine own_st (V := T4.setTop (mkF m 18 #[.val (.ref (A 1))] [])) (fun t k => Jvm.RoadKit.acmp (g := (mkF m 11 #[.val (.ref (A 1))] [(.ref (A 3)), (.ref (A 1))])) X4 hx rfl rfl rfl (pc0 := 11) (pc' := 18) (same := false) rfl (hb hby own_d1_11) rfl (decide_eq_false fun q => own_ne En 1 3 (i := 1) (n := "RELABELLED") (j := 3) (n' := "NOT_RECEIVED") rfl rfl (by decide) (Value.ref.inj q)) (by decide) (by decide) k) ?_
  refine own_st (V := T4.setTop (mkF m 19 #[.val (.ref (A 1))] [(.int (0 : Int32))])) (fun t k => XS.iconst X4.here hx rfl (hb hby own_d1_18) k) ?_
  exact own_ret X4 hx hlk Bd.returns (by decide +kernel) (Or.inl ⟨rfl, by simp, _, rfl⟩) (hb hby own_d1_19) (by decide) (by decide) (by show Q_own_isv1 Z A h0 n0 _ T4.heap _; rw [e4]; exact ⟨rfl, N0, rfl⟩)
def Q_own_isv2 (Z : State) (A : Nat → Addr) (h0 : Heap) (n0 : Nat) (v : Option Value) (h : Heap) (L : List Loc) : Prop := v = some (.int (1 : Int32)) ∧ Fr n0 L ∧ h = h0
theorem own_d1_14 : decode prog_43_method_4_code 14 = .ok (.iconst 1, 1) := by decide +kernel
theorem own_d1_15 : decode prog_43_method_4_code 15 = .ok (.goto 4, 3) := by decide +kernel
set_option maxRecDepth 65536 in
set_option maxHeartbeats 40000000 in
theorem own_isv2 (l : Launch) (Z : State) (a0 : Array Value) (hw : ∀ d ∈ tables_1, d.before a0 Z = true) (ws : List Jvm.Cond) (A : Nat → Addr) (h0 : Heap) (n0 : Nat) (Z0 : n0 ≤ h0.size) (En : own_En Z h0 A) :
    MetFree l (⟨"com/example/trust_grade/trustgrade/network/Transfer$Outcome", "isViolation", "()Z"⟩ : MethodName) (head1 (Jvm.Cond.code (⟨"com/example/trust_grade/trustgrade/network/Transfer$Outcome", "isViolation", "()Z"⟩ : MethodName) prog_43_method_4_code 1 (some .boolean) :: ws) ({ frames := 0, cells := 0, slots := 0, locals := 0 } : Room)) (fun a U => a = #[(.ref (A 2))] ∧ Z.Warmed39 U.vm ∧ U.heap = h0) (fun _ _ _ _ _ => True) (fun _ U o U' => ∃ v L, o = .returned v ∧ Q_own_isv2 Z A h0 n0 v U'.heap L ∧ FrameEnd U o U' L ({ frames := 0, cells := 0, slots := 0, locals := 0 } : Room).cells ({ frames := 0, cells := 0, slots := 0, locals := 0 } : Room).slots) := by
  refine MetFree.of_bodySF (plainFor_of_name own_pn_com_example_trust_grade_trustgrade_network_Transfer_Outcome) hisR ?_
  intro p e s m args below meth c s₁ Bd hml0 hP hK
  obtain ⟨rfl, hZ, hh⟩ := hP
  have hx := Bd.exec
  have hby := Bd.bytes
  have hml : c.maxLocals = 1 := hml0
  have hown : s.vm.findClass "com/example/trust_grade/trustgrade/network/Transfer$Outcome" = some m.cls := findClass_of_methodNamed Bd.named
  have hnm := (name_of_methodNamed Bd.named Bd.method).1
  have hlk : meth.locks = false := BodyLoose.notSynchronized Bd
  have X0 : Stand p l e ({ frames := 0, cells := 0, slots := 0, locals := 0 } : Room) s m #[(.ref (A 2))] below meth c s₁ [] 0 0 := Stand.of_body Bd
  have e0 : s₁.heap = h0 := by rw [← hh, Bd.state]; rfl
  have N0 := Fr.nil n0
  show own_Go p e below #[(.ref (A 2))] s (fun _ U o U' => ∃ v L, o = .returned v ∧ Q_own_isv2 Z A h0 n0 v U'.heap L ∧ FrameEnd U o U' L ({ frames := 0, cells := 0, slots := 0, locals := 0 } : Room).cells ({ frames := 0, cells := 0, slots := 0, locals := 0 } : Room).slots) (s₁.setTop (entryFrame m #[(.ref (A 2))] 1))
  refine own_st (V := s₁.setTop (mkF m 0 #[.val (.ref (A 2))] [])) (fun t k => castTop (by first | (simp [entryFrame, mkF, argsToLocals, Value.category]; done) | rfl) k) ?_
  refine own_st (V := s₁.setTop (mkF m 1 #[.val (.ref (A 2))] [(.ref (A 2))])) (fun t k => XS.aloadN X0.here hx rfl (hb hby own_d1_0) rfl rfl k) ?_
  obtain ⟨T5, X5, e5, st5⟩ := getS2 X0 hx hZ hown (host := "") (Or.inl (hw _ (List.mem_of_getElem? (i := 8) rfl))) Via.refl e0 (own_S En 2 (i := 2) (n := "NOT_SENT") rfl) (g := (mkF m 1 #[.val (.ref (A 2))] [(.ref (A 2))])) rfl (hb hby own_d1_1)
  refine own_st (V := T5.setTop (mkF m 4 #[.val (.ref (A 2))] [(.ref (A 2)), (.ref (A 2))])) (fun t k => st5 _ k) ?_
  refine own_st (V := T5.setTop (mkF m 14 #[.val (.ref (A 2))] [])) (fun t k => Jvm.RoadKit.acmp (g := (mkF m 4 #[.val (.ref (A 2))] [(.ref (A 2)), (.ref (A 2))])) X5 hx rfl rfl rfl (pc0 := 4) (pc' := 14) (same := true) rfl (hb hby own_d1_4) rfl (decide_eq_true rfl) (by decide) (by decide) k) ?_
  refine own_st (V := T5.setTop (mkF m 15 #[.val (.ref (A 2))] [(.int (1 : Int32))])) (fun t k => XS.iconst X5.here hx rfl (hb hby own_d1_14) k) ?_
  refine own_st (V := T5.setTop (mkF m 19 #[.val (.ref (A 2))] [(.int (1 : Int32))])) (fun t k => XS.goto X5.here hx rfl (pc0 := 15) (pc' := 19) rfl (hb hby own_d1_15) (by decide) (by decide) k) ?_
  exact own_ret X5 hx hlk Bd.returns (by decide +kernel) (Or.inl ⟨rfl, by simp, _, rfl⟩) (hb hby own_d1_19) (by decide) (by decide) (by show Q_own_isv2 Z A h0 n0 _ T5.heap _; rw [e5]; exact ⟨rfl, N0, rfl⟩)
def Q_own_isv3 (Z : State) (A : Nat → Addr) (h0 : Heap) (n0 : Nat) (v : Option Value) (h : Heap) (L : List Loc) : Prop := v = some (.int (1 : Int32)) ∧ Fr n0 L ∧ h = h0
set_option maxRecDepth 65536 in
set_option maxHeartbeats 40000000 in
theorem own_isv3 (l : Launch) (Z : State) (a0 : Array Value) (hw : ∀ d ∈ tables_1, d.before a0 Z = true) (ws : List Jvm.Cond) (A : Nat → Addr) (h0 : Heap) (n0 : Nat) (Z0 : n0 ≤ h0.size) (En : own_En Z h0 A) :
    MetFree l (⟨"com/example/trust_grade/trustgrade/network/Transfer$Outcome", "isViolation", "()Z"⟩ : MethodName) (head1 (Jvm.Cond.code (⟨"com/example/trust_grade/trustgrade/network/Transfer$Outcome", "isViolation", "()Z"⟩ : MethodName) prog_43_method_4_code 1 (some .boolean) :: ws) ({ frames := 0, cells := 0, slots := 0, locals := 0 } : Room)) (fun a U => a = #[(.ref (A 3))] ∧ Z.Warmed39 U.vm ∧ U.heap = h0) (fun _ _ _ _ _ => True) (fun _ U o U' => ∃ v L, o = .returned v ∧ Q_own_isv3 Z A h0 n0 v U'.heap L ∧ FrameEnd U o U' L ({ frames := 0, cells := 0, slots := 0, locals := 0 } : Room).cells ({ frames := 0, cells := 0, slots := 0, locals := 0 } : Room).slots) := by
  refine MetFree.of_bodySF (plainFor_of_name own_pn_com_example_trust_grade_trustgrade_network_Transfer_Outcome) hisR ?_
  intro p e s m args below meth c s₁ Bd hml0 hP hK
  obtain ⟨rfl, hZ, hh⟩ := hP
  have hx := Bd.exec
  have hby := Bd.bytes
  have hml : c.maxLocals = 1 := hml0
  have hown : s.vm.findClass "com/example/trust_grade/trustgrade/network/Transfer$Outcome" = some m.cls := findClass_of_methodNamed Bd.named
  have hnm := (name_of_methodNamed Bd.named Bd.method).1
  have hlk : meth.locks = false := BodyLoose.notSynchronized Bd
  have X0 : Stand p l e ({ frames := 0, cells := 0, slots := 0, locals := 0 } : Room) s m #[(.ref (A 3))] below meth c s₁ [] 0 0 := Stand.of_body Bd
  have e0 : s₁.heap = h0 := by rw [← hh, Bd.state]; rfl
  have N0 := Fr.nil n0
  show own_Go p e below #[(.ref (A 3))] s (fun _ U o U' => ∃ v L, o = .returned v ∧ Q_own_isv3 Z A h0 n0 v U'.heap L ∧ FrameEnd U o U' L ({ frames := 0, cells := 0, slots := 0, locals := 0 } : Room).cells ({ frames := 0, cells := 0, slots := 0, locals := 0 } : Room).slots) (s₁.setTop (entryFrame m #[(.ref (A 3))] 1))
  refine own_st (V := s₁.setTop (mkF m 0 #[.val (.ref (A 3))] [])) (fun t k => castTop (by first | (simp [entryFrame, mkF, argsToLocals, Value.category]; done) | rfl) k) ?_
  refine own_st (V := s₁.setTop (mkF m 1 #[.val (.ref (A 3))] [(.ref (A 3))])) (fun t k => XS.aloadN X0.here hx rfl (hb hby own_d1_0) rfl rfl k) ?_
  obtain ⟨T6, X6, e6, st6⟩ := getS2 X0 hx hZ hown (host := "") (Or.inl (hw _ (List.mem_of_getElem? (i := 8) rfl))) Via.refl e0 (own_S En 2 (i := 2) (n := "NOT_SENT") rfl) (g := (mkF m 1 #[.val (.ref (A 3))] [(.ref (A 3))])) rfl (hb hby own_d1_1)
  refine own_st (V := T6.setTop (mkF m 4 #[.val (.ref (A 3))] [(.ref (A 2)), (.ref (A 3))])) (fun t k => st6 _ k) ?_
  refine own_st (V := T6.setTop (mkF m 7 #[.val (.ref (A 3))] [])) (fun t k => Jvm.RoadKit.acmp (g := (mkF m 4 #[.val (.ref (A 3))] [(.ref (A 2)), (.ref (A 3))])) X6 hx rfl rfl rfl (pc0 := 4) (pc' := 7) (same := false) rfl (hb hby own_d1_4) rfl (decide_eq_false fun q => own_ne En 3 2 (i := 3) (n := "NOT_RECEIVED") (j := 2) (n' := "NOT_SENT") rfl rfl (by decide) (Value.ref.inj q)) (by decide) (by decide) k) ?_
  refine own_st (V := T6.setTop (mkF m 8 #[.val (.ref (A 3))] [(.ref (A 3))])) (fun t k => XS.aloadN X6.here hx rfl (hb hby own_d1_7) rfl rfl k) ?_
  obtain ⟨T7, X7, e7, st7⟩ := getS2 X6 hx hZ hown (host := "") (Or.inl (hw _ (List.mem_of_getElem? (i := 10) rfl))) Via.refl e6 (own_S En 3 (i := 3) (n := "NOT_RECEIVED") rfl) (g := (mkF m 8 #[.val (.ref (A 3))] [(.ref (A 3))])) rfl (hb hby own_d1_8)
  refine own_st (V := T7.setTop (mkF m 11 #[.val (.ref (A 3))] [(.ref (A 3)), (.ref (A 3))])) (fun t k => st7 _ k) ?_
  refine own_st (V := T7.setTop (mkF m 14 #[.val (.ref (A 3))] [])) (fun t k => Jvm.RoadKit.acmp (g := (mkF m 11 #[.val (.ref (A 3))] [(.ref (A 3)), (.ref (A 3))])) X7 hx rfl rfl rfl (pc0 := 11) (pc' := 14) (same := true) rfl (hb hby own_d1_11) rfl (decide_eq_true rfl) (by decide) (by decide) k) ?_
  refine own_st (V := T7.setTop (mkF m 15 #[.val (.ref (A 3))] [(.int (1 : Int32))])) (fun t k => XS.iconst X7.here hx rfl (hb hby own_d1_14) k) ?_
  refine own_st (V := T7.setTop (mkF m 19 #[.val (.ref (A 3))] [(.int (1 : Int32))])) (fun t k => XS.goto X7.here hx rfl (pc0 := 15) (pc' := 19) rfl (hb hby own_d1_15) (by decide) (by decide) k) ?_
  exact own_ret X7 hx hlk Bd.returns (by decide +kernel) (Or.inl ⟨rfl, by simp, _, rfl⟩) (hb hby own_d1_19) (by decide) (by decide) (by show Q_own_isv3 Z A h0 n0 _ T7.heap _; rw [e7]; exact ⟨rfl, N0, rfl⟩)
theorem own_c (x : Int32) : (x &&& (3 : Int32)) = (0 : Int32) ∨ (x &&& (3 : Int32)) = (1 : Int32) ∨ (x &&& (3 : Int32)) = (2 : Int32) ∨ (x &&& (3 : Int32)) = (3 : Int32) := by
  have h := c_mask x 3 2 (by decide) (by decide)
  have e : ∀ k : Int32, (x &&& (3 : Int32)).toInt = k.toInt → (x &&& (3 : Int32)) = k := fun k q => Int32.toInt_inj.mp q
  have b : (x &&& (3 : Int32)).toInt = 0 ∨ (x &&& (3 : Int32)).toInt = 1 ∨ (x &&& (3 : Int32)).toInt = 2 ∨ (x &&& (3 : Int32)).toInt = 3 := by omega
  rcases b with b | b | b | b
  · exact Or.inl (e 0 b)
  · exact Or.inr (Or.inl (e 1 b))
  · exact Or.inr (Or.inr (Or.inl (e 2 b)))
  · exact Or.inr (Or.inr (Or.inr (e 3 b)))
def own_Q0 (Z : State) (p1 : Int32) (A : Nat → Addr) (h0 : Heap) (n0 : Nat) (v : Option Value) (h : Heap) (L : List Loc) : Prop := v = some (.int (1 : Int32)) ∧ Fr n0 L
theorem own_pd0 : parseMethodDescriptor "()Z" = some ⟨[], some .boolean⟩ := by decide +kernel
theorem own_pn_com_example_trust_grade_trustgrade_network_OutcomeIsViolationPinLaw : plainName "com/example/trust_grade/trustgrade/network/OutcomeIsViolationPinLaw" = true := by first | (simp [plainName, overriddenIn]; done) | decide +kernel
set_option maxRecDepth 65536 in
set_option maxHeartbeats 40000000 in
theorem own_law0 (l : Launch) (Z : State) (a0 : Array Value) (hw : ∀ d ∈ tables_1, d.before a0 Z = true) (ws : List Jvm.Cond) (p1 : Int32) (A : Nat → Addr) (h0 : Heap) (n0 : Nat) (Z0 : n0 ≤ h0.size) (En : own_En Z h0 A) (hk : (p1 &&& (3 : Int32)) = (0 : Int32)) :
    MetFree l x (head1 (Jvm.Cond.code x code maxLocals ret :: ws) room_1) (fun a U => a = #[(.int p1)] ∧ Z.Warmed39 U.vm ∧ U.heap = h0) (fun _ _ _ _ _ => True) (fun _ U o U' => ∃ v L, o = .returned v ∧ own_Q0 Z p1 A h0 n0 v U'.heap L ∧ FrameEnd U o U' L room_1.cells room_1.slots) := by
  refine MetFree.of_bodySF (plainFor_of_name own_pn_com_example_trust_grade_trustgrade_network_OutcomeIsViolationPinLaw) hisR ?_
  intro p e s m args below meth c s₁ Bd hml0 hP hK
  obtain ⟨rfl, hZ, hh⟩ := hP
  have hx := Bd.exec
  have hby := Bd.bytes
  have hml : c.maxLocals = 4 := hml0
  have hown : s.vm.findClass "com/example/trust_grade/trustgrade/network/OutcomeIsViolationPinLaw" = some m.cls := findClass_of_methodNamed Bd.named
  have hnm := (name_of_methodNamed Bd.named Bd.method).1
  have hlk : meth.locks = false := BodyLoose.notSynchronized Bd
  have X0 : Stand p l e room_1 s m #[(.int p1)] below meth c s₁ [] 0 0 := Stand.of_body Bd
  have e0 : s₁.heap = h0 := by rw [← hh, Bd.state]; rfl
  have N0 := Fr.nil n0
  show own_Go p e below #[(.int p1)] s (fun _ U o U' => ∃ v L, o = .returned v ∧ own_Q0 Z p1 A h0 n0 v U'.heap L ∧ FrameEnd U o U' L room_1.cells room_1.slots) (s₁.setTop (entryFrame m #[(.int p1)] maxLocals))
  refine own_st (V := s₁.setTop (mkF m 0 #[.val (.int p1), .unset, .unset, .unset] [])) (fun t k => castTop (by first | (simp [entryFrame, mkF, argsToLocals, Value.category, maxLocals]; done) | rfl) k) ?_
  refine own_st (V := s₁.setTop (mkF m 1 #[.val (.int p1), .unset, .unset, .unset] [(.int p1)])) (fun t k => XS.iloadN X0.here hx rfl (hb hby at_0) rfl k) ?_
  refine own_st (V := s₁.setTop (mkF m 2 #[.val (.int p1), .unset, .unset, .unset] [(.int (3 : Int32)), (.int p1)])) (fun t k => XS.iconst X0.here hx rfl (hb hby at_1) k) ?_
  refine own_st (V := s₁.setTop (mkF m 3 #[.val (.int p1), .unset, .unset, .unset] [(.int (p1 &&& (3 : Int32)))])) (fun t k => XS.iand X0.here hx rfl (hb hby at_2) rfl k) ?_
  rw [hk]
  refine own_st (V := s₁.setTop (mkF m 4 #[.val (.int p1), .val (.int (0 : Int32)), .unset, .unset] [])) (fun t k => XS.istoreN X0.here hx rfl (hb hby at_3) rfl (l' := #[.val (.int p1), .val (.int (0 : Int32)), .unset, .unset]) rfl k) ?_
  refine own_st (V := s₁.setTop (mkF m 5 #[.val (.int p1), .val (.int (0 : Int32)), .unset, .unset] [(.int (0 : Int32))])) (fun t k => XS.iloadN X0.here hx rfl (hb hby at_4) rfl k) ?_
  refine own_st (V := s₁.setTop (mkF m 8 #[.val (.int p1), .val (.int (0 : Int32)), .unset, .unset] [])) (fun t k => XS.ifNo X0.here hx rfl (hb hby at_5) rfl ((if0 _ _).trans (teq (by decide : (0 : Int32) = (0 : Int32))).2) k) ?_
  obtain ⟨T8, X8, e8, st8⟩ := getS2 X0 hx hZ hown (host := "") (Or.inl (hw _ (List.mem_of_getElem? (i := 0) rfl))) Via.refl e0 (own_S En 0 (i := 0) (n := "RECEIVED") rfl) (g := (mkF m 8 #[.val (.int p1), .val (.int (0 : Int32)), .unset, .unset] [])) rfl (hb hby at_8)
  refine own_st (V := T8.setTop (mkF m 11 #[.val (.int p1), .val (.int (0 : Int32)), .unset, .unset] [(.ref (A 0))])) (fun t k => st8 _ k) ?_
  refine own_st (V := T8.setTop (mkF m 12 #[.val (.int p1), .val (.int (0 : Int32)), .val (.ref (A 0)), .unset] [])) (fun t k => XS.astoreN X8.here hx rfl (hb hby at_11) rfl rfl (l' := #[.val (.int p1), .val (.int (0 : Int32)), .val (.ref (A 0)), .unset]) rfl k) ?_
  refine own_st (V := T8.setTop (mkF m 13 #[.val (.int p1), .val (.int (0 : Int32)), .val (.ref (A 0)), .unset] [(.int (0 : Int32))])) (fun t k => XS.iconst X8.here hx rfl (hb hby at_12) k) ?_
  refine own_st (V := T8.setTop (mkF m 14 #[.val (.int p1), .val (.int (0 : Int32)), .val (.ref (A 0)), .val (.int (0 : Int32))] [])) (fun t k => XS.istoreN X8.here hx rfl (hb hby at_13) rfl (l' := #[.val (.int p1), .val (.int (0 : Int32)), .val (.ref (A 0)), .val (.int (0 : Int32))]) rfl k) ?_
  refine own_st (V := T8.setTop (mkF m 51 #[.val (.int p1), .val (.int (0 : Int32)), .val (.ref (A 0)), .val (.int (0 : Int32))] [])) (fun t k => XS.goto X8.here hx rfl (pc0 := 14) (pc' := 51) rfl (hb hby at_14) (by decide) (by decide) k) ?_
  refine own_st (V := T8.setTop (mkF m 52 #[.val (.int p1), .val (.int (0 : Int32)), .val (.ref (A 0)), .val (.int (0 : Int32))] [(.ref (A 0))])) (fun t k => XS.aloadN X8.here hx rfl (hb hby at_51) rfl rfl k) ?_
  obtain ⟨cq9, kq9, q9a, q9b, q9c⟩ := isOf hZ e8 (own_E En 0 (i := 0) (n := "RECEIVED") rfl)
  obtain ⟨_, _, ⟨T9, L9, k9, n9⟩, -, X9, ⟨Lc9, hQ9, l9, y9, z9⟩, st9⟩ := X8.virtualBack hx (y := (⟨"com/example/trust_grade/trustgrade/network/Transfer$Outcome", "isViolation", "()Z"⟩ : MethodName)) (z := (⟨"com/example/trust_grade/trustgrade/network/Transfer$Outcome", "isViolation", "()Z"⟩ : MethodName)) hown (mvT hZ (hw _ (List.mem_of_getElem? (i := 3) rfl))) (mvT hZ (hw _ (List.mem_of_getElem? (i := 4) rfl))) (notFace_of_selects (args := #[]) (mvT hZ (hw _ (List.mem_of_getElem? (i := 6) rfl)))) (mvT hZ (hw _ (List.mem_of_getElem? (i := 6) rfl))) (mvT hZ (hw _ (List.mem_of_getElem? (i := 5) rfl))) (by decide) (backOf (W := 0) (own_isv0 l Z a0 hw [] A h0 n0 Z0 En ) hZ (hw _ (List.mem_of_getElem? (i := 7) rfl)) (hw _ (List.mem_of_getElem? (i := 1) rfl)) (by decide) (by decide)) q9a q9c (g := (mkF m 52 #[.val (.int p1), .val (.int (0 : Int32)), .val (.ref (A 0)), .val (.int (0 : Int32))] [(.ref (A 0))])) rfl (by rw [hml]; rfl) (Steps.refl _) (argsL := []) (rest := []) (lenOf own_pd0 rfl) rfl (by show 2 * 0 + _ ≤ _; exact Nat.le_of_eq rfl) (hb hby at_52) (fun _ _ => ⟨rfl, e8, (by decide : 0 + 0 ≤ _), (by decide : 0 + 0 ≤ _)⟩)
  dsimp only [Pt.U, Pt.locs, Pt.cells, Pt.slots] at X9 l9 y9 z9 st9 hQ9
  subst l9 y9 z9
  obtain ⟨rfl, N9q, e9⟩ := hQ9
  have N9 := Fr.app N0 N9q
  refine own_st (V := T9.setTop (mkF m 55 #[.val (.int p1), .val (.int (0 : Int32)), .val (.ref (A 0)), .val (.int (0 : Int32))] [(.int (0 : Int32))])) (fun t k => st9.trans k) ?_
  refine own_st (V := T9.setTop (mkF m 56 #[.val (.int p1), .val (.int (0 : Int32)), .val (.ref (A 0)), .val (.int (0 : Int32))] [(.int (0 : Int32)), (.int (0 : Int32))])) (fun t k => XS.iloadN X9.here hx rfl (hb hby at_55) rfl k) ?_
  refine own_st (V := T9.setTop (mkF m 59 #[.val (.int p1), .val (.int (0 : Int32)), .val (.ref (A 0)), .val (.int (0 : Int32))] [])) (fun t k => XS.icmpNo X9.here hx rfl (hb hby at_56) rfl (teq (by decide : (0 : Int32) = (0 : Int32))).2 k) ?_
  refine own_st (V := T9.setTop (mkF m 60 #[.val (.int p1), .val (.int (0 : Int32)), .val (.ref (A 0)), .val (.int (0 : Int32))] [(.int (1 : Int32))])) (fun t k => XS.iconst X9.here hx rfl (hb hby at_59) k) ?_
  refine own_st (V := T9.setTop (mkF m 64 #[.val (.int p1), .val (.int (0 : Int32)), .val (.ref (A 0)), .val (.int (0 : Int32))] [(.int (1 : Int32))])) (fun t k => XS.goto X9.here hx rfl (pc0 := 60) (pc' := 64) rfl (hb hby at_60) (by decide) (by decide) k) ?_
  exact own_ret X9 hx hlk Bd.returns (by decide +kernel) (Or.inl ⟨rfl, by simp, _, rfl⟩) (hb hby at_64) (by decide) (by decide) (by show own_Q0 Z p1 A h0 n0 _ T9.heap _; rw [e9]; exact ⟨rfl, N9⟩)
set_option maxRecDepth 65536 in
set_option maxHeartbeats 40000000 in
theorem own_law1 (l : Launch) (Z : State) (a0 : Array Value) (hw : ∀ d ∈ tables_1, d.before a0 Z = true) (ws : List Jvm.Cond) (p1 : Int32) (A : Nat → Addr) (h0 : Heap) (n0 : Nat) (Z0 : n0 ≤ h0.size) (En : own_En Z h0 A) (hk : (p1 &&& (3 : Int32)) = (1 : Int32)) :
    MetFree l x (head1 (Jvm.Cond.code x code maxLocals ret :: ws) room_1) (fun a U => a = #[(.int p1)] ∧ Z.Warmed39 U.vm ∧ U.heap = h0) (fun _ _ _ _ _ => True) (fun _ U o U' => ∃ v L, o = .returned v ∧ own_Q0 Z p1 A h0 n0 v U'.heap L ∧ FrameEnd U o U' L room_1.cells room_1.slots) := by
  refine MetFree.of_bodySF (plainFor_of_name own_pn_com_example_trust_grade_trustgrade_network_OutcomeIsViolationPinLaw) hisR ?_
  intro p e s m args below meth c s₁ Bd hml0 hP hK
  obtain ⟨rfl, hZ, hh⟩ := hP
  have hx := Bd.exec
  have hby := Bd.bytes
  have hml : c.maxLocals = 4 := hml0
  have hown : s.vm.findClass "com/example/trust_grade/trustgrade/network/OutcomeIsViolationPinLaw" = some m.cls := findClass_of_methodNamed Bd.named
  have hnm := (name_of_methodNamed Bd.named Bd.method).1
  have hlk : meth.locks = false := BodyLoose.notSynchronized Bd
  have X0 : Stand p l e room_1 s m #[(.int p1)] below meth c s₁ [] 0 0 := Stand.of_body Bd
  have e0 : s₁.heap = h0 := by rw [← hh, Bd.state]; rfl
  have N0 := Fr.nil n0
  show own_Go p e below #[(.int p1)] s (fun _ U o U' => ∃ v L, o = .returned v ∧ own_Q0 Z p1 A h0 n0 v U'.heap L ∧ FrameEnd U o U' L room_1.cells room_1.slots) (s₁.setTop (entryFrame m #[(.int p1)] maxLocals))
  refine own_st (V := s₁.setTop (mkF m 0 #[.val (.int p1), .unset, .unset, .unset] [])) (fun t k => castTop (by first | (simp [entryFrame, mkF, argsToLocals, Value.category, maxLocals]; done) | rfl) k) ?_
  refine own_st (V := s₁.setTop (mkF m 1 #[.val (.int p1), .unset, .unset, .unset] [(.int p1)])) (fun t k => XS.iloadN X0.here hx rfl (hb hby at_0) rfl k) ?_
  refine own_st (V := s₁.setTop (mkF m 2 #[.val (.int p1), .unset, .unset, .unset] [(.int (3 : Int32)), (.int p1)])) (fun t k => XS.iconst X0.here hx rfl (hb hby at_1) k) ?_
  refine own_st (V := s₁.setTop (mkF m 3 #[.val (.int p1), .unset, .unset, .unset] [(.int (p1 &&& (3 : Int32)))])) (fun t k => XS.iand X0.here hx rfl (hb hby at_2) rfl k) ?_
  rw [hk]
  refine own_st (V := s₁.setTop (mkF m 4 #[.val (.int p1), .val (.int (1 : Int32)), .unset, .unset] [])) (fun t k => XS.istoreN X0.here hx rfl (hb hby at_3) rfl (l' := #[.val (.int p1), .val (.int (1 : Int32)), .unset, .unset]) rfl k) ?_
  refine own_st (V := s₁.setTop (mkF m 5 #[.val (.int p1), .val (.int (1 : Int32)), .unset, .unset] [(.int (1 : Int32))])) (fun t k => XS.iloadN X0.here hx rfl (hb hby at_4) rfl k) ?_
  refine own_st (V := s₁.setTop (mkF m 17 #[.val (.int p1), .val (.int (1 : Int32)), .unset, .unset] [])) (fun t k => XS.ifYes X0.here hx rfl (pc0 := 5) (pc' := 17) rfl (hb hby at_5) rfl ((if0 _ _).trans (feq (by decide : ¬ ((1 : Int32) = (0 : Int32)))).2) (by decide) (by decide) k) ?_
  refine own_st (V := s₁.setTop (mkF m 18 #[.val (.int p1), .val (.int (1 : Int32)), .unset, .unset] [(.int (1 : Int32))])) (fun t k => XS.iloadN X0.here hx rfl (hb hby at_17) rfl k) ?_
  refine own_st (V := s₁.setTop (mkF m 19 #[.val (.int p1), .val (.int (1 : Int32)), .unset, .unset] [(.int (1 : Int32)), (.int (1 : Int32))])) (fun t k => XS.iconst X0.here hx rfl (hb hby at_18) k) ?_
  refine own_st (V := s₁.setTop (mkF m 22 #[.val (.int p1), .val (.int (1 : Int32)), .unset, .unset] [])) (fun t k => XS.icmpNo X0.here hx rfl (hb hby at_19) rfl (teq (by decide : (1 : Int32) = (1 : Int32))).2 k) ?_
  obtain ⟨T10, X10, e10, st10⟩ := getS2 X0 hx hZ hown (host := "") (Or.inl (hw _ (List.mem_of_getElem? (i := 14) rfl))) Via.refl e0 (own_S En 1 (i := 1) (n := "RELABELLED") rfl) (g := (mkF m 22 #[.val (.int p1), .val (.int (1 : Int32)), .unset, .unset] [])) rfl (hb hby at_22)
  refine own_st (V := T10.setTop (mkF m 25 #[.val (.int p1), .val (.int (1 : Int32)), .unset, .unset] [(.ref (A 1))])) (fun t k => st10 _ k) ?_
  refine own_st (V := T10.setTop (mkF m 26 #[.val (.int p1), .val (.int (1 : Int32)), .val (.ref (A 1)), .unset] [])) (fun t k => XS.astoreN X10.here hx rfl (hb hby at_25) rfl rfl (l' := #[.val (.int p1), .val (.int (1 : Int32)), .val (.ref (A 1)), .unset]) rfl k) ?_
  refine own_st (V := T10.setTop (mkF m 27 #[.val (.int p1), .val (.int (1 : Int32)), .val (.ref (A 1)), .unset] [(.int (0 : Int32))])) (fun t k => XS.iconst X10.here hx rfl (hb hby at_26) k) ?_
  refine own_st (V := T10.setTop (mkF m 28 #[.val (.int p1), .val (.int (1 : Int32)), .val (.ref (A 1)), .val (.int (0 : Int32))] [])) (fun t k => XS.istoreN X10.here hx rfl (hb hby at_27) rfl (l' := #[.val (.int p1), .val (.int (1 : Int32)), .val (.ref (A 1)), .val (.int (0 : Int32))]) rfl k) ?_
  refine own_st (V := T10.setTop (mkF m 51 #[.val (.int p1), .val (.int (1 : Int32)), .val (.ref (A 1)), .val (.int (0 : Int32))] [])) (fun t k => XS.goto X10.here hx rfl (pc0 := 28) (pc' := 51) rfl (hb hby at_28) (by decide) (by decide) k) ?_
  refine own_st (V := T10.setTop (mkF m 52 #[.val (.int p1), .val (.int (1 : Int32)), .val (.ref (A 1)), .val (.int (0 : Int32))] [(.ref (A 1))])) (fun t k => XS.aloadN X10.here hx rfl (hb hby at_51) rfl rfl k) ?_
  obtain ⟨cq11, kq11, q11a, q11b, q11c⟩ := isOf hZ e10 (own_E En 1 (i := 1) (n := "RELABELLED") rfl)
  obtain ⟨_, _, ⟨T11, L11, k11, n11⟩, -, X11, ⟨Lc11, hQ11, l11, y11, z11⟩, st11⟩ := X10.virtualBack hx (y := (⟨"com/example/trust_grade/trustgrade/network/Transfer$Outcome", "isViolation", "()Z"⟩ : MethodName)) (z := (⟨"com/example/trust_grade/trustgrade/network/Transfer$Outcome", "isViolation", "()Z"⟩ : MethodName)) hown (mvT hZ (hw _ (List.mem_of_getElem? (i := 3) rfl))) (mvT hZ (hw _ (List.mem_of_getElem? (i := 4) rfl))) (notFace_of_selects (args := #[]) (mvT hZ (hw _ (List.mem_of_getElem? (i := 6) rfl)))) (mvT hZ (hw _ (List.mem_of_getElem? (i := 6) rfl))) (mvT hZ (hw _ (List.mem_of_getElem? (i := 5) rfl))) (by decide) (backOf (W := 0) (own_isv1 l Z a0 hw [] A h0 n0 Z0 En ) hZ (hw _ (List.mem_of_getElem? (i := 7) rfl)) (hw _ (List.mem_of_getElem? (i := 1) rfl)) (by decide) (by decide)) q11a q11c (g := (mkF m 52 #[.val (.int p1), .val (.int (1 : Int32)), .val (.ref (A 1)), .val (.int (0 : Int32))] [(.ref (A 1))])) rfl (by rw [hml]; rfl) (Steps.refl _) (argsL := []) (rest := []) (lenOf own_pd0 rfl) rfl (by show 2 * 0 + _ ≤ _; exact Nat.le_of_eq rfl) (hb hby at_52) (fun _ _ => ⟨rfl, e10, (by decide : 0 + 0 ≤ _), (by decide : 0 + 0 ≤ _)⟩)
  dsimp only [Pt.U, Pt.locs, Pt.cells, Pt.slots] at X11 l11 y11 z11 st11 hQ11
  subst l11 y11 z11
  obtain ⟨rfl, N11q, e11⟩ := hQ11
  have N11 := Fr.app N0 N11q
  refine own_st (V := T11.setTop (mkF m 55 #[.val (.int p1), .val (.int (1 : Int32)), .val (.ref (A 1)), .val (.int (0 : Int32))] [(.int (0 : Int32))])) (fun t k => st11.trans k) ?_
  refine own_st (V := T11.setTop (mkF m 56 #[.val (.int p1), .val (.int (1 : Int32)), .val (.ref (A 1)), .val (.int (0 : Int32))] [(.int (0 : Int32)), (.int (0 : Int32))])) (fun t k => XS.iloadN X11.here hx rfl (hb hby at_55) rfl k) ?_
  refine own_st (V := T11.setTop (mkF m 59 #[.val (.int p1), .val (.int (1 : Int32)), .val (.ref (A 1)), .val (.int (0 : Int32))] [])) (fun t k => XS.icmpNo X11.here hx rfl (hb hby at_56) rfl (teq (by decide : (0 : Int32) = (0 : Int32))).2 k) ?_
  refine own_st (V := T11.setTop (mkF m 60 #[.val (.int p1), .val (.int (1 : Int32)), .val (.ref (A 1)), .val (.int (0 : Int32))] [(.int (1 : Int32))])) (fun t k => XS.iconst X11.here hx rfl (hb hby at_59) k) ?_
  refine own_st (V := T11.setTop (mkF m 64 #[.val (.int p1), .val (.int (1 : Int32)), .val (.ref (A 1)), .val (.int (0 : Int32))] [(.int (1 : Int32))])) (fun t k => XS.goto X11.here hx rfl (pc0 := 60) (pc' := 64) rfl (hb hby at_60) (by decide) (by decide) k) ?_
  exact own_ret X11 hx hlk Bd.returns (by decide +kernel) (Or.inl ⟨rfl, by simp, _, rfl⟩) (hb hby at_64) (by decide) (by decide) (by show own_Q0 Z p1 A h0 n0 _ T11.heap _; rw [e11]; exact ⟨rfl, N11⟩)
set_option maxRecDepth 65536 in
set_option maxHeartbeats 40000000 in
theorem own_law2 (l : Launch) (Z : State) (a0 : Array Value) (hw : ∀ d ∈ tables_1, d.before a0 Z = true) (ws : List Jvm.Cond) (p1 : Int32) (A : Nat → Addr) (h0 : Heap) (n0 : Nat) (Z0 : n0 ≤ h0.size) (En : own_En Z h0 A) (hk : (p1 &&& (3 : Int32)) = (2 : Int32)) :
    MetFree l x (head1 (Jvm.Cond.code x code maxLocals ret :: ws) room_1) (fun a U => a = #[(.int p1)] ∧ Z.Warmed39 U.vm ∧ U.heap = h0) (fun _ _ _ _ _ => True) (fun _ U o U' => ∃ v L, o = .returned v ∧ own_Q0 Z p1 A h0 n0 v U'.heap L ∧ FrameEnd U o U' L room_1.cells room_1.slots) := by
  refine MetFree.of_bodySF (plainFor_of_name own_pn_com_example_trust_grade_trustgrade_network_OutcomeIsViolationPinLaw) hisR ?_
  intro p e s m args below meth c s₁ Bd hml0 hP hK
  obtain ⟨rfl, hZ, hh⟩ := hP
  have hx := Bd.exec
  have hby := Bd.bytes
  have hml : c.maxLocals = 4 := hml0
  have hown : s.vm.findClass "com/example/trust_grade/trustgrade/network/OutcomeIsViolationPinLaw" = some m.cls := findClass_of_methodNamed Bd.named
  have hnm := (name_of_methodNamed Bd.named Bd.method).1
  have hlk : meth.locks = false := BodyLoose.notSynchronized Bd
  have X0 : Stand p l e room_1 s m #[(.int p1)] below meth c s₁ [] 0 0 := Stand.of_body Bd
  have e0 : s₁.heap = h0 := by rw [← hh, Bd.state]; rfl
  have N0 := Fr.nil n0
  show own_Go p e below #[(.int p1)] s (fun _ U o U' => ∃ v L, o = .returned v ∧ own_Q0 Z p1 A h0 n0 v U'.heap L ∧ FrameEnd U o U' L room_1.cells room_1.slots) (s₁.setTop (entryFrame m #[(.int p1)] maxLocals))
  refine own_st (V := s₁.setTop (mkF m 0 #[.val (.int p1), .unset, .unset, .unset] [])) (fun t k => castTop (by first | (simp [entryFrame, mkF, argsToLocals, Value.category, maxLocals]; done) | rfl) k) ?_
  refine own_st (V := s₁.setTop (mkF m 1 #[.val (.int p1), .unset, .unset, .unset] [(.int p1)])) (fun t k => XS.iloadN X0.here hx rfl (hb hby at_0) rfl k) ?_
  refine own_st (V := s₁.setTop (mkF m 2 #[.val (.int p1), .unset, .unset, .unset] [(.int (3 : Int32)), (.int p1)])) (fun t k => XS.iconst X0.here hx rfl (hb hby at_1) k) ?_
  refine own_st (V := s₁.setTop (mkF m 3 #[.val (.int p1), .unset, .unset, .unset] [(.int (p1 &&& (3 : Int32)))])) (fun t k => XS.iand X0.here hx rfl (hb hby at_2) rfl k) ?_
  rw [hk]
  refine own_st (V := s₁.setTop (mkF m 4 #[.val (.int p1), .val (.int (2 : Int32)), .unset, .unset] [])) (fun t k => XS.istoreN X0.here hx rfl (hb hby at_3) rfl (l' := #[.val (.int p1), .val (.int (2 : Int32)), .unset, .unset]) rfl k) ?_
  refine own_st (V := s₁.setTop (mkF m 5 #[.val (.int p1), .val (.int (2 : Int32)), .unset, .unset] [(.int (2 : Int32))])) (fun t k => XS.iloadN X0.here hx rfl (hb hby at_4) rfl k) ?_
  refine own_st (V := s₁.setTop (mkF m 17 #[.val (.int p1), .val (.int (2 : Int32)), .unset, .unset] [])) (fun t k => XS.ifYes X0.here hx rfl (pc0 := 5) (pc' := 17) rfl (hb hby at_5) rfl ((if0 _ _).trans (feq (by decide : ¬ ((2 : Int32) = (0 : Int32)))).2) (by decide) (by decide) k) ?_
  refine own_st (V := s₁.setTop (mkF m 18 #[.val (.int p1), .val (.int (2 : Int32)), .unset, .unset] [(.int (2 : Int32))])) (fun t k => XS.iloadN X0.here hx rfl (hb hby at_17) rfl k) ?_
  refine own_st (V := s₁.setTop (mkF m 19 #[.val (.int p1), .val (.int (2 : Int32)), .unset, .unset] [(.int (1 : Int32)), (.int (2 : Int32))])) (fun t k => XS.iconst X0.here hx rfl (hb hby at_18) k) ?_
  refine own_st (V := s₁.setTop (mkF m 31 #[.val (.int p1), .val (.int (2 : Int32)), .unset, .unset] [])) (fun t k => XS.icmpYes X0.here hx rfl (pc0 := 19) (pc' := 31) rfl (hb hby at_19) rfl (feq (by decide : ¬ ((2 : Int32) = (1 : Int32)))).2 (by decide) (by decide) k) ?_
  refine own_st (V := s₁.setTop (mkF m 32 #[.val (.int p1), .val (.int (2 : Int32)), .unset, .unset] [(.int (2 : Int32))])) (fun t k => XS.iloadN X0.here hx rfl (hb hby at_31) rfl k) ?_
  refine own_st (V := s₁.setTop (mkF m 33 #[.val (.int p1), .val (.int (2 : Int32)), .unset, .unset] [(.int (2 : Int32)), (.int (2 : Int32))])) (fun t k => XS.iconst X0.here hx rfl (hb hby at_32) k) ?_
  refine own_st (V := s₁.setTop (mkF m 36 #[.val (.int p1), .val (.int (2 : Int32)), .unset, .unset] [])) (fun t k => XS.icmpNo X0.here hx rfl (hb hby at_33) rfl (teq (by decide : (2 : Int32) = (2 : Int32))).2 k) ?_
  obtain ⟨T12, X12, e12, st12⟩ := getS2 X0 hx hZ hown (host := "") (Or.inl (hw _ (List.mem_of_getElem? (i := 13) rfl))) Via.refl e0 (own_S En 2 (i := 2) (n := "NOT_SENT") rfl) (g := (mkF m 36 #[.val (.int p1), .val (.int (2 : Int32)), .unset, .unset] [])) rfl (hb hby at_36)
  refine own_st (V := T12.setTop (mkF m 39 #[.val (.int p1), .val (.int (2 : Int32)), .unset, .unset] [(.ref (A 2))])) (fun t k => st12 _ k) ?_
  refine own_st (V := T12.setTop (mkF m 40 #[.val (.int p1), .val (.int (2 : Int32)), .val (.ref (A 2)), .unset] [])) (fun t k => XS.astoreN X12.here hx rfl (hb hby at_39) rfl rfl (l' := #[.val (.int p1), .val (.int (2 : Int32)), .val (.ref (A 2)), .unset]) rfl k) ?_
  refine own_st (V := T12.setTop (mkF m 41 #[.val (.int p1), .val (.int (2 : Int32)), .val (.ref (A 2)), .unset] [(.int (1 : Int32))])) (fun t k => XS.iconst X12.here hx rfl (hb hby at_40) k) ?_
  refine own_st (V := T12.setTop (mkF m 42 #[.val (.int p1), .val (.int (2 : Int32)), .val (.ref (A 2)), .val (.int (1 : Int32))] [])) (fun t k => XS.istoreN X12.here hx rfl (hb hby at_41) rfl (l' := #[.val (.int p1), .val (.int (2 : Int32)), .val (.ref (A 2)), .val (.int (1 : Int32))]) rfl k) ?_
  refine own_st (V := T12.setTop (mkF m 51 #[.val (.int p1), .val (.int (2 : Int32)), .val (.ref (A 2)), .val (.int (1 : Int32))] [])) (fun t k => XS.goto X12.here hx rfl (pc0 := 42) (pc' := 51) rfl (hb hby at_42) (by decide) (by decide) k) ?_
  refine own_st (V := T12.setTop (mkF m 52 #[.val (.int p1), .val (.int (2 : Int32)), .val (.ref (A 2)), .val (.int (1 : Int32))] [(.ref (A 2))])) (fun t k => XS.aloadN X12.here hx rfl (hb hby at_51) rfl rfl k) ?_
  obtain ⟨cq13, kq13, q13a, q13b, q13c⟩ := isOf hZ e12 (own_E En 2 (i := 2) (n := "NOT_SENT") rfl)
  obtain ⟨_, _, ⟨T13, L13, k13, n13⟩, -, X13, ⟨Lc13, hQ13, l13, y13, z13⟩, st13⟩ := X12.virtualBack hx (y := (⟨"com/example/trust_grade/trustgrade/network/Transfer$Outcome", "isViolation", "()Z"⟩ : MethodName)) (z := (⟨"com/example/trust_grade/trustgrade/network/Transfer$Outcome", "isViolation", "()Z"⟩ : MethodName)) hown (mvT hZ (hw _ (List.mem_of_getElem? (i := 3) rfl))) (mvT hZ (hw _ (List.mem_of_getElem? (i := 4) rfl))) (notFace_of_selects (args := #[]) (mvT hZ (hw _ (List.mem_of_getElem? (i := 6) rfl)))) (mvT hZ (hw _ (List.mem_of_getElem? (i := 6) rfl))) (mvT hZ (hw _ (List.mem_of_getElem? (i := 5) rfl))) (by decide) (backOf (W := 0) (own_isv2 l Z a0 hw [] A h0 n0 Z0 En ) hZ (hw _ (List.mem_of_getElem? (i := 7) rfl)) (hw _ (List.mem_of_getElem? (i := 1) rfl)) (by decide) (by decide)) q13a q13c (g := (mkF m 52 #[.val (.int p1), .val (.int (2 : Int32)), .val (.ref (A 2)), .val (.int (1 : Int32))] [(.ref (A 2))])) rfl (by rw [hml]; rfl) (Steps.refl _) (argsL := []) (rest := []) (lenOf own_pd0 rfl) rfl (by show 2 * 0 + _ ≤ _; exact Nat.le_of_eq rfl) (hb hby at_52) (fun _ _ => ⟨rfl, e12, (by decide : 0 + 0 ≤ _), (by decide : 0 + 0 ≤ _)⟩)
  dsimp only [Pt.U, Pt.locs, Pt.cells, Pt.slots] at X13 l13 y13 z13 st13 hQ13
  subst l13 y13 z13
  obtain ⟨rfl, N13q, e13⟩ := hQ13
  have N13 := Fr.app N0 N13q
  refine own_st (V := T13.setTop (mkF m 55 #[.val (.int p1), .val (.int (2 : Int32)), .val (.ref (A 2)), .val (.int (1 : Int32))] [(.int (1 : Int32))])) (fun t k => st13.trans k) ?_
  refine own_st (V := T13.setTop (mkF m 56 #[.val (.int p1), .val (.int (2 : Int32)), .val (.ref (A 2)), .val (.int (1 : Int32))] [(.int (1 : Int32)), (.int (1 : Int32))])) (fun t k => XS.iloadN X13.here hx rfl (hb hby at_55) rfl k) ?_
  refine own_st (V := T13.setTop (mkF m 59 #[.val (.int p1), .val (.int (2 : Int32)), .val (.ref (A 2)), .val (.int (1 : Int32))] [])) (fun t k => XS.icmpNo X13.here hx rfl (hb hby at_56) rfl (teq (by decide : (1 : Int32) = (1 : Int32))).2 k) ?_
  refine own_st (V := T13.setTop (mkF m 60 #[.val (.int p1), .val (.int (2 : Int32)), .val (.ref (A 2)), .val (.int (1 : Int32))] [(.int (1 : Int32))])) (fun t k => XS.iconst X13.here hx rfl (hb hby at_59) k) ?_
  refine own_st (V := T13.setTop (mkF m 64 #[.val (.int p1), .val (.int (2 : Int32)), .val (.ref (A 2)), .val (.int (1 : Int32))] [(.int (1 : Int32))])) (fun t k => XS.goto X13.here hx rfl (pc0 := 60) (pc' := 64) rfl (hb hby at_60) (by decide) (by decide) k) ?_
  exact own_ret X13 hx hlk Bd.returns (by decide +kernel) (Or.inl ⟨rfl, by simp, _, rfl⟩) (hb hby at_64) (by decide) (by decide) (by show own_Q0 Z p1 A h0 n0 _ T13.heap _; rw [e13]; exact ⟨rfl, N13⟩)
set_option maxRecDepth 65536 in
set_option maxHeartbeats 40000000 in
theorem own_law3 (l : Launch) (Z : State) (a0 : Array Value) (hw : ∀ d ∈ tables_1, d.before a0 Z = true) (ws : List Jvm.Cond) (p1 : Int32) (A : Nat → Addr) (h0 : Heap) (n0 : Nat) (Z0 : n0 ≤ h0.size) (En : own_En Z h0 A) (hk : (p1 &&& (3 : Int32)) = (3 : Int32)) :
    MetFree l x (head1 (Jvm.Cond.code x code maxLocals ret :: ws) room_1) (fun a U => a = #[(.int p1)] ∧ Z.Warmed39 U.vm ∧ U.heap = h0) (fun _ _ _ _ _ => True) (fun _ U o U' => ∃ v L, o = .returned v ∧ own_Q0 Z p1 A h0 n0 v U'.heap L ∧ FrameEnd U o U' L room_1.cells room_1.slots) := by
  refine MetFree.of_bodySF (plainFor_of_name own_pn_com_example_trust_grade_trustgrade_network_OutcomeIsViolationPinLaw) hisR ?_
  intro p e s m args below meth c s₁ Bd hml0 hP hK
  obtain ⟨rfl, hZ, hh⟩ := hP
  have hx := Bd.exec
  have hby := Bd.bytes
  have hml : c.maxLocals = 4 := hml0
  have hown : s.vm.findClass "com/example/trust_grade/trustgrade/network/OutcomeIsViolationPinLaw" = some m.cls := findClass_of_methodNamed Bd.named
  have hnm := (name_of_methodNamed Bd.named Bd.method).1
  have hlk : meth.locks = false := BodyLoose.notSynchronized Bd
  have X0 : Stand p l e room_1 s m #[(.int p1)] below meth c s₁ [] 0 0 := Stand.of_body Bd
  have e0 : s₁.heap = h0 := by rw [← hh, Bd.state]; rfl
  have N0 := Fr.nil n0
  show own_Go p e below #[(.int p1)] s (fun _ U o U' => ∃ v L, o = .returned v ∧ own_Q0 Z p1 A h0 n0 v U'.heap L ∧ FrameEnd U o U' L room_1.cells room_1.slots) (s₁.setTop (entryFrame m #[(.int p1)] maxLocals))
  refine own_st (V := s₁.setTop (mkF m 0 #[.val (.int p1), .unset, .unset, .unset] [])) (fun t k => castTop (by first | (simp [entryFrame, mkF, argsToLocals, Value.category, maxLocals]; done) | rfl) k) ?_
  refine own_st (V := s₁.setTop (mkF m 1 #[.val (.int p1), .unset, .unset, .unset] [(.int p1)])) (fun t k => XS.iloadN X0.here hx rfl (hb hby at_0) rfl k) ?_
  refine own_st (V := s₁.setTop (mkF m 2 #[.val (.int p1), .unset, .unset, .unset] [(.int (3 : Int32)), (.int p1)])) (fun t k => XS.iconst X0.here hx rfl (hb hby at_1) k) ?_
  refine own_st (V := s₁.setTop (mkF m 3 #[.val (.int p1), .unset, .unset, .unset] [(.int (p1 &&& (3 : Int32)))])) (fun t k => XS.iand X0.here hx rfl (hb hby at_2) rfl k) ?_
  rw [hk]
  refine own_st (V := s₁.setTop (mkF m 4 #[.val (.int p1), .val (.int (3 : Int32)), .unset, .unset] [])) (fun t k => XS.istoreN X0.here hx rfl (hb hby at_3) rfl (l' := #[.val (.int p1), .val (.int (3 : Int32)), .unset, .unset]) rfl k) ?_
  refine own_st (V := s₁.setTop (mkF m 5 #[.val (.int p1), .val (.int (3 : Int32)), .unset, .unset] [(.int (3 : Int32))])) (fun t k => XS.iloadN X0.here hx rfl (hb hby at_4) rfl k) ?_
  refine own_st (V := s₁.setTop (mkF m 17 #[.val (.int p1), .val (.int (3 : Int32)), .unset, .unset] [])) (fun t k => XS.ifYes X0.here hx rfl (pc0 := 5) (pc' := 17) rfl (hb hby at_5) rfl ((if0 _ _).trans (feq (by decide : ¬ ((3 : Int32) = (0 : Int32)))).2) (by decide) (by decide) k) ?_
  refine own_st (V := s₁.setTop (mkF m 18 #[.val (.int p1), .val (.int (3 : Int32)), .unset, .unset] [(.int (3 : Int32))])) (fun t k => XS.iloadN X0.here hx rfl (hb hby at_17) rfl k) ?_
  refine own_st (V := s₁.setTop (mkF m 19 #[.val (.int p1), .val (.int (3 : Int32)), .unset, .unset] [(.int (1 : Int32)), (.int (3 : Int32))])) (fun t k => XS.iconst X0.here hx rfl (hb hby at_18) k) ?_
  refine own_st (V := s₁.setTop (mkF m 31 #[.val (.int p1), .val (.int (3 : Int32)), .unset, .unset] [])) (fun t k => XS.icmpYes X0.here hx rfl (pc0 := 19) (pc' := 31) rfl (hb hby at_19) rfl (feq (by decide : ¬ ((3 : Int32) = (1 : Int32)))).2 (by decide) (by decide) k) ?_
  refine own_st (V := s₁.setTop (mkF m 32 #[.val (.int p1), .val (.int (3 : Int32)), .unset, .unset] [(.int (3 : Int32))])) (fun t k => XS.iloadN X0.here hx rfl (hb hby at_31) rfl k) ?_
  refine own_st (V := s₁.setTop (mkF m 33 #[.val (.int p1), .val (.int (3 : Int32)), .unset, .unset] [(.int (2 : Int32)), (.int (3 : Int32))])) (fun t k => XS.iconst X0.here hx rfl (hb hby at_32) k) ?_
  refine own_st (V := s₁.setTop (mkF m 45 #[.val (.int p1), .val (.int (3 : Int32)), .unset, .unset] [])) (fun t k => XS.icmpYes X0.here hx rfl (pc0 := 33) (pc' := 45) rfl (hb hby at_33) rfl (feq (by decide : ¬ ((3 : Int32) = (2 : Int32)))).2 (by decide) (by decide) k) ?_
  obtain ⟨T14, X14, e14, st14⟩ := getS2 X0 hx hZ hown (host := "") (Or.inl (hw _ (List.mem_of_getElem? (i := 12) rfl))) Via.refl e0 (own_S En 3 (i := 3) (n := "NOT_RECEIVED") rfl) (g := (mkF m 45 #[.val (.int p1), .val (.int (3 : Int32)), .unset, .unset] [])) rfl (hb hby at_45)
  refine own_st (V := T14.setTop (mkF m 48 #[.val (.int p1), .val (.int (3 : Int32)), .unset, .unset] [(.ref (A 3))])) (fun t k => st14 _ k) ?_
  refine own_st (V := T14.setTop (mkF m 49 #[.val (.int p1), .val (.int (3 : Int32)), .val (.ref (A 3)), .unset] [])) (fun t k => XS.astoreN X14.here hx rfl (hb hby at_48) rfl rfl (l' := #[.val (.int p1), .val (.int (3 : Int32)), .val (.ref (A 3)), .unset]) rfl k) ?_
  refine own_st (V := T14.setTop (mkF m 50 #[.val (.int p1), .val (.int (3 : Int32)), .val (.ref (A 3)), .unset] [(.int (1 : Int32))])) (fun t k => XS.iconst X14.here hx rfl (hb hby at_49) k) ?_
  refine own_st (V := T14.setTop (mkF m 51 #[.val (.int p1), .val (.int (3 : Int32)), .val (.ref (A 3)), .val (.int (1 : Int32))] [])) (fun t k => XS.istoreN X14.here hx rfl (hb hby at_50) rfl (l' := #[.val (.int p1), .val (.int (3 : Int32)), .val (.ref (A 3)), .val (.int (1 : Int32))]) rfl k) ?_
  refine own_st (V := T14.setTop (mkF m 52 #[.val (.int p1), .val (.int (3 : Int32)), .val (.ref (A 3)), .val (.int (1 : Int32))] [(.ref (A 3))])) (fun t k => XS.aloadN X14.here hx rfl (hb hby at_51) rfl rfl k) ?_
  obtain ⟨cq15, kq15, q15a, q15b, q15c⟩ := isOf hZ e14 (own_E En 3 (i := 3) (n := "NOT_RECEIVED") rfl)
  obtain ⟨_, _, ⟨T15, L15, k15, n15⟩, -, X15, ⟨Lc15, hQ15, l15, y15, z15⟩, st15⟩ := X14.virtualBack hx (y := (⟨"com/example/trust_grade/trustgrade/network/Transfer$Outcome", "isViolation", "()Z"⟩ : MethodName)) (z := (⟨"com/example/trust_grade/trustgrade/network/Transfer$Outcome", "isViolation", "()Z"⟩ : MethodName)) hown (mvT hZ (hw _ (List.mem_of_getElem? (i := 3) rfl))) (mvT hZ (hw _ (List.mem_of_getElem? (i := 4) rfl))) (notFace_of_selects (args := #[]) (mvT hZ (hw _ (List.mem_of_getElem? (i := 6) rfl)))) (mvT hZ (hw _ (List.mem_of_getElem? (i := 6) rfl))) (mvT hZ (hw _ (List.mem_of_getElem? (i := 5) rfl))) (by decide) (backOf (W := 0) (own_isv3 l Z a0 hw [] A h0 n0 Z0 En ) hZ (hw _ (List.mem_of_getElem? (i := 7) rfl)) (hw _ (List.mem_of_getElem? (i := 1) rfl)) (by decide) (by decide)) q15a q15c (g := (mkF m 52 #[.val (.int p1), .val (.int (3 : Int32)), .val (.ref (A 3)), .val (.int (1 : Int32))] [(.ref (A 3))])) rfl (by rw [hml]; rfl) (Steps.refl _) (argsL := []) (rest := []) (lenOf own_pd0 rfl) rfl (by show 2 * 0 + _ ≤ _; exact Nat.le_of_eq rfl) (hb hby at_52) (fun _ _ => ⟨rfl, e14, (by decide : 0 + 0 ≤ _), (by decide : 0 + 0 ≤ _)⟩)
  dsimp only [Pt.U, Pt.locs, Pt.cells, Pt.slots] at X15 l15 y15 z15 st15 hQ15
  subst l15 y15 z15
  obtain ⟨rfl, N15q, e15⟩ := hQ15
  have N15 := Fr.app N0 N15q
  refine own_st (V := T15.setTop (mkF m 55 #[.val (.int p1), .val (.int (3 : Int32)), .val (.ref (A 3)), .val (.int (1 : Int32))] [(.int (1 : Int32))])) (fun t k => st15.trans k) ?_
  refine own_st (V := T15.setTop (mkF m 56 #[.val (.int p1), .val (.int (3 : Int32)), .val (.ref (A 3)), .val (.int (1 : Int32))] [(.int (1 : Int32)), (.int (1 : Int32))])) (fun t k => XS.iloadN X15.here hx rfl (hb hby at_55) rfl k) ?_
  refine own_st (V := T15.setTop (mkF m 59 #[.val (.int p1), .val (.int (3 : Int32)), .val (.ref (A 3)), .val (.int (1 : Int32))] [])) (fun t k => XS.icmpNo X15.here hx rfl (hb hby at_56) rfl (teq (by decide : (1 : Int32) = (1 : Int32))).2 k) ?_
  refine own_st (V := T15.setTop (mkF m 60 #[.val (.int p1), .val (.int (3 : Int32)), .val (.ref (A 3)), .val (.int (1 : Int32))] [(.int (1 : Int32))])) (fun t k => XS.iconst X15.here hx rfl (hb hby at_59) k) ?_
  refine own_st (V := T15.setTop (mkF m 64 #[.val (.int p1), .val (.int (3 : Int32)), .val (.ref (A 3)), .val (.int (1 : Int32))] [(.int (1 : Int32))])) (fun t k => XS.goto X15.here hx rfl (pc0 := 60) (pc' := 64) rfl (hb hby at_60) (by decide) (by decide) k) ?_
  exact own_ret X15 hx hlk Bd.returns (by decide +kernel) (Or.inl ⟨rfl, by simp, _, rfl⟩) (hb hby at_64) (by decide) (by decide) (by show own_Q0 Z p1 A h0 n0 _ T15.heap _; rw [e15]; exact ⟨rfl, N15⟩)
theorem own_law (l : Launch) (Z : State) (a0 : Array Value) (hw : ∀ d ∈ tables_1, d.before a0 Z = true) (ws : List Jvm.Cond) (p1 : Int32) (A : Nat → Addr) (h0 : Heap) (n0 : Nat) (Z0 : n0 ≤ h0.size) (En : own_En Z h0 A) :
    MetFree l x (head1 (Jvm.Cond.code x code maxLocals ret :: ws) room_1) (fun a U => a = #[(.int p1)] ∧ Z.Warmed39 U.vm ∧ U.heap = h0) (fun _ _ _ _ _ => True) (fun _ U o U' => ∃ v L, o = .returned v ∧ own_Q0 Z p1 A h0 n0 v U'.heap L ∧ FrameEnd U o U' L room_1.cells room_1.slots) := by
  rcases own_c p1 with h | h | h | h
  · exact own_law0 l Z a0 hw ws p1 A h0 n0 Z0 En h
  · exact own_law1 l Z a0 hw ws p1 A h0 n0 Z0 En h
  · exact own_law2 l Z a0 hw ws p1 A h0 n0 Z0 En h
  · exact own_law3 l Z a0 hw ws p1 A h0 n0 Z0 En h
set_option maxRecDepth 65536 in
set_option maxHeartbeats 40000000 in
theorem comes_1 {Post : Tables → Env → Array Value → State → Outcome → State → Prop} (hpost : ∀ tb e args s v u, (limb_1_1.after args s (.returned v) u = true ∧ limb_1_2.after args s (.returned v) u = true ∧ True) → FrameEnd s (.returned v) u (Jvm.fieldLocs frame_1_writes args s ++ Jvm.arrayLocs frame_1_arrays args s ++ Jvm.staticLocs frame_1_statics s) 0 0 → Post tb e args s (.returned v) u) :
    ArmFor flags0 classFile x code maxLocals ret World_1 tables_1 room_1 Calls_1 rest_1 Pre_1 Post := by
  intro l hfl _ _ p e ha hc hk s m args below hf hA hF happ hP
  obtain ⟨hcalls, hrest, hpre⟩ := hP
  obtain ⟨-, -, -, hnamed, -, -, -, hat⟩ := (Spec.applies_iff hf).mp happ
  obtain ⟨hg, hn⟩ := and_e (Cond.before_iff.mp (show (Jvm.Cond.and given_1 narrow_1).before args s = true from hpre))
  obtain ⟨g0, g1⟩ := and_e hg
  obtain ⟨w0, rfl⟩ : ∃ w0 : Value, args = #[w0] := by
    have hs : args.size = 1 := by simpa [Cond.value, given_1] using g0
    obtain ⟨L⟩ := args
    match L, hs with
    | [w0], _ => exact ⟨w0, rfl⟩
  have hw := fun d (hd : d ∈ tables_1) => atoms_spec (ws := Jvm.Cond.code x code maxLocals ret :: tables_1) hat d (List.mem_cons_of_mem _ hd)
  have hfit : Fit s := fun {y c} hc i hi => by
    obtain ⟨ha, rfl⟩ := Array.getElem?_eq_some_iff.mp hc
    have q := List.all_eq_true.mp ((Array.all_eq_true_iff_forall_mem.mp hF) _ (Array.getElem_mem ha)) i (List.mem_range.mpr hi)
    simpa [Array.getElem?_eq_getElem hi] using q
  obtain ⟨i0, ei0⟩ := is_v g1
  obtain rfl : w0 = (.int i0) := Option.some.inj ei0
  obtain ⟨nz0, nr0⟩ := and_e hn
  obtain ⟨nz1, nr1⟩ := and_e nr0
  obtain ⟨nz2, nr2⟩ := and_e nr1
  obtain ⟨nz3, nr3⟩ := and_e nr2
  obtain ⟨nz4, nr4⟩ := and_e nr3
  obtain ⟨nz5, nr5⟩ := and_e nr4
  obtain ⟨nz6, nr6⟩ := and_e nr5
  have nz7 := nr6
  obtain ⟨a0, S0, E0, v0⟩ := own_sta nz0 (hw _ (List.mem_of_getElem? (i := 1) rfl)) (hw _ (List.mem_of_getElem? (i := 2) rfl))
  obtain ⟨a1, S1, E1, v1⟩ := own_sta nz6 (hw _ (List.mem_of_getElem? (i := 1) rfl)) (hw _ (List.mem_of_getElem? (i := 15) rfl))
  obtain ⟨a2, S2, E2, v2⟩ := own_sta nz1 (hw _ (List.mem_of_getElem? (i := 1) rfl)) (hw _ (List.mem_of_getElem? (i := 9) rfl))
  obtain ⟨a3, S3, E3, v3⟩ := own_sta nz4 (hw _ (List.mem_of_getElem? (i := 1) rfl)) (hw _ (List.mem_of_getElem? (i := 11) rfl))
  let A : Nat → Addr := fun i => [a0, a1, a2, a3].getD i 0
  have En : own_En s s.heap A := by
    intro q hq
    simp only [own_cs, List.mem_cons, List.not_mem_nil, or_false] at hq
    rcases hq with rfl | rfl | rfl | rfl
    · exact ⟨S0, E0, own_fld v0 nz2⟩
    · exact ⟨S1, E1, own_fld v1 nz7⟩
    · exact ⟨S2, E2, own_fld v2 nz3⟩
    · exact ⟨S3, E3, own_fld v3 nz5⟩
  obtain ⟨n, o, h1, h2, h3, _, L, rfl, ⟨rfl, N⟩, hq⟩ := own_law l s _ hw tables_1 i0 A s.heap s.heap.size (Nat.le_refl _) En p e ha hc hk s m _ below hf ((Spec.applies_iff_loose hf).mp happ).1 ⟨rfl, State.Warmed39.refl s, rfl⟩ trivial
  refine ⟨n, _, h1, h2, h3, hpost _ _ _ _ _ _ ⟨Cond.after_iff.mpr rfl, Cond.after_iff.mpr (eq_i res_at (Term.int_eval (1)) rfl), trivial⟩ ⟨hq.1, hq.2.1, (hq.2.2.sift fun y hy => Or.inr (N y hy)).mono (by decide) (by decide)⟩⟩
theorem main_1_1 : Claimed_1_1 := comes_1 fun _ _ _ _ _ _ h hF => ⟨h.1, hF⟩
theorem main_1_2 : Claimed_1_2 := comes_1 fun _ _ _ _ _ _ h hF => ⟨h.2.1, hF⟩
end Jvm.Pilot.@@N@@
namespace Jvm.Pilot.@@N@@
open Jvm Jvm.ClassFile Sem Op Lib Jvm.Free Jvm.Stand Jvm.Pilot.@@N@@.Jvm.D
/-! MADE BY PROGRAM (witnessworld.py) out of the Statement's table words and the real class files: 12 classes; the members and pool entries that the words name. The judged class is class 1, her method 1. -/
namespace start1
open Jvm.ClassFile
def u (s : String) : CpInfo := .utf8 (stringToUtf16 s)
/-- a pool by its gaps: so many unusable entries, then the entry; so many at the end -/
def gap : Nat → List CpInfo → List CpInfo
  | 0, r => r
  | n + 1, r => .unusable :: gap n r
def poolList (es : List (Nat × CpInfo)) (last : Nat) : List CpInfo := es.foldr (fun e r => gap e.1 (e.2 :: r)) (gap last [])
def pool (es : List (Nat × CpInfo)) (last : Nat) : Array CpInfo := ⟨poolList es last⟩
def fileOf (pool : Array CpInfo) (this : Nat) (attrs : Array Attribute := #[]) (ms : Array MethodInfo := #[]) (fl : Nat := 33) (sup : Nat := 0) (ifs : Array Nat := #[]) (fds : Array FieldInfo := #[]) : ClassFile where
  minorVersion := 0
  majorVersion := 65
  constantPool := pool
  accessFlags := fl
  thisClass := this
  superClass := sup
  interfaces := ifs
  fields := fds
  methods := ms
  attributes := attrs
def plain (name : String) (sup : Option ClassId) : Class where
  name := name
  kind := .ordinary
  loader := none
  accessFlags := 33
  super := sup
  interfaces := #[]
  cf := none
  fields := #[]
  methods := #[]
  instanceTypes := #[]
  staticTypes := #[]
  resolved := #[]
  callSites := []
  init := .initialized
  statics := none
  mirror := none

def pool0 : Array CpInfo := pool [(5, u "<init>"), (0, u "()V"), (1, .class_ 10), (1, u "java/lang/Object")] 113

def k0m0 : Method := { name := "<init>", desc := "()V", sig := { parameters := [], returnType := none }, accessFlags := 1, code := none }
/-- java/lang/Object -/
def k0 : Class := { plain "java/lang/Object" none with
  accessFlags := 33
  interfaces := #[]
  cf := some (fileOf pool0 8 #[] #[{ accessFlags := 1, nameIndex := 5, descriptorIndex := 6, attributes := #[] }] 33 0 #[] #[])
  fields := #[]
  methods := #[k0m0]
  instanceTypes := #[]
  staticTypes := #[]
  resolved := Array.replicate 124 none
  statics := none }

def pool1 : Array CpInfo := pool [(2, .class_ 4), (1, u "java/lang/Object"), (0, u "<init>"), (0, u "()V"), (0, .fieldref 8 9), (0, .class_ 10), (0, .nameAndType 11 12), (0, u "com/example/trust_grade/trustgrade/network/Transfer$Outcome"), (0, u "RECEIVED"), (0, u "Lcom/example/trust_grade/trustgrade/network/Transfer$Outcome;"), (0, .fieldref 8 14), (0, .nameAndType 15 12), (0, u "RELABELLED"), (0, .fieldref 8 17), (0, .nameAndType 18 12), (0, u "NOT_SENT"), (0, .fieldref 8 20), (0, .nameAndType 21 12), (0, u "NOT_RECEIVED"), (0, .methodref 8 23), (0, .nameAndType 24 25), (0, u "isViolation"), (0, u "()Z"), (0, .class_ 27), (0, u "com/example/trust_grade/trustgrade/network/OutcomeIsViolationPinLaw"), (2, u "law"), (0, u "(I)Z")] 7

def k1m0 : Method := { name := "<init>", desc := "()V", sig := { parameters := [], returnType := none }, accessFlags := 2, code := none }
def k1c1 : Code := { maxStack := 2, maxLocals := 4, code := code, exceptionTable := #[], attributes := #[] }
def k1m1 : Method := { name := "law", desc := "(I)Z", sig := { parameters := [.int], returnType := some .boolean }, accessFlags := 9, code := some k1c1 }
/-- com/example/trust_grade/trustgrade/network/OutcomeIsViolationPinLaw -/
def k1 : Class := { plain "com/example/trust_grade/trustgrade/network/OutcomeIsViolationPinLaw" (some 0) with
  accessFlags := 49
  interfaces := #[]
  cf := some (fileOf pool1 26 #[] #[{ accessFlags := 2, nameIndex := 5, descriptorIndex := 6, attributes := #[] }, { accessFlags := 9, nameIndex := 30, descriptorIndex := 31, attributes := #[] }] 49 2 #[] #[])
  fields := #[]
  methods := #[k1m0, k1m1]
  instanceTypes := #[]
  staticTypes := #[]
  resolved := Array.replicate 39 none
  statics := none }

def pool2 : Array CpInfo := pool [(1, .class_ 2), (0, u "java/lang/constant/Constable"), (0, .class_ 4), (0, u "java/lang/Object")] 6

/-- java/lang/constant/Constable -/
def k2 : Class := { plain "java/lang/constant/Constable" (some 0) with
  accessFlags := 1537
  interfaces := #[]
  cf := some (fileOf pool2 1 #[] #[] 1537 3 #[] #[])
  fields := #[]
  methods := #[]
  instanceTypes := #[]
  staticTypes := #[]
  resolved := Array.replicate 11 none
  statics := none }

def pool3 : Array CpInfo := pool [(1, .class_ 2), (0, u "java/lang/Comparable"), (0, .class_ 4), (0, u "java/lang/Object")] 7

/-- java/lang/Comparable -/
def k3 : Class := { plain "java/lang/Comparable" (some 0) with
  accessFlags := 1537
  interfaces := #[]
  cf := some (fileOf pool3 1 #[] #[] 1537 3 #[] #[])
  fields := #[]
  methods := #[]
  instanceTypes := #[]
  staticTypes := #[]
  resolved := Array.replicate 12 none
  statics := none }

def pool4 : Array CpInfo := pool [(1, .class_ 2), (0, u "java/io/Serializable"), (0, .class_ 4), (0, u "java/lang/Object")] 2

/-- java/io/Serializable -/
def k4 : Class := { plain "java/io/Serializable" (some 0) with
  accessFlags := 1537
  interfaces := #[]
  cf := some (fileOf pool4 1 #[] #[] 1537 3 #[] #[])
  fields := #[]
  methods := #[]
  instanceTypes := #[]
  staticTypes := #[]
  resolved := Array.replicate 7 none
  statics := none }

def pool5 : Array CpInfo := pool [(2, .class_ 4), (1, u "java/lang/Enum"), (0, u "name"), (0, u "Ljava/lang/String;"), (2, u "ordinal"), (0, u "I"), (1, .class_ 14), (1, u "java/lang/Object"), (4, u "hash"), (86, .class_ 108), (1, u "java/lang/Enum$EnumDesc"), (2, .class_ 112), (0, u "java/lang/constant/Constable"), (0, .class_ 114), (0, u "java/lang/Comparable"), (0, .class_ 116), (0, u "java/io/Serializable")] 87

/-- java/lang/Enum -/
def k5 : Class := { plain "java/lang/Enum" (some 0) with
  accessFlags := 1057
  interfaces := #[2, 3, 4]
  cf := some (fileOf pool5 2 #[.nestMembers #[106]] #[] 1057 12 #[111, 113, 115] #[{ accessFlags := 18, nameIndex := 5, descriptorIndex := 6, attributes := #[] }, { accessFlags := 18, nameIndex := 9, descriptorIndex := 10, attributes := #[] }, { accessFlags := 2, nameIndex := 19, descriptorIndex := 10, attributes := #[] }])
  fields := #[{ name := "name", type := (.object "java/lang/String"), accessFlags := 18, slot := 0, constantValue := 0 }, { name := "ordinal", type := .int, accessFlags := 18, slot := 1, constantValue := 0 }, { name := "hash", type := .int, accessFlags := 2, slot := 2, constantValue := 0 }]
  methods := #[]
  instanceTypes := #[(.object "java/lang/String"), .int, .int]
  staticTypes := #[]
  resolved := Array.replicate 204 none
  statics := none }

def pool6 : Array CpInfo := pool [(1, .class_ 2), (0, u "com/example/trust_grade/trustgrade/network/Transfer$Outcome"), (2, u "RECEIVED"), (0, u "Lcom/example/trust_grade/trustgrade/network/Transfer$Outcome;"), (2, u "RELABELLED"), (0, .fieldref 1 11), (0, .nameAndType 12 6), (0, u "NOT_SENT"), (0, .fieldref 1 14), (0, .nameAndType 15 6), (0, u "NOT_RECEIVED"), (2, u "$VALUES"), (0, u "[Lcom/example/trust_grade/trustgrade/network/Transfer$Outcome;"), (6, .class_ 28), (1, u "java/lang/Enum"), (22, u "isViolation"), (0, u "()Z"), (6, .class_ 60), (0, u "com/example/trust_grade/trustgrade/network/Transfer")] 2

def k6c0 : Code := { maxStack := 2, maxLocals := 1, code := prog_43_method_4_code, exceptionTable := #[], attributes := #[] }
def k6m0 : Method := { name := "isViolation", desc := "()Z", sig := { parameters := [], returnType := some .boolean }, accessFlags := 1, code := some k6c0 }
/-- com/example/trust_grade/trustgrade/network/Transfer$Outcome -/
def k6 : Class := { plain "com/example/trust_grade/trustgrade/network/Transfer$Outcome" (some 5) with
  accessFlags := 16433
  interfaces := #[]
  cf := some (fileOf pool6 1 #[.nestHost 59] #[{ accessFlags := 1, nameIndex := 51, descriptorIndex := 52, attributes := #[] }] 16433 26 #[] #[{ accessFlags := 16409, nameIndex := 5, descriptorIndex := 6, attributes := #[] }, { accessFlags := 16409, nameIndex := 9, descriptorIndex := 6, attributes := #[] }, { accessFlags := 16409, nameIndex := 12, descriptorIndex := 6, attributes := #[] }, { accessFlags := 16409, nameIndex := 15, descriptorIndex := 6, attributes := #[] }, { accessFlags := 4122, nameIndex := 18, descriptorIndex := 19, attributes := #[] }])
  fields := #[{ name := "RECEIVED", type := (.object "com/example/trust_grade/trustgrade/network/Transfer$Outcome"), accessFlags := 16409, slot := 0, constantValue := 0 }, { name := "RELABELLED", type := (.object "com/example/trust_grade/trustgrade/network/Transfer$Outcome"), accessFlags := 16409, slot := 1, constantValue := 0 }, { name := "NOT_SENT", type := (.object "com/example/trust_grade/trustgrade/network/Transfer$Outcome"), accessFlags := 16409, slot := 2, constantValue := 0 }, { name := "NOT_RECEIVED", type := (.object "com/example/trust_grade/trustgrade/network/Transfer$Outcome"), accessFlags := 16409, slot := 3, constantValue := 0 }, { name := "$VALUES", type := (.array (.object "com/example/trust_grade/trustgrade/network/Transfer$Outcome")), accessFlags := 4122, slot := 4, constantValue := 0 }]
  methods := #[k6m0]
  instanceTypes := #[(.object "java/lang/String"), .int, .int]
  staticTypes := #[(.object "com/example/trust_grade/trustgrade/network/Transfer$Outcome"), (.object "com/example/trust_grade/trustgrade/network/Transfer$Outcome"), (.object "com/example/trust_grade/trustgrade/network/Transfer$Outcome"), (.object "com/example/trust_grade/trustgrade/network/Transfer$Outcome"), (.array (.object "com/example/trust_grade/trustgrade/network/Transfer$Outcome"))]
  resolved := Array.replicate 63 none
  statics := some 0 }

def pool7 : Array CpInfo := pool [(1, u "java/lang/Cloneable"), (0, .class_ 1), (0, u "java/lang/Object"), (0, .class_ 3)] 3

/-- java/lang/Cloneable -/
def k7 : Class := { plain "java/lang/Cloneable" (some 0) with
  accessFlags := 1537
  interfaces := #[]
  cf := some (fileOf pool7 2 #[] #[] 1537 4 #[] #[])
  fields := #[]
  methods := #[]
  instanceTypes := #[]
  staticTypes := #[]
  resolved := Array.replicate 8 none
  statics := none }

/-- the primitive byte -/
def k8 : Class := { plain "byte" none with kind := .primitive 'B', accessFlags := 0x411 }
/-- [B -/
def k9 : Class := { plain "[B" (some 0) with kind := .array 8 .byte, interfaces := #[7, 4], accessFlags := 1041 }

/-- the primitive int -/
def k10 : Class := { plain "int" none with kind := .primitive 'I', accessFlags := 0x411 }
/-- [I -/
def k11 : Class := { plain "[I" (some 0) with kind := .array 10 .int, interfaces := #[7, 4], accessFlags := 1041 }

def heap : Heap := #[{ cls := 6, slots := #[.ref 1, .ref 2, .ref 3, .ref 4, .null], vm := .statics 6 },
  { cls := 6, slots := #[.null, .int 0, .int 0], vm := .none },
  { cls := 6, slots := #[.null, .int 1, .int 0], vm := .none },
  { cls := 6, slots := #[.null, .int 2, .int 0], vm := .none },
  { cls := 6, slots := #[.null, .int 3, .int 0], vm := .none }]
def classes : Array Class := #[k0, k1, k2, k3, k4, k5, k6, k7, k8, k9, k10, k11]
def interned : List (Array UInt16 × Addr) := []
def slotsUsed : Nat := 17
def theMethod : MethodId := ⟨1, 1⟩
def args0 : Array Value := #[.int 5]
def aboutOver (below : List Frame) : State where
  vm := { classes := classes, interned := interned.toArray }
  heap := heap
  slotsUsed := slotsUsed
  threads := #[{ frames := .invoking theMethod args0 :: below }]
def below0 : List Frame := [.native { method := ⟨0, 0⟩, args := #[] }]
def about1 : State := aboutOver below0
def p0 : Program := .bare "" "" ""
def e0 : Env := launch0.env 0 0 0
theorem w_frames : about1.frames = Frame.invoking theMethod args0 :: below0 := rfl
set_option maxRecDepth 65536 in
theorem w_args : argsFit about1.vm theMethod args0 = true := by decide +kernel
set_option maxRecDepth 65536 in
theorem w_heap : heapFits about1 = true := by decide +kernel
set_option maxRecDepth 65536 in
theorem w_runnable : about1.curStatus? = some .runnable := by decide +kernel
set_option maxRecDepth 65536 in
theorem w_alone : about1.alone = true := by decide +kernel
set_option maxRecDepth 65536 in
theorem w_named : about1.methodNamed? x = some theMethod := by decide +kernel
set_option maxRecDepth 65536 in
theorem w_hears : about1.hears theMethod below0 = true := by decide +kernel
set_option maxRecDepth 65536 in
theorem w_ripe : about1.ripe theMethod args0 below0 = true := by decide +kernel
theorem w_running : about1.status = .running := rfl
set_option maxRecDepth 65536 in
theorem w_room : about1.hasRoom e0.platform room_1 = true :=
  launch0.hasRoom_least _ room_1 (by decide +kernel) (by decide +kernel) (by decide +kernel) (by decide +kernel) (by decide +kernel) (by decide +kernel)
theorem allAtoms_all (ts : List Jvm.Cond) (a : Array Jvm.Value) (st : Jvm.State) : (allAtoms ts).before a st = ts.all (fun c => c.before a st) := by
  induction ts with
  | nil => rfl
  | cons c t ih =>
    show (Jvm.Cond.and c (allAtoms t)).before a st = _
    rw [Jvm.Cond.before_and, ih, List.all_cons]
def words1 : List Jvm.Cond := Jvm.Cond.code x code maxLocals ret :: tables_1
/-- a 'code' word, met by the world's own term for the bytes: nothing is compared byte by byte -/
theorem code_word {y : MethodName} {bytes : ByteArray} {mx : Nat} {rt : Option FieldType} {a : Array Value} {s : State} {m : MethodId} {meth : Method} {c : Code} (h1 : s.methodNamed? y = some m) (h2 : s.vm.method? m = some meth) (h3 : meth.code = some c) (h4 : c.code = bytes)
    (h5 : (c.maxLocals == mx && c.exceptionTable.isEmpty && decide (c.maxStack ≤ mostOperands) && decide (meth.sig.returnType = rt) && !meth.locks && decide (parseMethodDescriptor y.desc = some meth.sig)) = true) : (Jvm.Cond.code y bytes mx rt).before a s = true := by
  simp only [Bool.and_eq_true, beq_iff_eq, Bool.not_eq_true', decide_eq_true_eq] at h5
  obtain ⟨⟨⟨⟨⟨g1, g2⟩, g3⟩, g4⟩, g5⟩, g6⟩ := h5
  simp [Cond.before, Cond.holds, Cond.value, h1, h2, h3, h4, g1, g2, g3, g4, g5, g6]
def isCode : Jvm.Cond → Bool
  | .code _ _ _ _ => true
  | _ => false
theorem all_split {L : List Jvm.Cond} {P : Jvm.Cond → Bool} (h1 : L.all (fun c => isCode c || P c) = true) (h2 : ∀ c ∈ L.filter isCode, P c = true) : L.all P = true := by
  refine List.all_eq_true.mpr fun c hc => ?_
  have h := List.all_eq_true.mp h1 c hc
  rcases Bool.eq_false_or_eq_true (isCode c) with hi | hi
  · exact h2 c (List.mem_filter.mpr ⟨hc, hi⟩)
  · simpa [hi] using h
set_option maxRecDepth 65536 in
theorem w_c0 : (Jvm.Cond.code x code maxLocals ret).before args0 about1 = true := code_word (m := ⟨1, 1⟩) (meth := k1m1) (c := k1c1) (by decide +kernel) rfl rfl rfl (by decide +kernel)
set_option maxRecDepth 65536 in
theorem w_c1 : (Jvm.Cond.code ({ cls := "com/example/trust_grade/trustgrade/network/Transfer$Outcome", name := "isViolation", desc := "()Z" } : Jvm.MethodName) prog_43_method_4_code (1 : Nat) (Option.some Jvm.ClassFile.FieldType.boolean)).before args0 about1 = true := code_word (m := ⟨6, 0⟩) (meth := k6m0) (c := k6c0) (by decide +kernel) rfl rfl rfl (by decide +kernel)
def codes1 : List Jvm.Cond := [Jvm.Cond.code x code maxLocals ret, Jvm.Cond.code ({ cls := "com/example/trust_grade/trustgrade/network/Transfer$Outcome", name := "isViolation", desc := "()Z" } : Jvm.MethodName) prog_43_method_4_code (1 : Nat) (Option.some Jvm.ClassFile.FieldType.boolean)]
set_option maxRecDepth 65536 in
theorem codes_eq : words1.filter isCode = codes1 := rfl
theorem w_codes : ∀ c ∈ words1.filter isCode, c.before args0 about1 = true := by
  rw [codes_eq]
  intro c hc
  simp only [codes1, List.mem_cons, List.not_mem_nil, or_false] at hc
  rcases hc with rfl | rfl
  · exact w_c0
  · exact w_c1
set_option maxRecDepth 65536 in
theorem w_t1 : words1.all (fun c => isCode c || c.before args0 about1) = true := by decide +kernel
theorem w_tables : (allAtoms (Jvm.Cond.code x code maxLocals ret :: tables_1)).before args0 about1 = true := by
  rw [allAtoms_all]
  show words1.all (fun c => c.before args0 about1) = true
  refine all_split ?_ w_codes
  rw [w_t1]
set_option maxRecDepth 65536 in
theorem w_case : (Jvm.Cond.and given_1 narrow_1).before args0 about1 = true := by decide +kernel
theorem w_applies : (headSpec (Jvm.Cond.code x code maxLocals ret :: tables_1) room_1).applies x e0.platform about1 = true :=
  (Spec.applies_iff w_frames).mpr ⟨w_running, w_runnable, w_alone, w_named, w_hears, w_ripe, w_room, w_tables⟩
theorem atStart : AtStart classFile x code maxLocals ret World_1 tables_1 room_1 Calls_1 rest_1 Pre_1 launch0 p0 e0 about1 theMethod args0 below0 :=
  ⟨lists_1, trivial, launch0.admits_env _ _ _, launch0.least_env, fairChoices_fair.cas, fairChoices_fair.clock, w_frames, w_args, w_heap, w_applies, trivial, trivial, w_case⟩
end start1
theorem witness_1 : WitnessClaimed_1 := ⟨start1.p0, start1.e0, start1.about1, start1.theMethod, start1.args0, start1.below0, start1.atStart⟩
end Jvm.Pilot.@@N@@
