import JvmDerived
import JvmDerived.Pilot.@@N@@Statement
import JvmDerived.Pilot.@@N@@Code
set_option linter.unusedVariables false
set_option linter.unusedSimpArgs false
namespace Jvm.RoadKit
open Sem ClassFile Op Lib Jvm.Stand Jvm.Free Jvm.LawKit
section Own
variable {p : Program} {l : Launch} {e : Env} {R : Room} {s : State} {m : MethodId} {args : Array Value} {below : List Frame} {meth : Method} {c : Code} {T : State} {locs : List Loc} {cells slots : Nat}
/-- the run from U comes to its end, and the end meets Q -/
def own_Go (p : Program) (e : Env) (below : List Frame) (args : Array Value) (s : State) (Q : Array Value → State → Outcome → State → Prop) (U : State) : Prop := ∃ s₂ o, Steps p.tables e below U s₂ ∧ s₂.status = .running ∧ Ended s₂ below o ∧ Q args s o s₂
theorem own_st {Q : Array Value → State → Outcome → State → Prop} {U V : State} (k : ∀ t, Steps p.tables e below V t → Steps p.tables e below U t) (h : own_Go p e below args s Q V) : own_Go p e below args s Q U := by
  obtain ⟨s2, o, h1, h2⟩ := h
  exact ⟨s2, o, k _ h1, h2⟩
theorem own_ret {Q : Option Value → Heap → List Loc → Prop} {rc rs : Nat} (X : Stand p l e R s m args below meth c T locs cells slots) (hx : p.tables.exec = Jvm.exec) {pc : Nat} {Ls : Array Slot} {w : Value} {t : FieldType} {i : Instr} {rest : List Value} (hlk : meth.locks = false) (hret : meth.sig.returnType = some t) (hn : narrow t w = w)
    (hi : (i = .ireturn ∧ (t = .int ∨ t = .boolean ∨ t = .byte ∨ t = .char ∨ t = .short) ∧ ∃ z, w = .int z) ∨ (i = .lreturn ∧ t = .long ∧ ∃ z, w = .long z) ∨ (i = .dreturn ∧ t = .double ∧ ∃ z, w = .double z) ∨ (i = .freturn ∧ t = .float ∧ ∃ z, w = .float z) ∨ (i = .areturn ∧ t.isReference = true ∧ w.isRef = true))
    (hd : decode c.code pc = .ok (i, 1)) (hc : cells ≤ rc) (hs : slots ≤ rs) (hQ : Q (some w) T.heap locs) :
    own_Go p e below args s (fun _ U o U' => ∃ v L, o = .returned v ∧ Q v U'.heap L ∧ FrameEnd U o U' L rc rs) (T.setTop (mkF m pc Ls (w :: rest))) := by
  obtain ⟨fs, hr, hrun, hended, hW, hsame⟩ := X.leave (v := some w) (fun h => by rw [hret] at h; cases h) hlk
  exact ⟨_, _, retOut X hx hret hn hi hd hr, hrun, hended, _, _, rfl, hQ, ⟨_, rfl⟩, hW, hsame.mono hc hs⟩
theorem own_ret0 {Q : Option Value → Heap → List Loc → Prop} {rc rs : Nat} (X : Stand p l e R s m args below meth c T locs cells slots) (hx : p.tables.exec = Jvm.exec) {pc : Nat} {Ls : Array Slot} (hlk : meth.locks = false) (hret : meth.sig.returnType = none)
    (hd : decode c.code pc = .ok (.return_, 1)) (hc : cells ≤ rc) (hs : slots ≤ rs) (hQ : Q none T.heap locs) :
    own_Go p e below args s (fun _ U o U' => ∃ v L, o = .returned v ∧ Q v U'.heap L ∧ FrameEnd U o U' L rc rs) (T.setTop (mkF m pc Ls [])) := by
  obtain ⟨fs, hr, hrun, hended, hW, hsame⟩ := X.leave (v := none) (fun _ => rfl) hlk
  exact ⟨_, _, X.returnOut hx hret hd hr, hrun, hended, _, _, rfl, hQ, ⟨_, rfl⟩, hW, hsame.mono hc hs⟩
/-- what the sheet says of a static that holds an object of its class -/
theorem own_sta {Z : State} {args : Array Value} {C n d K : String} (hx : (Jvm.Cond.exactly (.static C n d) K).value args Z none Z [] = some true) (wi : (Jvm.Cond.initialized C).before args Z = true) (wl : (Jvm.Cond.laysStatic C n d).before args Z = true) :
    ∃ a, Sta Z Z.heap C n d (.ref a) ∧ Exa Z Z.heap a K ∧ (Jvm.Term.static C n d).eval args Z none [] Z = some (.ref a) := by
  obtain ⟨a, ev⟩ := exa_v hx
  exact ⟨a, Sta.start ev (Or.inr ⟨wi, wl⟩), Exa.start ev hx, ev⟩
theorem own_eqi {Z : State} {args : Array Value} {t : Jvm.Term} {k : Int32} (h : (Jvm.Cond.eq t (.int k)).value args Z none Z [] = some true) : t.eval args Z none [] Z = some (.int k) := by
  cases hv : t.eval args Z none [] Z with
  | none => simp [Cond.value, Term.eval, hv] at h
  | some v => cases v <;> simp [Cond.value, Term.eval, hv] at h ⊢ <;> exact h
theorem own_fld {Z : State} {args : Array Value} {t : Jvm.Term} {C n d : String} {a : Addr} {k : Int32} (ev : t.eval args Z none [] Z = some (.ref a)) (h : (Jvm.Cond.eq (.field t C n d) (.int k)).value args Z none Z [] = some true) : Fld Z Z.heap a C n d (.int k) :=
  Fld.start ((fld_at ev).symm.trans (own_eqi h))
end Own
end Jvm.RoadKit
namespace Jvm.Pilot.@@N@@
open Jvm Jvm.ClassFile Sem Op Lib Jvm.Free Jvm.Stand Jvm.LawKit Jvm.RoadKit Bundle Jvm.Pilot.@@N@@.Jvm.D
def own_cs : List (Nat × String) := [(0, "D"), (1, "C1"), (2, "C2"), (3, "C2_PLUS"), (4, "B1"), (5, "B2"), (6, "B3"), (7, "A1")]
def own_En (Z : State) (h : Heap) (A : Nat → Addr) : Prop := ∀ q ∈ own_cs, Sta Z h "com/example/trust_grade/trustgrade/network/Rating" q.2 "Lcom/example/trust_grade/trustgrade/network/Rating;" (.ref (A q.1)) ∧ Exa Z h (A q.1) "com/example/trust_grade/trustgrade/network/Rating" ∧ Fld Z h (A q.1) "java/lang/Enum" "ordinal" "I" (.int (Int32.ofNat q.1))
theorem own_S {Z : State} {h : Heap} {A : Nat → Addr} (En : own_En Z h A) (k : Nat) {i : Nat} {n : String} (q : own_cs[k]? = some (i, n)) : Sta Z h "com/example/trust_grade/trustgrade/network/Rating" n "Lcom/example/trust_grade/trustgrade/network/Rating;" (.ref (A i)) := (En _ (List.mem_of_getElem? q)).1
theorem own_E {Z : State} {h : Heap} {A : Nat → Addr} (En : own_En Z h A) (k : Nat) {i : Nat} {n : String} (q : own_cs[k]? = some (i, n)) : Exa Z h (A i) "com/example/trust_grade/trustgrade/network/Rating" := (En _ (List.mem_of_getElem? q)).2.1
theorem own_O {Z : State} {h : Heap} {A : Nat → Addr} (En : own_En Z h A) (k : Nat) {i : Nat} {n : String} (q : own_cs[k]? = some (i, n)) : Fld Z h (A i) "java/lang/Enum" "ordinal" "I" (.int (Int32.ofNat i)) := (En _ (List.mem_of_getElem? q)).2.2
theorem own_ne {Z : State} {h : Heap} {A : Nat → Addr} (En : own_En Z h A) (k k' : Nat) {i j : Nat} {n n' : String} (q : own_cs[k]? = some (i, n)) (q' : own_cs[k']? = some (j, n')) (d : Int32.ofNat i ≠ Int32.ofNat j) : A i ≠ A j := (own_O En k q).ne (own_O En k' q') fun e => d (Value.int.inj e)
theorem own_En.ext {Z : State} {h h' : Heap} {A : Nat → Addr} (En : own_En Z h A) (E : Ext h h') : own_En Z h' A := fun q hq => by
  have r := En q hq
  exact ⟨r.1.ext E, r.2.1.ext E, r.2.2.ext E⟩
theorem own_En.wr {Z : State} {h h' : Heap} {A : Nat → Addr} {a : Addr} {sl : Nat} {v : Value} (En : own_En Z h A) (W : Wr h h' a sl v) (hne : ∀ q ∈ own_cs, A q.1 ≠ a) : own_En Z h' A := fun q hq => by
  have r := En q hq
  exact ⟨r.1.wr W, r.2.1.wr W, r.2.2.other W (Or.inl (hne q hq))⟩
def Q_own_m0 (Z : State) (A : Nat → Addr) (h0 : Heap) (n0 : Nat) (v : Option Value) (h : Heap) (L : List Loc) : Prop := v = some (.int (1 : Int32)) ∧ Fr n0 L ∧ h = h0
theorem own_d1_0 : decode prog_39_method_6_code 0 = .ok (.aload_n 0, 1) := by decide +kernel
theorem own_d1_1 : decode prog_39_method_6_code 1 = .ok (.getstatic 13, 3) := by decide +kernel
theorem own_d1_4 : decode prog_39_method_6_code 4 = .ok (.if_acmp .eq 7, 3) := by decide +kernel
theorem own_d1_7 : decode prog_39_method_6_code 7 = .ok (.iconst 1, 1) := by decide +kernel
theorem own_d1_8 : decode prog_39_method_6_code 8 = .ok (.goto 4, 3) := by decide +kernel
theorem own_d1_12 : decode prog_39_method_6_code 12 = .ok (.ireturn, 1) := by decide +kernel
theorem own_pn_com_example_trust_grade_trustgrade_network_Rating : plainName "com/example/trust_grade/trustgrade/network/Rating" = true := by first | (simp [plainName, overriddenIn]; done) | decide +kernel
set_option maxRecDepth 65536 in
set_option maxHeartbeats 40000000 in
theorem own_m0 (l : Launch) (Z : State) (a0 : Array Value) (hw : ∀ d ∈ tables_1, d.before a0 Z = true) (ws : List Jvm.Cond) (A : Nat → Addr) (h0 : Heap) (n0 : Nat) (Z0 : n0 ≤ h0.size) (En : own_En Z h0 A) :
    MetFree l (⟨"com/example/trust_grade/trustgrade/network/Rating", "ratesSystems", "()Z"⟩ : MethodName) (head1 (Jvm.Cond.code (⟨"com/example/trust_grade/trustgrade/network/Rating", "ratesSystems", "()Z"⟩ : MethodName) prog_39_method_6_code 1 (some .boolean) :: ws) ({ frames := 0, cells := 0, slots := 0, locals := 0 } : Room)) (fun a U => a = #[(.ref (A 0))] ∧ Z.Warmed39 U.vm ∧ U.heap = h0) (fun _ _ _ _ _ => True) (fun _ U o U' => ∃ v L, o = .returned v ∧ Q_own_m0 Z A h0 n0 v U'.heap L ∧ FrameEnd U o U' L ({ frames := 0, cells := 0, slots := 0, locals := 0 } : Room).cells ({ frames := 0, cells := 0, slots := 0, locals := 0 } : Room).slots) := by
  refine MetFree.of_bodySF (plainFor_of_name own_pn_com_example_trust_grade_trustgrade_network_Rating) hisR ?_
  intro p e s m args below meth c s₁ Bd hml0 hP hK
  obtain ⟨rfl, hZ, hh⟩ := hP
  have hx := Bd.exec
  have hby := Bd.bytes
  have hml : c.maxLocals = 1 := hml0
  have hown : s.vm.findClass "com/example/trust_grade/trustgrade/network/Rating" = some m.cls := findClass_of_methodNamed Bd.named
  have hnm := (name_of_methodNamed Bd.named Bd.method).1
  have hlk : meth.locks = false := BodyLoose.notSynchronized Bd
  have X0 : Stand p l e ({ frames := 0, cells := 0, slots := 0, locals := 0 } : Room) s m #[(.ref (A 0))] below meth c s₁ [] 0 0 := Stand.of_body Bd
  have e0 : s₁.heap = h0 := by rw [← hh, Bd.state]; rfl
  have N0 := Fr.nil n0
  show own_Go p e below #[(.ref (A 0))] s (fun _ U o U' => ∃ v L, o = .returned v ∧ Q_own_m0 Z A h0 n0 v U'.heap L ∧ FrameEnd U o U' L ({ frames := 0, cells := 0, slots := 0, locals := 0 } : Room).cells ({ frames := 0, cells := 0, slots := 0, locals := 0 } : Room).slots) (s₁.setTop (entryFrame m #[(.ref (A 0))] 1))
  refine own_st (V := s₁.setTop (mkF m 0 #[.val (.ref (A 0))] [])) (fun t k => castTop (by first | (simp [entryFrame, mkF, argsToLocals, Value.category]; done) | rfl) k) ?_
  refine own_st (V := s₁.setTop (mkF m 1 #[.val (.ref (A 0))] [(.ref (A 0))])) (fun t k => XS.aloadN X0.here hx rfl (hb hby own_d1_0) rfl rfl k) ?_
  obtain ⟨T1, X1, e1, st1⟩ := getS2 X0 hx hZ hown (host := "") (Or.inl (hw _ (List.mem_of_getElem? (i := 26) rfl))) Via.refl e0 (own_S En 3 (i := 3) (n := "C2_PLUS") rfl) (g := (mkF m 1 #[.val (.ref (A 0))] [(.ref (A 0))])) rfl (hb hby own_d1_1)
  refine own_st (V := T1.setTop (mkF m 4 #[.val (.ref (A 0))] [(.ref (A 3)), (.ref (A 0))])) (fun t k => st1 _ k) ?_
  refine own_st (V := T1.setTop (mkF m 7 #[.val (.ref (A 0))] [])) (fun t k => Jvm.RoadKit.acmp (g := (mkF m 4 #[.val (.ref (A 0))] [(.ref (A 3)), (.ref (A 0))])) X1 hx rfl rfl rfl (pc0 := 4) (pc' := 7) (same := false) rfl (hb hby own_d1_4) rfl (decide_eq_false fun q => own_ne En 0 3 (i := 0) (n := "D") (j := 3) (n' := "C2_PLUS") rfl rfl (by decide) (Value.ref.inj q)) (by decide) (by decide) k) ?_
  refine own_st (V := T1.setTop (mkF m 8 #[.val (.ref (A 0))] [(.int (1 : Int32))])) (fun t k => XS.iconst X1.here hx rfl (hb hby own_d1_7) k) ?_
  refine own_st (V := T1.setTop (mkF m 12 #[.val (.ref (A 0))] [(.int (1 : Int32))])) (fun t k => XS.goto X1.here hx rfl (pc0 := 8) (pc' := 12) rfl (hb hby own_d1_8) (by decide) (by decide) k) ?_
  exact own_ret X1 hx hlk Bd.returns (by decide +kernel) (Or.inl ⟨rfl, by simp, _, rfl⟩) (hb hby own_d1_12) (by decide) (by decide) (by show Q_own_m0 Z A h0 n0 _ T1.heap _; rw [e1]; exact ⟨rfl, N0, rfl⟩)
def Q_own_m1 (Z : State) (A : Nat → Addr) (h0 : Heap) (n0 : Nat) (v : Option Value) (h : Heap) (L : List Loc) : Prop := v = some (.int (1 : Int32)) ∧ Fr n0 L ∧ h = h0
set_option maxRecDepth 65536 in
set_option maxHeartbeats 40000000 in
theorem own_m1 (l : Launch) (Z : State) (a0 : Array Value) (hw : ∀ d ∈ tables_1, d.before a0 Z = true) (ws : List Jvm.Cond) (A : Nat → Addr) (h0 : Heap) (n0 : Nat) (Z0 : n0 ≤ h0.size) (En : own_En Z h0 A) :
    MetFree l (⟨"com/example/trust_grade/trustgrade/network/Rating", "ratesSystems", "()Z"⟩ : MethodName) (head1 (Jvm.Cond.code (⟨"com/example/trust_grade/trustgrade/network/Rating", "ratesSystems", "()Z"⟩ : MethodName) prog_39_method_6_code 1 (some .boolean) :: ws) ({ frames := 0, cells := 0, slots := 0, locals := 0 } : Room)) (fun a U => a = #[(.ref (A 1))] ∧ Z.Warmed39 U.vm ∧ U.heap = h0) (fun _ _ _ _ _ => True) (fun _ U o U' => ∃ v L, o = .returned v ∧ Q_own_m1 Z A h0 n0 v U'.heap L ∧ FrameEnd U o U' L ({ frames := 0, cells := 0, slots := 0, locals := 0 } : Room).cells ({ frames := 0, cells := 0, slots := 0, locals := 0 } : Room).slots) := by
  refine MetFree.of_bodySF (plainFor_of_name own_pn_com_example_trust_grade_trustgrade_network_Rating) hisR ?_
  intro p e s m args below meth c s₁ Bd hml0 hP hK
  obtain ⟨rfl, hZ, hh⟩ := hP
  have hx := Bd.exec
  have hby := Bd.bytes
  have hml : c.maxLocals = 1 := hml0
  have hown : s.vm.findClass "com/example/trust_grade/trustgrade/network/Rating" = some m.cls := findClass_of_methodNamed Bd.named
  have hnm := (name_of_methodNamed Bd.named Bd.method).1
  have hlk : meth.locks = false := BodyLoose.notSynchronized Bd
  have X0 : Stand p l e ({ frames := 0, cells := 0, slots := 0, locals := 0 } : Room) s m #[(.ref (A 1))] below meth c s₁ [] 0 0 := Stand.of_body Bd
  have e0 : s₁.heap = h0 := by rw [← hh, Bd.state]; rfl
  have N0 := Fr.nil n0
  show own_Go p e below #[(.ref (A 1))] s (fun _ U o U' => ∃ v L, o = .returned v ∧ Q_own_m1 Z A h0 n0 v U'.heap L ∧ FrameEnd U o U' L ({ frames := 0, cells := 0, slots := 0, locals := 0 } : Room).cells ({ frames := 0, cells := 0, slots := 0, locals := 0 } : Room).slots) (s₁.setTop (entryFrame m #[(.ref (A 1))] 1))
  refine own_st (V := s₁.setTop (mkF m 0 #[.val (.ref (A 1))] [])) (fun t k => castTop (by first | (simp [entryFrame, mkF, argsToLocals, Value.category]; done) | rfl) k) ?_
  refine own_st (V := s₁.setTop (mkF m 1 #[.val (.ref (A 1))] [(.ref (A 1))])) (fun t k => XS.aloadN X0.here hx rfl (hb hby own_d1_0) rfl rfl k) ?_
  obtain ⟨T2, X2, e2, st2⟩ := getS2 X0 hx hZ hown (host := "") (Or.inl (hw _ (List.mem_of_getElem? (i := 26) rfl))) Via.refl e0 (own_S En 3 (i := 3) (n := "C2_PLUS") rfl) (g := (mkF m 1 #[.val (.ref (A 1))] [(.ref (A 1))])) rfl (hb hby own_d1_1)
  refine own_st (V := T2.setTop (mkF m 4 #[.val (.ref (A 1))] [(.ref (A 3)), (.ref (A 1))])) (fun t k => st2 _ k) ?_
  refine own_st (V := T2.setTop (mkF m 7 #[.val (.ref (A 1))] [])) (fun t k => Jvm.RoadKit.acmp (g := (mkF m 4 #[.val (.ref (A 1))] [(.ref (A 3)), (.ref (A 1))])) X2 hx rfl rfl rfl (pc0 := 4) (pc' := 7) (same := false) rfl (hb hby own_d1_4) rfl (decide_eq_false fun q => own_ne En 1 3 (i := 1) (n := "C1") (j := 3) (n' := "C2_PLUS") rfl rfl (by decide) (Value.ref.inj q)) (by decide) (by decide) k) ?_
  refine own_st (V := T2.setTop (mkF m 8 #[.val (.ref (A 1))] [(.int (1 : Int32))])) (fun t k => XS.iconst X2.here hx rfl (hb hby own_d1_7) k) ?_
  refine own_st (V := T2.setTop (mkF m 12 #[.val (.ref (A 1))] [(.int (1 : Int32))])) (fun t k => XS.goto X2.here hx rfl (pc0 := 8) (pc' := 12) rfl (hb hby own_d1_8) (by decide) (by decide) k) ?_
  exact own_ret X2 hx hlk Bd.returns (by decide +kernel) (Or.inl ⟨rfl, by simp, _, rfl⟩) (hb hby own_d1_12) (by decide) (by decide) (by show Q_own_m1 Z A h0 n0 _ T2.heap _; rw [e2]; exact ⟨rfl, N0, rfl⟩)
def Q_own_m2 (Z : State) (A : Nat → Addr) (h0 : Heap) (n0 : Nat) (v : Option Value) (h : Heap) (L : List Loc) : Prop := v = some (.int (1 : Int32)) ∧ Fr n0 L ∧ h = h0
set_option maxRecDepth 65536 in
set_option maxHeartbeats 40000000 in
theorem own_m2 (l : Launch) (Z : State) (a0 : Array Value) (hw : ∀ d ∈ tables_1, d.before a0 Z = true) (ws : List Jvm.Cond) (A : Nat → Addr) (h0 : Heap) (n0 : Nat) (Z0 : n0 ≤ h0.size) (En : own_En Z h0 A) :
    MetFree l (⟨"com/example/trust_grade/trustgrade/network/Rating", "ratesSystems", "()Z"⟩ : MethodName) (head1 (Jvm.Cond.code (⟨"com/example/trust_grade/trustgrade/network/Rating", "ratesSystems", "()Z"⟩ : MethodName) prog_39_method_6_code 1 (some .boolean) :: ws) ({ frames := 0, cells := 0, slots := 0, locals := 0 } : Room)) (fun a U => a = #[(.ref (A 2))] ∧ Z.Warmed39 U.vm ∧ U.heap = h0) (fun _ _ _ _ _ => True) (fun _ U o U' => ∃ v L, o = .returned v ∧ Q_own_m2 Z A h0 n0 v U'.heap L ∧ FrameEnd U o U' L ({ frames := 0, cells := 0, slots := 0, locals := 0 } : Room).cells ({ frames := 0, cells := 0, slots := 0, locals := 0 } : Room).slots) := by
  refine MetFree.of_bodySF (plainFor_of_name own_pn_com_example_trust_grade_trustgrade_network_Rating) hisR ?_
  intro p e s m args below meth c s₁ Bd hml0 hP hK
  obtain ⟨rfl, hZ, hh⟩ := hP
  have hx := Bd.exec
  have hby := Bd.bytes
  have hml : c.maxLocals = 1 := hml0
  have hown : s.vm.findClass "com/example/trust_grade/trustgrade/network/Rating" = some m.cls := findClass_of_methodNamed Bd.named
  have hnm := (name_of_methodNamed Bd.named Bd.method).1
  have hlk : meth.locks = false := BodyLoose.notSynchronized Bd
  have X0 : Stand p l e ({ frames := 0, cells := 0, slots := 0, locals := 0 } : Room) s m #[(.ref (A 2))] below meth c s₁ [] 0 0 := Stand.of_body Bd
  have e0 : s₁.heap = h0 := by rw [← hh, Bd.state]; rfl
  have N0 := Fr.nil n0
  show own_Go p e below #[(.ref (A 2))] s (fun _ U o U' => ∃ v L, o = .returned v ∧ Q_own_m2 Z A h0 n0 v U'.heap L ∧ FrameEnd U o U' L ({ frames := 0, cells := 0, slots := 0, locals := 0 } : Room).cells ({ frames := 0, cells := 0, slots := 0, locals := 0 } : Room).slots) (s₁.setTop (entryFrame m #[(.ref (A 2))] 1))
  refine own_st (V := s₁.setTop (mkF m 0 #[.val (.ref (A 2))] [])) (fun t k => castTop (by first | (simp [entryFrame, mkF, argsToLocals, Value.category]; done) | rfl) k) ?_
  refine own_st (V := s₁.setTop (mkF m 1 #[.val (.ref (A 2))] [(.ref (A 2))])) (fun t k => XS.aloadN X0.here hx rfl (hb hby own_d1_0) rfl rfl k) ?_
  obtain ⟨T3, X3, e3, st3⟩ := getS2 X0 hx hZ hown (host := "") (Or.inl (hw _ (List.mem_of_getElem? (i := 26) rfl))) Via.refl e0 (own_S En 3 (i := 3) (n := "C2_PLUS") rfl) (g := (mkF m 1 #[.val (.ref (A 2))] [(.ref (A 2))])) rfl (hb hby own_d1_1)
  refine own_st (V := T3.setTop (mkF m 4 #[.val (.ref (A 2))] [(.ref (A 3)), (.ref (A 2))])) (fun t k => st3 _ k) ?_
  refine own_st (V := T3.setTop (mkF m 7 #[.val (.ref (A 2))] [])) (fun t k => Jvm.RoadKit.acmp (g := (mkF m 4 #[.val (.ref (A 2))] [(.ref (A 3)), (.ref (A 2))])) X3 hx rfl rfl rfl (pc0 := 4) (pc' := 7) (same := false) rfl (hb hby own_d1_4) rfl (decide_eq_false fun q => own_ne En 2 3 (i := 2) (n := "C2") (j := 3) (n' := "C2_PLUS") rfl rfl (by decide) (Value.ref.inj q)) (by decide) (by decide) k) ?_
  refine own_st (V := T3.setTop (mkF m 8 #[.val (.ref (A 2))] [(.int (1 : Int32))])) (fun t k => XS.iconst X3.here hx rfl (hb hby own_d1_7) k) ?_
  refine own_st (V := T3.setTop (mkF m 12 #[.val (.ref (A 2))] [(.int (1 : Int32))])) (fun t k => XS.goto X3.here hx rfl (pc0 := 8) (pc' := 12) rfl (hb hby own_d1_8) (by decide) (by decide) k) ?_
  exact own_ret X3 hx hlk Bd.returns (by decide +kernel) (Or.inl ⟨rfl, by simp, _, rfl⟩) (hb hby own_d1_12) (by decide) (by decide) (by show Q_own_m2 Z A h0 n0 _ T3.heap _; rw [e3]; exact ⟨rfl, N0, rfl⟩)
def Q_own_m3 (Z : State) (A : Nat → Addr) (h0 : Heap) (n0 : Nat) (v : Option Value) (h : Heap) (L : List Loc) : Prop := v = some (.int (0 : Int32)) ∧ Fr n0 L ∧ h = h0
theorem own_d1_11 : decode prog_39_method_6_code 11 = .ok (.iconst 0, 1) := by decide +kernel
set_option maxRecDepth 65536 in
set_option maxHeartbeats 40000000 in
theorem own_m3 (l : Launch) (Z : State) (a0 : Array Value) (hw : ∀ d ∈ tables_1, d.before a0 Z = true) (ws : List Jvm.Cond) (A : Nat → Addr) (h0 : Heap) (n0 : Nat) (Z0 : n0 ≤ h0.size) (En : own_En Z h0 A) :
    MetFree l (⟨"com/example/trust_grade/trustgrade/network/Rating", "ratesSystems", "()Z"⟩ : MethodName) (head1 (Jvm.Cond.code (⟨"com/example/trust_grade/trustgrade/network/Rating", "ratesSystems", "()Z"⟩ : MethodName) prog_39_method_6_code 1 (some .boolean) :: ws) ({ frames := 0, cells := 0, slots := 0, locals := 0 } : Room)) (fun a U => a = #[(.ref (A 3))] ∧ Z.Warmed39 U.vm ∧ U.heap = h0) (fun _ _ _ _ _ => True) (fun _ U o U' => ∃ v L, o = .returned v ∧ Q_own_m3 Z A h0 n0 v U'.heap L ∧ FrameEnd U o U' L ({ frames := 0, cells := 0, slots := 0, locals := 0 } : Room).cells ({ frames := 0, cells := 0, slots := 0, locals := 0 } : Room).slots) := by
  refine MetFree.of_bodySF (plainFor_of_name own_pn_com_example_trust_grade_trustgrade_network_Rating) hisR ?_
  intro p e s m args below meth c s₁ Bd hml0 hP hK
  obtain ⟨rfl, hZ, hh⟩ := hP
  have hx := Bd.exec
  have hby := Bd.bytes
  have hml : c.maxLocals = 1 := hml0
  have hown : s.vm.findClass "com/example/trust_grade/trustgrade/network/Rating" = some m.cls := findClass_of_methodNamed Bd.named
  have hnm := (name_of_methodNamed Bd.named Bd.method).1
  have hlk : meth.locks = false := BodyLoose.notSynchronized Bd
  have X0 : Stand p l e ({ frames := 0, cells := 0, slots := 0, locals := 0 } : Room) s m #[(.ref (A 3))] below meth c s₁ [] 0 0 := Stand.of_body Bd
  have e0 : s₁.heap = h0 := by rw [← hh, Bd.state]; rfl
  have N0 := Fr.nil n0
  show own_Go p e below #[(.ref (A 3))] s (fun _ U o U' => ∃ v L, o = .returned v ∧ Q_own_m3 Z A h0 n0 v U'.heap L ∧ FrameEnd U o U' L ({ frames := 0, cells := 0, slots := 0, locals := 0 } : Room).cells ({ frames := 0, cells := 0, slots := 0, locals := 0 } : Room).slots) (s₁.setTop (entryFrame m #[(.ref (A 3))] 1))
  refine own_st (V := s₁.setTop (mkF m 0 #[.val (.ref (A 3))] [])) (fun t k => castTop (by first | (simp [entryFrame, mkF, argsToLocals, Value.category]; done) | rfl) k) ?_
  refine own_st (V := s₁.setTop (mkF m 1 #[.val (.ref (A 3))] [(.ref (A 3))])) (fun t k => XS.aloadN X0.here hx rfl (hb hby own_d1_0) rfl rfl k) ?_
  obtain ⟨T4, X4, e4, st4⟩ := getS2 X0 hx hZ hown (host := "") (Or.inl (hw _ (List.mem_of_getElem? (i := 26) rfl))) Via.refl e0 (own_S En 3 (i := 3) (n := "C2_PLUS") rfl) (g := (mkF m 1 #[.val (.ref (A 3))] [(.ref (A 3))])) rfl (hb hby own_d1_1)
  refine own_st (V := T4.setTop (mkF m 4 #[.val (.ref (A 3))] [(.ref (A 3)), (.ref (A 3))])) (fun t k => st4 _ k) ?_
  refine own_st (V := T4.setTop (mkF m 11 #[.val (.ref (A 3))] [])) (fun t k => Jvm.RoadKit.acmp (g := (mkF m 4 #[.val (.ref (A 3))] [(.ref (A 3)), (.ref (A 3))])) X4 hx rfl rfl rfl (pc0 := 4) (pc' := 11) (same := true) rfl (hb hby own_d1_4) rfl (decide_eq_true rfl) (by decide) (by decide) k) ?_
  refine own_st (V := T4.setTop (mkF m 12 #[.val (.ref (A 3))] [(.int (0 : Int32))])) (fun t k => XS.iconst X4.here hx rfl (hb hby own_d1_11) k) ?_
  exact own_ret X4 hx hlk Bd.returns (by decide +kernel) (Or.inl ⟨rfl, by simp, _, rfl⟩) (hb hby own_d1_12) (by decide) (by decide) (by show Q_own_m3 Z A h0 n0 _ T4.heap _; rw [e4]; exact ⟨rfl, N0, rfl⟩)
def Q_own_m4 (Z : State) (A : Nat → Addr) (h0 : Heap) (n0 : Nat) (v : Option Value) (h : Heap) (L : List Loc) : Prop := v = some (.int (1 : Int32)) ∧ Fr n0 L ∧ h = h0
set_option maxRecDepth 65536 in
set_option maxHeartbeats 40000000 in
theorem own_m4 (l : Launch) (Z : State) (a0 : Array Value) (hw : ∀ d ∈ tables_1, d.before a0 Z = true) (ws : List Jvm.Cond) (A : Nat → Addr) (h0 : Heap) (n0 : Nat) (Z0 : n0 ≤ h0.size) (En : own_En Z h0 A) :
    MetFree l (⟨"com/example/trust_grade/trustgrade/network/Rating", "ratesSystems", "()Z"⟩ : MethodName) (head1 (Jvm.Cond.code (⟨"com/example/trust_grade/trustgrade/network/Rating", "ratesSystems", "()Z"⟩ : MethodName) prog_39_method_6_code 1 (some .boolean) :: ws) ({ frames := 0, cells := 0, slots := 0, locals := 0 } : Room)) (fun a U => a = #[(.ref (A 4))] ∧ Z.Warmed39 U.vm ∧ U.heap = h0) (fun _ _ _ _ _ => True) (fun _ U o U' => ∃ v L, o = .returned v ∧ Q_own_m4 Z A h0 n0 v U'.heap L ∧ FrameEnd U o U' L ({ frames := 0, cells := 0, slots := 0, locals := 0 } : Room).cells ({ frames := 0, cells := 0, slots := 0, locals := 0 } : Room).slots) := by
  refine MetFree.of_bodySF (plainFor_of_name own_pn_com_example_trust_grade_trustgrade_network_Rating) hisR ?_
  intro p e s m args below meth c s₁ Bd hml0 hP hK
  obtain ⟨rfl, hZ, hh⟩ := hP
  have hx := Bd.exec
  have hby := Bd.bytes
  have hml : c.maxLocals = 1 := hml0
  have hown : s.vm.findClass "com/example/trust_grade/trustgrade/network/Rating" = some m.cls := findClass_of_methodNamed Bd.named
  have hnm := (name_of_methodNamed Bd.named Bd.method).1
  have hlk : meth.locks = false := BodyLoose.notSynchronized Bd
  have X0 : Stand p l e ({ frames := 0, cells := 0, slots := 0, locals := 0 } : Room) s m #[(.ref (A 4))] below meth c s₁ [] 0 0 := Stand.of_body Bd
  have e0 : s₁.heap = h0 := by rw [← hh, Bd.state]; rfl
  have N0 := Fr.nil n0
  show own_Go p e below #[(.ref (A 4))] s (fun _ U o U' => ∃ v L, o = .returned v ∧ Q_own_m4 Z A h0 n0 v U'.heap L ∧ FrameEnd U o U' L ({ frames := 0, cells := 0, slots := 0, locals := 0 } : Room).cells ({ frames := 0, cells := 0, slots := 0, locals := 0 } : Room).slots) (s₁.setTop (entryFrame m #[(.ref (A 4))] 1))
  refine own_st (V := s₁.setTop (mkF m 0 #[.val (.ref (A 4))] [])) (fun t k => castTop (by first | (simp [entryFrame, mkF, argsToLocals, Value.category]; done) | rfl) k) ?_
  refine own_st (V := s₁.setTop (mkF m 1 #[.val (.ref (A 4))] [(.ref (A 4))])) (fun t k => XS.aloadN X0.here hx rfl (hb hby own_d1_0) rfl rfl k) ?_
  obtain ⟨T5, X5, e5, st5⟩ := getS2 X0 hx hZ hown (host := "") (Or.inl (hw _ (List.mem_of_getElem? (i := 26) rfl))) Via.refl e0 (own_S En 3 (i := 3) (n := "C2_PLUS") rfl) (g := (mkF m 1 #[.val (.ref (A 4))] [(.ref (A 4))])) rfl (hb hby own_d1_1)
  refine own_st (V := T5.setTop (mkF m 4 #[.val (.ref (A 4))] [(.ref (A 3)), (.ref (A 4))])) (fun t k => st5 _ k) ?_
  refine own_st (V := T5.setTop (mkF m 7 #[.val (.ref (A 4))] [])) (fun t k => Jvm.RoadKit.acmp (g := (mkF m 4 #[.val (.ref (A 4))] [(.ref (A 3)), (.ref (A 4))])) X5 hx rfl rfl rfl (pc0 := 4) (pc' := 7) (same := false) rfl (hb hby own_d1_4) rfl (decide_eq_false fun q => own_ne En 4 3 (i := 4) (n := "B1") (j := 3) (n' := "C2_PLUS") rfl rfl (by decide) (Value.ref.inj q)) (by decide) (by decide) k) ?_
  refine own_st (V := T5.setTop (mkF m 8 #[.val (.ref (A 4))] [(.int (1 : Int32))])) (fun t k => XS.iconst X5.here hx rfl (hb hby own_d1_7) k) ?_
  refine own_st (V := T5.setTop (mkF m 12 #[.val (.ref (A 4))] [(.int (1 : Int32))])) (fun t k => XS.goto X5.here hx rfl (pc0 := 8) (pc' := 12) rfl (hb hby own_d1_8) (by decide) (by decide) k) ?_
  exact own_ret X5 hx hlk Bd.returns (by decide +kernel) (Or.inl ⟨rfl, by simp, _, rfl⟩) (hb hby own_d1_12) (by decide) (by decide) (by show Q_own_m4 Z A h0 n0 _ T5.heap _; rw [e5]; exact ⟨rfl, N0, rfl⟩)
def Q_own_m5 (Z : State) (A : Nat → Addr) (h0 : Heap) (n0 : Nat) (v : Option Value) (h : Heap) (L : List Loc) : Prop := v = some (.int (1 : Int32)) ∧ Fr n0 L ∧ h = h0
set_option maxRecDepth 65536 in
set_option maxHeartbeats 40000000 in
theorem own_m5 (l : Launch) (Z : State) (a0 : Array Value) (hw : ∀ d ∈ tables_1, d.before a0 Z = true) (ws : List Jvm.Cond) (A : Nat → Addr) (h0 : Heap) (n0 : Nat) (Z0 : n0 ≤ h0.size) (En : own_En Z h0 A) :
    MetFree l (⟨"com/example/trust_grade/trustgrade/network/Rating", "ratesSystems", "()Z"⟩ : MethodName) (head1 (Jvm.Cond.code (⟨"com/example/trust_grade/trustgrade/network/Rating", "ratesSystems", "()Z"⟩ : MethodName) prog_39_method_6_code 1 (some .boolean) :: ws) ({ frames := 0, cells := 0, slots := 0, locals := 0 } : Room)) (fun a U => a = #[(.ref (A 5))] ∧ Z.Warmed39 U.vm ∧ U.heap = h0) (fun _ _ _ _ _ => True) (fun _ U o U' => ∃ v L, o = .returned v ∧ Q_own_m5 Z A h0 n0 v U'.heap L ∧ FrameEnd U o U' L ({ frames := 0, cells := 0, slots := 0, locals := 0 } : Room).cells ({ frames := 0, cells := 0, slots := 0, locals := 0 } : Room).slots) := by
  refine MetFree.of_bodySF (plainFor_of_name own_pn_com_example_trust_grade_trustgrade_network_Rating) hisR ?_
  intro p e s m args below meth c s₁ Bd hml0 hP hK
  obtain ⟨rfl, hZ, hh⟩ := hP
  have hx := Bd.exec
  have hby := Bd.bytes
  have hml : c.maxLocals = 1 := hml0
  have hown : s.vm.findClass "com/example/trust_grade/trustgrade/network/Rating" = some m.cls := findClass_of_methodNamed Bd.named
  have hnm := (name_of_methodNamed Bd.named Bd.method).1
  have hlk : meth.locks = false := BodyLoose.notSynchronized Bd
  have X0 : Stand p l e ({ frames := 0, cells := 0, slots := 0, locals := 0 } : Room) s m #[(.ref (A 5))] below meth c s₁ [] 0 0 := Stand.of_body Bd
  have e0 : s₁.heap = h0 := by rw [← hh, Bd.state]; rfl
  have N0 := Fr.nil n0
  show own_Go p e below #[(.ref (A 5))] s (fun _ U o U' => ∃ v L, o = .returned v ∧ Q_own_m5 Z A h0 n0 v U'.heap L ∧ FrameEnd U o U' L ({ frames := 0, cells := 0, slots := 0, locals := 0 } : Room).cells ({ frames := 0, cells := 0, slots := 0, locals := 0 } : Room).slots) (s₁.setTop (entryFrame m #[(.ref (A 5))] 1))
  refine own_st (V := s₁.setTop (mkF m 0 #[.val (.ref (A 5))] [])) (fun t k => castTop (by first | (simp [entryFrame, mkF, argsToLocals, Value.category]; done) | rfl) k) ?_
  refine own_st (V := s₁.setTop (mkF m 1 #[.val (.ref (A 5))] [(.ref (A 5))])) (fun t k => XS.aloadN X0.here hx rfl (hb hby own_d1_0) rfl rfl k) ?_
  obtain ⟨T6, X6, e6, st6⟩ := getS2 X0 hx hZ hown (host := "") (Or.inl (hw _ (List.mem_of_getElem? (i := 26) rfl))) Via.refl e0 (own_S En 3 (i := 3) (n := "C2_PLUS") rfl) (g := (mkF m 1 #[.val (.ref (A 5))] [(.ref (A 5))])) rfl (hb hby own_d1_1)
  refine own_st (V := T6.setTop (mkF m 4 #[.val (.ref (A 5))] [(.ref (A 3)), (.ref (A 5))])) (fun t k => st6 _ k) ?_
  refine own_st (V := T6.setTop (mkF m 7 #[.val (.ref (A 5))] [])) (fun t k => Jvm.RoadKit.acmp (g := (mkF m 4 #[.val (.ref (A 5))] [(.ref (A 3)), (.ref (A 5))])) X6 hx rfl rfl rfl (pc0 := 4) (pc' := 7) (same := false) rfl (hb hby own_d1_4) rfl (decide_eq_false fun q => own_ne En 5 3 (i := 5) (n := "B2") (j := 3) (n' := "C2_PLUS") rfl rfl (by decide) (Value.ref.inj q)) (by decide) (by decide) k) ?_
  refine own_st (V := T6.setTop (mkF m 8 #[.val (.ref (A 5))] [(.int (1 : Int32))])) (fun t k => XS.iconst X6.here hx rfl (hb hby own_d1_7) k) ?_
  refine own_st (V := T6.setTop (mkF m 12 #[.val (.ref (A 5))] [(.int (1 : Int32))])) (fun t k => XS.goto X6.here hx rfl (pc0 := 8) (pc' := 12) rfl (hb hby own_d1_8) (by decide) (by decide) k) ?_
  exact own_ret X6 hx hlk Bd.returns (by decide +kernel) (Or.inl ⟨rfl, by simp, _, rfl⟩) (hb hby own_d1_12) (by decide) (by decide) (by show Q_own_m5 Z A h0 n0 _ T6.heap _; rw [e6]; exact ⟨rfl, N0, rfl⟩)
def Q_own_m6 (Z : State) (A : Nat → Addr) (h0 : Heap) (n0 : Nat) (v : Option Value) (h : Heap) (L : List Loc) : Prop := v = some (.int (1 : Int32)) ∧ Fr n0 L ∧ h = h0
set_option maxRecDepth 65536 in
set_option maxHeartbeats 40000000 in
theorem own_m6 (l : Launch) (Z : State) (a0 : Array Value) (hw : ∀ d ∈ tables_1, d.before a0 Z = true) (ws : List Jvm.Cond) (A : Nat → Addr) (h0 : Heap) (n0 : Nat) (Z0 : n0 ≤ h0.size) (En : own_En Z h0 A) :
    MetFree l (⟨"com/example/trust_grade/trustgrade/network/Rating", "ratesSystems", "()Z"⟩ : MethodName) (head1 (Jvm.Cond.code (⟨"com/example/trust_grade/trustgrade/network/Rating", "ratesSystems", "()Z"⟩ : MethodName) prog_39_method_6_code 1 (some .boolean) :: ws) ({ frames := 0, cells := 0, slots := 0, locals := 0 } : Room)) (fun a U => a = #[(.ref (A 6))] ∧ Z.Warmed39 U.vm ∧ U.heap = h0) (fun _ _ _ _ _ => True) (fun _ U o U' => ∃ v L, o = .returned v ∧ Q_own_m6 Z A h0 n0 v U'.heap L ∧ FrameEnd U o U' L ({ frames := 0, cells := 0, slots := 0, locals := 0 } : Room).cells ({ frames := 0, cells := 0, slots := 0, locals := 0 } : Room).slots) := by
  refine MetFree.of_bodySF (plainFor_of_name own_pn_com_example_trust_grade_trustgrade_network_Rating) hisR ?_
  intro p e s m args below meth c s₁ Bd hml0 hP hK
  obtain ⟨rfl, hZ, hh⟩ := hP
  have hx := Bd.exec
  have hby := Bd.bytes
  have hml : c.maxLocals = 1 := hml0
  have hown : s.vm.findClass "com/example/trust_grade/trustgrade/network/Rating" = some m.cls := findClass_of_methodNamed Bd.named
  have hnm := (name_of_methodNamed Bd.named Bd.method).1
  have hlk : meth.locks = false := BodyLoose.notSynchronized Bd
  have X0 : Stand p l e ({ frames := 0, cells := 0, slots := 0, locals := 0 } : Room) s m #[(.ref (A 6))] below meth c s₁ [] 0 0 := Stand.of_body Bd
  have e0 : s₁.heap = h0 := by rw [← hh, Bd.state]; rfl
  have N0 := Fr.nil n0
  show own_Go p e below #[(.ref (A 6))] s (fun _ U o U' => ∃ v L, o = .returned v ∧ Q_own_m6 Z A h0 n0 v U'.heap L ∧ FrameEnd U o U' L ({ frames := 0, cells := 0, slots := 0, locals := 0 } : Room).cells ({ frames := 0, cells := 0, slots := 0, locals := 0 } : Room).slots) (s₁.setTop (entryFrame m #[(.ref (A 6))] 1))
  refine own_st (V := s₁.setTop (mkF m 0 #[.val (.ref (A 6))] [])) (fun t k => castTop (by first | (simp [entryFrame, mkF, argsToLocals, Value.category]; done) | rfl) k) ?_
  refine own_st (V := s₁.setTop (mkF m 1 #[.val (.ref (A 6))] [(.ref (A 6))])) (fun t k => XS.aloadN X0.here hx rfl (hb hby own_d1_0) rfl rfl k) ?_
  obtain ⟨T7, X7, e7, st7⟩ := getS2 X0 hx hZ hown (host := "") (Or.inl (hw _ (List.mem_of_getElem? (i := 26) rfl))) Via.refl e0 (own_S En 3 (i := 3) (n := "C2_PLUS") rfl) (g := (mkF m 1 #[.val (.ref (A 6))] [(.ref (A 6))])) rfl (hb hby own_d1_1)
  refine own_st (V := T7.setTop (mkF m 4 #[.val (.ref (A 6))] [(.ref (A 3)), (.ref (A 6))])) (fun t k => st7 _ k) ?_
  refine own_st (V := T7.setTop (mkF m 7 #[.val (.ref (A 6))] [])) (fun t k => Jvm.RoadKit.acmp (g := (mkF m 4 #[.val (.ref (A 6))] [(.ref (A 3)), (.ref (A 6))])) X7 hx rfl rfl rfl (pc0 := 4) (pc' := 7) (same := false) rfl (hb hby own_d1_4) rfl (decide_eq_false fun q => own_ne En 6 3 (i := 6) (n := "B3") (j := 3) (n' := "C2_PLUS") rfl rfl (by decide) (Value.ref.inj q)) (by decide) (by decide) k) ?_
  refine own_st (V := T7.setTop (mkF m 8 #[.val (.ref (A 6))] [(.int (1 : Int32))])) (fun t k => XS.iconst X7.here hx rfl (hb hby own_d1_7) k) ?_
  refine own_st (V := T7.setTop (mkF m 12 #[.val (.ref (A 6))] [(.int (1 : Int32))])) (fun t k => XS.goto X7.here hx rfl (pc0 := 8) (pc' := 12) rfl (hb hby own_d1_8) (by decide) (by decide) k) ?_
  exact own_ret X7 hx hlk Bd.returns (by decide +kernel) (Or.inl ⟨rfl, by simp, _, rfl⟩) (hb hby own_d1_12) (by decide) (by decide) (by show Q_own_m6 Z A h0 n0 _ T7.heap _; rw [e7]; exact ⟨rfl, N0, rfl⟩)
def Q_own_m7 (Z : State) (A : Nat → Addr) (h0 : Heap) (n0 : Nat) (v : Option Value) (h : Heap) (L : List Loc) : Prop := v = some (.int (1 : Int32)) ∧ Fr n0 L ∧ h = h0
set_option maxRecDepth 65536 in
set_option maxHeartbeats 40000000 in
theorem own_m7 (l : Launch) (Z : State) (a0 : Array Value) (hw : ∀ d ∈ tables_1, d.before a0 Z = true) (ws : List Jvm.Cond) (A : Nat → Addr) (h0 : Heap) (n0 : Nat) (Z0 : n0 ≤ h0.size) (En : own_En Z h0 A) :
    MetFree l (⟨"com/example/trust_grade/trustgrade/network/Rating", "ratesSystems", "()Z"⟩ : MethodName) (head1 (Jvm.Cond.code (⟨"com/example/trust_grade/trustgrade/network/Rating", "ratesSystems", "()Z"⟩ : MethodName) prog_39_method_6_code 1 (some .boolean) :: ws) ({ frames := 0, cells := 0, slots := 0, locals := 0 } : Room)) (fun a U => a = #[(.ref (A 7))] ∧ Z.Warmed39 U.vm ∧ U.heap = h0) (fun _ _ _ _ _ => True) (fun _ U o U' => ∃ v L, o = .returned v ∧ Q_own_m7 Z A h0 n0 v U'.heap L ∧ FrameEnd U o U' L ({ frames := 0, cells := 0, slots := 0, locals := 0 } : Room).cells ({ frames := 0, cells := 0, slots := 0, locals := 0 } : Room).slots) := by
  refine MetFree.of_bodySF (plainFor_of_name own_pn_com_example_trust_grade_trustgrade_network_Rating) hisR ?_
  intro p e s m args below meth c s₁ Bd hml0 hP hK
  obtain ⟨rfl, hZ, hh⟩ := hP
  have hx := Bd.exec
  have hby := Bd.bytes
  have hml : c.maxLocals = 1 := hml0
  have hown : s.vm.findClass "com/example/trust_grade/trustgrade/network/Rating" = some m.cls := findClass_of_methodNamed Bd.named
  have hnm := (name_of_methodNamed Bd.named Bd.method).1
  have hlk : meth.locks = false := BodyLoose.notSynchronized Bd
  have X0 : Stand p l e ({ frames := 0, cells := 0, slots := 0, locals := 0 } : Room) s m #[(.ref (A 7))] below meth c s₁ [] 0 0 := Stand.of_body Bd
  have e0 : s₁.heap = h0 := by rw [← hh, Bd.state]; rfl
  have N0 := Fr.nil n0
  show own_Go p e below #[(.ref (A 7))] s (fun _ U o U' => ∃ v L, o = .returned v ∧ Q_own_m7 Z A h0 n0 v U'.heap L ∧ FrameEnd U o U' L ({ frames := 0, cells := 0, slots := 0, locals := 0 } : Room).cells ({ frames := 0, cells := 0, slots := 0, locals := 0 } : Room).slots) (s₁.setTop (entryFrame m #[(.ref (A 7))] 1))
  refine own_st (V := s₁.setTop (mkF m 0 #[.val (.ref (A 7))] [])) (fun t k => castTop (by first | (simp [entryFrame, mkF, argsToLocals, Value.category]; done) | rfl) k) ?_
  refine own_st (V := s₁.setTop (mkF m 1 #[.val (.ref (A 7))] [(.ref (A 7))])) (fun t k => XS.aloadN X0.here hx rfl (hb hby own_d1_0) rfl rfl k) ?_
  obtain ⟨T8, X8, e8, st8⟩ := getS2 X0 hx hZ hown (host := "") (Or.inl (hw _ (List.mem_of_getElem? (i := 26) rfl))) Via.refl e0 (own_S En 3 (i := 3) (n := "C2_PLUS") rfl) (g := (mkF m 1 #[.val (.ref (A 7))] [(.ref (A 7))])) rfl (hb hby own_d1_1)
  refine own_st (V := T8.setTop (mkF m 4 #[.val (.ref (A 7))] [(.ref (A 3)), (.ref (A 7))])) (fun t k => st8 _ k) ?_
  refine own_st (V := T8.setTop (mkF m 7 #[.val (.ref (A 7))] [])) (fun t k => Jvm.RoadKit.acmp (g := (mkF m 4 #[.val (.ref (A 7))] [(.ref (A 3)), (.ref (A 7))])) X8 hx rfl rfl rfl (pc0 := 4) (pc' := 7) (same := false) rfl (hb hby own_d1_4) rfl (decide_eq_false fun q => own_ne En 7 3 (i := 7) (n := "A1") (j := 3) (n' := "C2_PLUS") rfl rfl (by decide) (Value.ref.inj q)) (by decide) (by decide) k) ?_
  refine own_st (V := T8.setTop (mkF m 8 #[.val (.ref (A 7))] [(.int (1 : Int32))])) (fun t k => XS.iconst X8.here hx rfl (hb hby own_d1_7) k) ?_
  refine own_st (V := T8.setTop (mkF m 12 #[.val (.ref (A 7))] [(.int (1 : Int32))])) (fun t k => XS.goto X8.here hx rfl (pc0 := 8) (pc' := 12) rfl (hb hby own_d1_8) (by decide) (by decide) k) ?_
  exact own_ret X8 hx hlk Bd.returns (by decide +kernel) (Or.inl ⟨rfl, by simp, _, rfl⟩) (hb hby own_d1_12) (by decide) (by decide) (by show Q_own_m7 Z A h0 n0 _ T8.heap _; rw [e8]; exact ⟨rfl, N0, rfl⟩)
theorem own_c (x : Int32) : (x &&& (7 : Int32)) = (0 : Int32) ∨ (x &&& (7 : Int32)) = (1 : Int32) ∨ (x &&& (7 : Int32)) = (2 : Int32) ∨ (x &&& (7 : Int32)) = (3 : Int32) ∨ (x &&& (7 : Int32)) = (4 : Int32) ∨ (x &&& (7 : Int32)) = (5 : Int32) ∨ (x &&& (7 : Int32)) = (6 : Int32) ∨ (x &&& (7 : Int32)) = (7 : Int32) := by
  have h := c_mask x 7 3 (by decide) (by decide)
  have e : ∀ k : Int32, (x &&& (7 : Int32)).toInt = k.toInt → (x &&& (7 : Int32)) = k := fun k q => Int32.toInt_inj.mp q
  have b : (x &&& (7 : Int32)).toInt = 0 ∨ (x &&& (7 : Int32)).toInt = 1 ∨ (x &&& (7 : Int32)).toInt = 2 ∨ (x &&& (7 : Int32)).toInt = 3 ∨ (x &&& (7 : Int32)).toInt = 4 ∨ (x &&& (7 : Int32)).toInt = 5 ∨ (x &&& (7 : Int32)).toInt = 6 ∨ (x &&& (7 : Int32)).toInt = 7 := by omega
  rcases b with b | b | b | b | b | b | b | b
  · exact Or.inl (e 0 b)
  · exact Or.inr (Or.inl (e 1 b))
  · exact Or.inr (Or.inr (Or.inl (e 2 b)))
  · exact Or.inr (Or.inr (Or.inr (Or.inl (e 3 b))))
  · exact Or.inr (Or.inr (Or.inr (Or.inr (Or.inl (e 4 b)))))
  · exact Or.inr (Or.inr (Or.inr (Or.inr (Or.inr (Or.inl (e 5 b))))))
  · exact Or.inr (Or.inr (Or.inr (Or.inr (Or.inr (Or.inr (Or.inl (e 6 b)))))))
  · exact Or.inr (Or.inr (Or.inr (Or.inr (Or.inr (Or.inr (Or.inr (e 7 b)))))))
def own_Q0 (Z : State) (p1 : Int32) (A : Nat → Addr) (h0 : Heap) (n0 : Nat) (v : Option Value) (h : Heap) (L : List Loc) : Prop := v = some (.int (1 : Int32)) ∧ Fr n0 L
theorem own_pd0 : parseMethodDescriptor "()Z" = some ⟨[], some .boolean⟩ := by decide +kernel
theorem own_pn_com_example_trust_grade_trustgrade_network_RatingRatesSystemsPinLaw : plainName "com/example/trust_grade/trustgrade/network/RatingRatesSystemsPinLaw" = true := by first | (simp [plainName, overriddenIn]; done) | decide +kernel
set_option maxRecDepth 65536 in
set_option maxHeartbeats 40000000 in
theorem own_law0 (l : Launch) (Z : State) (a0 : Array Value) (hw : ∀ d ∈ tables_1, d.before a0 Z = true) (ws : List Jvm.Cond) (p1 : Int32) (A : Nat → Addr) (h0 : Heap) (n0 : Nat) (Z0 : n0 ≤ h0.size) (En : own_En Z h0 A) :
    MetFree l x (head1 (Jvm.Cond.code x code maxLocals ret :: ws) room_1) (fun a U => a = #[(.int p1)] ∧ Z.Warmed39 U.vm ∧ U.heap = h0) (fun _ _ _ _ _ => True) (fun _ U o U' => ∃ v L, o = .returned v ∧ own_Q0 Z p1 A h0 n0 v U'.heap L ∧ FrameEnd U o U' L room_1.cells room_1.slots) := by
  refine MetFree.of_bodySF (plainFor_of_name own_pn_com_example_trust_grade_trustgrade_network_RatingRatesSystemsPinLaw) hisR ?_
  intro p e s m args below meth c s₁ Bd hml0 hP hK
  obtain ⟨rfl, hZ, hh⟩ := hP
  have hx := Bd.exec
  have hby := Bd.bytes
  have hml : c.maxLocals = 4 := hml0
  have hown : s.vm.findClass "com/example/trust_grade/trustgrade/network/RatingRatesSystemsPinLaw" = some m.cls := findClass_of_methodNamed Bd.named
  have hnm := (name_of_methodNamed Bd.named Bd.method).1
  have hlk : meth.locks = false := BodyLoose.notSynchronized Bd
  have X0 : Stand p l e room_1 s m #[(.int p1)] below meth c s₁ [] 0 0 := Stand.of_body Bd
  have e0 : s₁.heap = h0 := by rw [← hh, Bd.state]; rfl
  have N0 := Fr.nil n0
  show own_Go p e below #[(.int p1)] s (fun _ U o U' => ∃ v L, o = .returned v ∧ own_Q0 Z p1 A h0 n0 v U'.heap L ∧ FrameEnd U o U' L room_1.cells room_1.slots) (s₁.setTop (entryFrame m #[(.int p1)] maxLocals))
  refine own_st (V := s₁.setTop (mkF m 0 #[.val (.int p1), .unset, .unset, .unset] [])) (fun t k => castTop (by first | (simp [entryFrame, mkF, argsToLocals, Value.category, maxLocals]; done) | rfl) k) ?_
  refine own_st (V := s₁.setTop (mkF m 2 #[.val (.int p1), .unset, .unset, .unset] [(.int (8 : Int32))])) (fun t k => XS.bipush X0.here hx rfl (hb hby at_0) k) ?_
  obtain ⟨T9, h9, k9, X9, e9, E9, A9, O9, st9⟩ := newR X0 hx hZ hown (hw _ (List.mem_of_getElem? (i := 0) rfl)) (hw _ (List.mem_of_getElem? (i := 1) rfl)) e0 (g := (mkF m 2 #[.val (.int p1), .unset, .unset, .unset] [(.int (8 : Int32))])) rfl (hb hby at_2) rfl (by decide) (cap := 8) (by decide) (by decide) (by decide) (by decide)
  obtain ⟨b9, g9⟩ : ∃ z, z = h0.size := ⟨_, rfl⟩
  rw [← g9] at A9 st9
  have gb_b9 : n0 ≤ b9 := Nat.le_trans Z0 (Nat.le_of_eq g9.symm)
  have Z0_9 : n0 ≤ h9.size := Nat.le_trans Z0 E9.1
  have hne_b9 : ∀ q ∈ own_cs, A q.1 ≠ b9 := fun q hq => Nat.ne_of_lt (Nat.lt_of_lt_of_le (En q hq).2.1.lt (Nat.le_of_eq g9.symm))
  have En_9 := En.ext E9
  have V_b9 : Arv Z h9 b9 k9 (.object "com/example/trust_grade/trustgrade/network/Rating") (8 : Int32) [.null, .null, .null, .null, .null, .null, .null, .null] .null := (Arv.new A9 (by decide)).pad (pad_rep [] .null 8)
  refine own_st (V := T9.setTop (mkF m 5 #[.val (.int p1), .unset, .unset, .unset] [(.ref b9)])) (fun t k => st9 _ k) ?_
  refine own_st (V := T9.setTop (mkF m 6 #[.val (.int p1), .unset, .unset, .unset] [(.ref b9), (.ref b9)])) (fun t k => XS.dup X9.here hx rfl (hb hby at_5) rfl rfl k) ?_
  refine own_st (V := T9.setTop (mkF m 7 #[.val (.int p1), .unset, .unset, .unset] [(.int (0 : Int32)), (.ref b9), (.ref b9)])) (fun t k => XS.iconst X9.here hx rfl (hb hby at_6) k) ?_
  obtain ⟨T10, X10, e10, st10⟩ := getS2 X9 hx hZ hown (host := "") (Or.inl (hw _ (List.mem_of_getElem? (i := 2) rfl))) Via.refl e9 (own_S En_9 0 (i := 0) (n := "D") rfl) (g := (mkF m 7 #[.val (.int p1), .unset, .unset, .unset] [(.int (0 : Int32)), (.ref b9), (.ref b9)])) rfl (hb hby at_7)
  refine own_st (V := T10.setTop (mkF m 10 #[.val (.int p1), .unset, .unset, .unset] [(.ref (A 0)), (.int (0 : Int32)), (.ref b9), (.ref b9)])) (fun t k => st10 _ k) ?_
  obtain ⟨cl11, Ar11, qk11, sz11, nn11, hs11, fs11⟩ := V_b9
  have hin11 : ¬ ((0 : Int32) < 0 ∨ cl11.slots.size ≤ ((0 : Int32)).toNatClampNeg) := inb_of sz11 ⟨by decide, by decide⟩
  obtain ⟨T11, h11, X11, e11, W11, st11⟩ := stR X10 hx hZ e10 Ar11 (j := (0 : Int32)) hin11 rfl (Sto.ofV Ar11 qk11 O9 (Ins.self (own_E En_9 0 (i := 0) (n := "D") rfl))) (g := (mkF m 10 #[.val (.int p1), .unset, .unset, .unset] [(.ref (A 0)), (.int (0 : Int32)), (.ref b9), (.ref b9)])) rfl rfl (hb hby at_10)
  have V_b9_11 := Arv.set Ar11 qk11 sz11 nn11 hs11 fs11 rfl W11 0 rfl (Nat.le_of_ble_eq_true rfl)
  have N11 := Fr.snoc X11 N0 gb_b9
  have En_11 := En_9.wr W11 hne_b9
  have Z0_11 : n0 ≤ h11.size := by rw [W11.size]; exact Z0_9
  refine own_st (V := T11.setTop (mkF m 11 #[.val (.int p1), .unset, .unset, .unset] [(.ref b9)])) (fun t k => st11 _ k) ?_
  refine own_st (V := T11.setTop (mkF m 12 #[.val (.int p1), .unset, .unset, .unset] [(.ref b9), (.ref b9)])) (fun t k => XS.dup X11.here hx rfl (hb hby at_11) rfl rfl k) ?_
  refine own_st (V := T11.setTop (mkF m 13 #[.val (.int p1), .unset, .unset, .unset] [(.int (1 : Int32)), (.ref b9), (.ref b9)])) (fun t k => XS.iconst X11.here hx rfl (hb hby at_12) k) ?_
  obtain ⟨T12, X12, e12, st12⟩ := getS2 X11 hx hZ hown (host := "") (Or.inl (hw _ (List.mem_of_getElem? (i := 6) rfl))) Via.refl e11 (own_S En_11 1 (i := 1) (n := "C1") rfl) (g := (mkF m 13 #[.val (.int p1), .unset, .unset, .unset] [(.int (1 : Int32)), (.ref b9), (.ref b9)])) rfl (hb hby at_13)
  refine own_st (V := T12.setTop (mkF m 16 #[.val (.int p1), .unset, .unset, .unset] [(.ref (A 1)), (.int (1 : Int32)), (.ref b9), (.ref b9)])) (fun t k => st12 _ k) ?_
  obtain ⟨cl13, Ar13, qk13, sz13, nn13, hs13, fs13⟩ := V_b9_11
  have hin13 : ¬ ((1 : Int32) < 0 ∨ cl13.slots.size ≤ ((1 : Int32)).toNatClampNeg) := inb_of sz13 ⟨by decide, by decide⟩
  obtain ⟨T13, h13, X13, e13, W13, st13⟩ := stR X12 hx hZ e12 Ar13 (j := (1 : Int32)) hin13 rfl (Sto.ofV Ar13 qk13 O9 (Ins.self (own_E En_11 1 (i := 1) (n := "C1") rfl))) (g := (mkF m 16 #[.val (.int p1), .unset, .unset, .unset] [(.ref (A 1)), (.int (1 : Int32)), (.ref b9), (.ref b9)])) rfl rfl (hb hby at_16)
  have V_b9_13 := Arv.set Ar13 qk13 sz13 nn13 hs13 fs13 rfl W13 1 rfl (Nat.le_of_ble_eq_true rfl)
  have N13 := Fr.snoc X13 N11 gb_b9
  have En_13 := En_11.wr W13 hne_b9
  have Z0_13 : n0 ≤ h13.size := by rw [W13.size]; exact Z0_11
  refine own_st (V := T13.setTop (mkF m 17 #[.val (.int p1), .unset, .unset, .unset] [(.ref b9)])) (fun t k => st13 _ k) ?_
  refine own_st (V := T13.setTop (mkF m 18 #[.val (.int p1), .unset, .unset, .unset] [(.ref b9), (.ref b9)])) (fun t k => XS.dup X13.here hx rfl (hb hby at_17) rfl rfl k) ?_
  refine own_st (V := T13.setTop (mkF m 19 #[.val (.int p1), .unset, .unset, .unset] [(.int (2 : Int32)), (.ref b9), (.ref b9)])) (fun t k => XS.iconst X13.here hx rfl (hb hby at_18) k) ?_
  obtain ⟨T14, X14, e14, st14⟩ := getS2 X13 hx hZ hown (host := "") (Or.inl (hw _ (List.mem_of_getElem? (i := 8) rfl))) Via.refl e13 (own_S En_13 2 (i := 2) (n := "C2") rfl) (g := (mkF m 19 #[.val (.int p1), .unset, .unset, .unset] [(.int (2 : Int32)), (.ref b9), (.ref b9)])) rfl (hb hby at_19)
  refine own_st (V := T14.setTop (mkF m 22 #[.val (.int p1), .unset, .unset, .unset] [(.ref (A 2)), (.int (2 : Int32)), (.ref b9), (.ref b9)])) (fun t k => st14 _ k) ?_
  obtain ⟨cl15, Ar15, qk15, sz15, nn15, hs15, fs15⟩ := V_b9_13
  have hin15 : ¬ ((2 : Int32) < 0 ∨ cl15.slots.size ≤ ((2 : Int32)).toNatClampNeg) := inb_of sz15 ⟨by decide, by decide⟩
  obtain ⟨T15, h15, X15, e15, W15, st15⟩ := stR X14 hx hZ e14 Ar15 (j := (2 : Int32)) hin15 rfl (Sto.ofV Ar15 qk15 O9 (Ins.self (own_E En_13 2 (i := 2) (n := "C2") rfl))) (g := (mkF m 22 #[.val (.int p1), .unset, .unset, .unset] [(.ref (A 2)), (.int (2 : Int32)), (.ref b9), (.ref b9)])) rfl rfl (hb hby at_22)
  have V_b9_15 := Arv.set Ar15 qk15 sz15 nn15 hs15 fs15 rfl W15 2 rfl (Nat.le_of_ble_eq_true rfl)
  have N15 := Fr.snoc X15 N13 gb_b9
  have En_15 := En_13.wr W15 hne_b9
  have Z0_15 : n0 ≤ h15.size := by rw [W15.size]; exact Z0_13
  refine own_st (V := T15.setTop (mkF m 23 #[.val (.int p1), .unset, .unset, .unset] [(.ref b9)])) (fun t k => st15 _ k) ?_
  refine own_st (V := T15.setTop (mkF m 24 #[.val (.int p1), .unset, .unset, .unset] [(.ref b9), (.ref b9)])) (fun t k => XS.dup X15.here hx rfl (hb hby at_23) rfl rfl k) ?_
  refine own_st (V := T15.setTop (mkF m 25 #[.val (.int p1), .unset, .unset, .unset] [(.int (3 : Int32)), (.ref b9), (.ref b9)])) (fun t k => XS.iconst X15.here hx rfl (hb hby at_24) k) ?_
  obtain ⟨T16, X16, e16, st16⟩ := getS2 X15 hx hZ hown (host := "") (Or.inl (hw _ (List.mem_of_getElem? (i := 10) rfl))) Via.refl e15 (own_S En_15 3 (i := 3) (n := "C2_PLUS") rfl) (g := (mkF m 25 #[.val (.int p1), .unset, .unset, .unset] [(.int (3 : Int32)), (.ref b9), (.ref b9)])) rfl (hb hby at_25)
  refine own_st (V := T16.setTop (mkF m 28 #[.val (.int p1), .unset, .unset, .unset] [(.ref (A 3)), (.int (3 : Int32)), (.ref b9), (.ref b9)])) (fun t k => st16 _ k) ?_
  obtain ⟨cl17, Ar17, qk17, sz17, nn17, hs17, fs17⟩ := V_b9_15
  have hin17 : ¬ ((3 : Int32) < 0 ∨ cl17.slots.size ≤ ((3 : Int32)).toNatClampNeg) := inb_of sz17 ⟨by decide, by decide⟩
  obtain ⟨T17, h17, X17, e17, W17, st17⟩ := stR X16 hx hZ e16 Ar17 (j := (3 : Int32)) hin17 rfl (Sto.ofV Ar17 qk17 O9 (Ins.self (own_E En_15 3 (i := 3) (n := "C2_PLUS") rfl))) (g := (mkF m 28 #[.val (.int p1), .unset, .unset, .unset] [(.ref (A 3)), (.int (3 : Int32)), (.ref b9), (.ref b9)])) rfl rfl (hb hby at_28)
  have V_b9_17 := Arv.set Ar17 qk17 sz17 nn17 hs17 fs17 rfl W17 3 rfl (Nat.le_of_ble_eq_true rfl)
  have N17 := Fr.snoc X17 N15 gb_b9
  have En_17 := En_15.wr W17 hne_b9
  have Z0_17 : n0 ≤ h17.size := by rw [W17.size]; exact Z0_15
  refine own_st (V := T17.setTop (mkF m 29 #[.val (.int p1), .unset, .unset, .unset] [(.ref b9)])) (fun t k => st17 _ k) ?_
  refine own_st (V := T17.setTop (mkF m 30 #[.val (.int p1), .unset, .unset, .unset] [(.ref b9), (.ref b9)])) (fun t k => XS.dup X17.here hx rfl (hb hby at_29) rfl rfl k) ?_
  refine own_st (V := T17.setTop (mkF m 31 #[.val (.int p1), .unset, .unset, .unset] [(.int (4 : Int32)), (.ref b9), (.ref b9)])) (fun t k => XS.iconst X17.here hx rfl (hb hby at_30) k) ?_
  obtain ⟨T18, X18, e18, st18⟩ := getS2 X17 hx hZ hown (host := "") (Or.inl (hw _ (List.mem_of_getElem? (i := 12) rfl))) Via.refl e17 (own_S En_17 4 (i := 4) (n := "B1") rfl) (g := (mkF m 31 #[.val (.int p1), .unset, .unset, .unset] [(.int (4 : Int32)), (.ref b9), (.ref b9)])) rfl (hb hby at_31)
  refine own_st (V := T18.setTop (mkF m 34 #[.val (.int p1), .unset, .unset, .unset] [(.ref (A 4)), (.int (4 : Int32)), (.ref b9), (.ref b9)])) (fun t k => st18 _ k) ?_
  obtain ⟨cl19, Ar19, qk19, sz19, nn19, hs19, fs19⟩ := V_b9_17
  have hin19 : ¬ ((4 : Int32) < 0 ∨ cl19.slots.size ≤ ((4 : Int32)).toNatClampNeg) := inb_of sz19 ⟨by decide, by decide⟩
  obtain ⟨T19, h19, X19, e19, W19, st19⟩ := stR X18 hx hZ e18 Ar19 (j := (4 : Int32)) hin19 rfl (Sto.ofV Ar19 qk19 O9 (Ins.self (own_E En_17 4 (i := 4) (n := "B1") rfl))) (g := (mkF m 34 #[.val (.int p1), .unset, .unset, .unset] [(.ref (A 4)), (.int (4 : Int32)), (.ref b9), (.ref b9)])) rfl rfl (hb hby at_34)
  have V_b9_19 := Arv.set Ar19 qk19 sz19 nn19 hs19 fs19 rfl W19 4 rfl (Nat.le_of_ble_eq_true rfl)
  have N19 := Fr.snoc X19 N17 gb_b9
  have En_19 := En_17.wr W19 hne_b9
  have Z0_19 : n0 ≤ h19.size := by rw [W19.size]; exact Z0_17
  refine own_st (V := T19.setTop (mkF m 35 #[.val (.int p1), .unset, .unset, .unset] [(.ref b9)])) (fun t k => st19 _ k) ?_
  refine own_st (V := T19.setTop (mkF m 36 #[.val (.int p1), .unset, .unset, .unset] [(.ref b9), (.ref b9)])) (fun t k => XS.dup X19.here hx rfl (hb hby at_35) rfl rfl k) ?_
  refine own_st (V := T19.setTop (mkF m 37 #[.val (.int p1), .unset, .unset, .unset] [(.int (5 : Int32)), (.ref b9), (.ref b9)])) (fun t k => XS.iconst X19.here hx rfl (hb hby at_36) k) ?_
  obtain ⟨T20, X20, e20, st20⟩ := getS2 X19 hx hZ hown (host := "") (Or.inl (hw _ (List.mem_of_getElem? (i := 14) rfl))) Via.refl e19 (own_S En_19 5 (i := 5) (n := "B2") rfl) (g := (mkF m 37 #[.val (.int p1), .unset, .unset, .unset] [(.int (5 : Int32)), (.ref b9), (.ref b9)])) rfl (hb hby at_37)
  refine own_st (V := T20.setTop (mkF m 40 #[.val (.int p1), .unset, .unset, .unset] [(.ref (A 5)), (.int (5 : Int32)), (.ref b9), (.ref b9)])) (fun t k => st20 _ k) ?_
  obtain ⟨cl21, Ar21, qk21, sz21, nn21, hs21, fs21⟩ := V_b9_19
  have hin21 : ¬ ((5 : Int32) < 0 ∨ cl21.slots.size ≤ ((5 : Int32)).toNatClampNeg) := inb_of sz21 ⟨by decide, by decide⟩
  obtain ⟨T21, h21, X21, e21, W21, st21⟩ := stR X20 hx hZ e20 Ar21 (j := (5 : Int32)) hin21 rfl (Sto.ofV Ar21 qk21 O9 (Ins.self (own_E En_19 5 (i := 5) (n := "B2") rfl))) (g := (mkF m 40 #[.val (.int p1), .unset, .unset, .unset] [(.ref (A 5)), (.int (5 : Int32)), (.ref b9), (.ref b9)])) rfl rfl (hb hby at_40)
  have V_b9_21 := Arv.set Ar21 qk21 sz21 nn21 hs21 fs21 rfl W21 5 rfl (Nat.le_of_ble_eq_true rfl)
  have N21 := Fr.snoc X21 N19 gb_b9
  have En_21 := En_19.wr W21 hne_b9
  have Z0_21 : n0 ≤ h21.size := by rw [W21.size]; exact Z0_19
  refine own_st (V := T21.setTop (mkF m 41 #[.val (.int p1), .unset, .unset, .unset] [(.ref b9)])) (fun t k => st21 _ k) ?_
  refine own_st (V := T21.setTop (mkF m 42 #[.val (.int p1), .unset, .unset, .unset] [(.ref b9), (.ref b9)])) (fun t k => XS.dup X21.here hx rfl (hb hby at_41) rfl rfl k) ?_
  refine own_st (V := T21.setTop (mkF m 44 #[.val (.int p1), .unset, .unset, .unset] [(.int (6 : Int32)), (.ref b9), (.ref b9)])) (fun t k => XS.bipush X21.here hx rfl (hb hby at_42) k) ?_
  obtain ⟨T22, X22, e22, st22⟩ := getS2 X21 hx hZ hown (host := "") (Or.inl (hw _ (List.mem_of_getElem? (i := 16) rfl))) Via.refl e21 (own_S En_21 6 (i := 6) (n := "B3") rfl) (g := (mkF m 44 #[.val (.int p1), .unset, .unset, .unset] [(.int (6 : Int32)), (.ref b9), (.ref b9)])) rfl (hb hby at_44)
  refine own_st (V := T22.setTop (mkF m 47 #[.val (.int p1), .unset, .unset, .unset] [(.ref (A 6)), (.int (6 : Int32)), (.ref b9), (.ref b9)])) (fun t k => st22 _ k) ?_
  obtain ⟨cl23, Ar23, qk23, sz23, nn23, hs23, fs23⟩ := V_b9_21
  have hin23 : ¬ ((6 : Int32) < 0 ∨ cl23.slots.size ≤ ((6 : Int32)).toNatClampNeg) := inb_of sz23 ⟨by decide, by decide⟩
  obtain ⟨T23, h23, X23, e23, W23, st23⟩ := stR X22 hx hZ e22 Ar23 (j := (6 : Int32)) hin23 rfl (Sto.ofV Ar23 qk23 O9 (Ins.self (own_E En_21 6 (i := 6) (n := "B3") rfl))) (g := (mkF m 47 #[.val (.int p1), .unset, .unset, .unset] [(.ref (A 6)), (.int (6 : Int32)), (.ref b9), (.ref b9)])) rfl rfl (hb hby at_47)
  have V_b9_23 := Arv.set Ar23 qk23 sz23 nn23 hs23 fs23 rfl W23 6 rfl (Nat.le_of_ble_eq_true rfl)
  have N23 := Fr.snoc X23 N21 gb_b9
  have En_23 := En_21.wr W23 hne_b9
  have Z0_23 : n0 ≤ h23.size := by rw [W23.size]; exact Z0_21
  refine own_st (V := T23.setTop (mkF m 48 #[.val (.int p1), .unset, .unset, .unset] [(.ref b9)])) (fun t k => st23 _ k) ?_
  refine own_st (V := T23.setTop (mkF m 49 #[.val (.int p1), .unset, .unset, .unset] [(.ref b9), (.ref b9)])) (fun t k => XS.dup X23.here hx rfl (hb hby at_48) rfl rfl k) ?_
  refine own_st (V := T23.setTop (mkF m 51 #[.val (.int p1), .unset, .unset, .unset] [(.int (7 : Int32)), (.ref b9), (.ref b9)])) (fun t k => XS.bipush X23.here hx rfl (hb hby at_49) k) ?_
  obtain ⟨T24, X24, e24, st24⟩ := getS2 X23 hx hZ hown (host := "") (Or.inl (hw _ (List.mem_of_getElem? (i := 18) rfl))) Via.refl e23 (own_S En_23 7 (i := 7) (n := "A1") rfl) (g := (mkF m 51 #[.val (.int p1), .unset, .unset, .unset] [(.int (7 : Int32)), (.ref b9), (.ref b9)])) rfl (hb hby at_51)
  refine own_st (V := T24.setTop (mkF m 54 #[.val (.int p1), .unset, .unset, .unset] [(.ref (A 7)), (.int (7 : Int32)), (.ref b9), (.ref b9)])) (fun t k => st24 _ k) ?_
  obtain ⟨cl25, Ar25, qk25, sz25, nn25, hs25, fs25⟩ := V_b9_23
  have hin25 : ¬ ((7 : Int32) < 0 ∨ cl25.slots.size ≤ ((7 : Int32)).toNatClampNeg) := inb_of sz25 ⟨by decide, by decide⟩
  obtain ⟨T25, h25, X25, e25, W25, st25⟩ := stR X24 hx hZ e24 Ar25 (j := (7 : Int32)) hin25 rfl (Sto.ofV Ar25 qk25 O9 (Ins.self (own_E En_23 7 (i := 7) (n := "A1") rfl))) (g := (mkF m 54 #[.val (.int p1), .unset, .unset, .unset] [(.ref (A 7)), (.int (7 : Int32)), (.ref b9), (.ref b9)])) rfl rfl (hb hby at_54)
  have V_b9_25 := Arv.set Ar25 qk25 sz25 nn25 hs25 fs25 rfl W25 7 rfl (Nat.le_of_ble_eq_true rfl)
  have N25 := Fr.snoc X25 N23 gb_b9
  have En_25 := En_23.wr W25 hne_b9
  have Z0_25 : n0 ≤ h25.size := by rw [W25.size]; exact Z0_23
  refine own_st (V := T25.setTop (mkF m 55 #[.val (.int p1), .unset, .unset, .unset] [(.ref b9)])) (fun t k => st25 _ k) ?_
  refine own_st (V := T25.setTop (mkF m 56 #[.val (.int p1), .val (.ref b9), .unset, .unset] [])) (fun t k => XS.astoreN X25.here hx rfl (hb hby at_55) rfl rfl (l' := #[.val (.int p1), .val (.ref b9), .unset, .unset]) rfl k) ?_
  refine own_st (V := T25.setTop (mkF m 58 #[.val (.int p1), .val (.ref b9), .unset, .unset] [(.int (8 : Int32))])) (fun t k => XS.bipush X25.here hx rfl (hb hby at_56) k) ?_
  obtain ⟨T26, h26, k26, X26, e26, E26, A26, st26⟩ := newP X25 hx hZ (hw _ (List.mem_of_getElem? (i := 20) rfl)) e25 (g := (mkF m 58 #[.val (.int p1), .val (.ref b9), .unset, .unset] [(.int (8 : Int32))])) rfl (hb hby at_58) rfl (by decide) (cap := 8) (by decide) (by decide) (by decide) (by decide)
  obtain ⟨b26, g26⟩ : ∃ z, z = h25.size := ⟨_, rfl⟩
  rw [← g26] at A26 st26
  have gb_b26 : n0 ≤ b26 := Nat.le_trans Z0_25 (Nat.le_of_eq g26.symm)
  have Z0_26 : n0 ≤ h26.size := Nat.le_trans Z0_25 E26.1
  have hne_b26 : ∀ q ∈ own_cs, A q.1 ≠ b26 := fun q hq => Nat.ne_of_lt (Nat.lt_of_lt_of_le (En_25 q hq).2.1.lt (Nat.le_of_eq g26.symm))
  have ne_b9_b26 : b9 ≠ b26 := Nat.ne_of_lt (Nat.lt_of_lt_of_le V_b9_25.lt (Nat.le_of_eq g26.symm))
  have En_26 := En_25.ext E26
  have V_b9_26 := V_b9_25.ext E26
  have V_b26 : Arv Z h26 b26 k26 .boolean (8 : Int32) [(.int (0 : Int32)), (.int (0 : Int32)), (.int (0 : Int32)), (.int (0 : Int32)), (.int (0 : Int32)), (.int (0 : Int32)), (.int (0 : Int32)), (.int (0 : Int32))] (.int (0 : Int32)) := (Arv.new A26 (by decide)).pad (pad_rep [] (.int (0 : Int32)) 8)
  refine own_st (V := T26.setTop (mkF m 60 #[.val (.int p1), .val (.ref b9), .unset, .unset] [(.ref b26)])) (fun t k => st26 _ k) ?_
  refine own_st (V := T26.setTop (mkF m 61 #[.val (.int p1), .val (.ref b9), .unset, .unset] [(.ref b26), (.ref b26)])) (fun t k => XS.dup X26.here hx rfl (hb hby at_60) rfl rfl k) ?_
  refine own_st (V := T26.setTop (mkF m 62 #[.val (.int p1), .val (.ref b9), .unset, .unset] [(.int (0 : Int32)), (.ref b26), (.ref b26)])) (fun t k => XS.iconst X26.here hx rfl (hb hby at_61) k) ?_
  refine own_st (V := T26.setTop (mkF m 63 #[.val (.int p1), .val (.ref b9), .unset, .unset] [(.int (1 : Int32)), (.int (0 : Int32)), (.ref b26), (.ref b26)])) (fun t k => XS.iconst X26.here hx rfl (hb hby at_62) k) ?_
  obtain ⟨cl27, Ar27, qk27, sz27, nn27, hs27, fs27⟩ := V_b26
  have hin27 : ¬ ((0 : Int32) < 0 ∨ cl27.slots.size ≤ ((0 : Int32)).toNatClampNeg) := inb_of sz27 ⟨by decide, by decide⟩
  obtain ⟨T27, h27, X27, e27, W27, st27⟩ := stZ X26 hx hZ e26 Ar27 (j := (0 : Int32)) hin27 (g := (mkF m 63 #[.val (.int p1), .val (.ref b9), .unset, .unset] [(.int (1 : Int32)), (.int (0 : Int32)), (.ref b26), (.ref b26)])) rfl rfl (hb hby at_63)
  have V_b26_27 := Arv.set Ar27 qk27 sz27 nn27 hs27 fs27 (fits_nar_bool _) W27 0 rfl (Nat.le_of_ble_eq_true rfl)
  have N27 := Fr.snoc X27 N25 gb_b26
  have En_27 := En_26.wr W27 hne_b26
  have V_b9_27 := V_b9_26.other W27 (Ne.symm (Ne.symm ne_b9_b26))
  have Z0_27 : n0 ≤ h27.size := by rw [W27.size]; exact Z0_26
  refine own_st (V := T27.setTop (mkF m 64 #[.val (.int p1), .val (.ref b9), .unset, .unset] [(.ref b26)])) (fun t k => st27 _ k) ?_
  refine own_st (V := T27.setTop (mkF m 65 #[.val (.int p1), .val (.ref b9), .unset, .unset] [(.ref b26), (.ref b26)])) (fun t k => XS.dup X27.here hx rfl (hb hby at_64) rfl rfl k) ?_
  refine own_st (V := T27.setTop (mkF m 66 #[.val (.int p1), .val (.ref b9), .unset, .unset] [(.int (1 : Int32)), (.ref b26), (.ref b26)])) (fun t k => XS.iconst X27.here hx rfl (hb hby at_65) k) ?_
  refine own_st (V := T27.setTop (mkF m 67 #[.val (.int p1), .val (.ref b9), .unset, .unset] [(.int (1 : Int32)), (.int (1 : Int32)), (.ref b26), (.ref b26)])) (fun t k => XS.iconst X27.here hx rfl (hb hby at_66) k) ?_
  obtain ⟨cl28, Ar28, qk28, sz28, nn28, hs28, fs28⟩ := V_b26_27
  have hin28 : ¬ ((1 : Int32) < 0 ∨ cl28.slots.size ≤ ((1 : Int32)).toNatClampNeg) := inb_of sz28 ⟨by decide, by decide⟩
  obtain ⟨T28, h28, X28, e28, W28, st28⟩ := stZ X27 hx hZ e27 Ar28 (j := (1 : Int32)) hin28 (g := (mkF m 67 #[.val (.int p1), .val (.ref b9), .unset, .unset] [(.int (1 : Int32)), (.int (1 : Int32)), (.ref b26), (.ref b26)])) rfl rfl (hb hby at_67)
  have V_b26_28 := Arv.set Ar28 qk28 sz28 nn28 hs28 fs28 (fits_nar_bool _) W28 1 rfl (Nat.le_of_ble_eq_true rfl)
  have N28 := Fr.snoc X28 N27 gb_b26
  have En_28 := En_27.wr W28 hne_b26
  have V_b9_28 := V_b9_27.other W28 (Ne.symm (Ne.symm ne_b9_b26))
  have Z0_28 : n0 ≤ h28.size := by rw [W28.size]; exact Z0_27
  refine own_st (V := T28.setTop (mkF m 68 #[.val (.int p1), .val (.ref b9), .unset, .unset] [(.ref b26)])) (fun t k => st28 _ k) ?_
  refine own_st (V := T28.setTop (mkF m 69 #[.val (.int p1), .val (.ref b9), .unset, .unset] [(.ref b26), (.ref b26)])) (fun t k => XS.dup X28.here hx rfl (hb hby at_68) rfl rfl k) ?_
  refine own_st (V := T28.setTop (mkF m 70 #[.val (.int p1), .val (.ref b9), .unset, .unset] [(.int (2 : Int32)), (.ref b26), (.ref b26)])) (fun t k => XS.iconst X28.here hx rfl (hb hby at_69) k) ?_
  refine own_st (V := T28.setTop (mkF m 71 #[.val (.int p1), .val (.ref b9), .unset, .unset] [(.int (1 : Int32)), (.int (2 : Int32)), (.ref b26), (.ref b26)])) (fun t k => XS.iconst X28.here hx rfl (hb hby at_70) k) ?_
  obtain ⟨cl29, Ar29, qk29, sz29, nn29, hs29, fs29⟩ := V_b26_28
  have hin29 : ¬ ((2 : Int32) < 0 ∨ cl29.slots.size ≤ ((2 : Int32)).toNatClampNeg) := inb_of sz29 ⟨by decide, by decide⟩
  obtain ⟨T29, h29, X29, e29, W29, st29⟩ := stZ X28 hx hZ e28 Ar29 (j := (2 : Int32)) hin29 (g := (mkF m 71 #[.val (.int p1), .val (.ref b9), .unset, .unset] [(.int (1 : Int32)), (.int (2 : Int32)), (.ref b26), (.ref b26)])) rfl rfl (hb hby at_71)
  have V_b26_29 := Arv.set Ar29 qk29 sz29 nn29 hs29 fs29 (fits_nar_bool _) W29 2 rfl (Nat.le_of_ble_eq_true rfl)
  have N29 := Fr.snoc X29 N28 gb_b26
  have En_29 := En_28.wr W29 hne_b26
  have V_b9_29 := V_b9_28.other W29 (Ne.symm (Ne.symm ne_b9_b26))
  have Z0_29 : n0 ≤ h29.size := by rw [W29.size]; exact Z0_28
  refine own_st (V := T29.setTop (mkF m 72 #[.val (.int p1), .val (.ref b9), .unset, .unset] [(.ref b26)])) (fun t k => st29 _ k) ?_
  refine own_st (V := T29.setTop (mkF m 73 #[.val (.int p1), .val (.ref b9), .unset, .unset] [(.ref b26), (.ref b26)])) (fun t k => XS.dup X29.here hx rfl (hb hby at_72) rfl rfl k) ?_
  refine own_st (V := T29.setTop (mkF m 74 #[.val (.int p1), .val (.ref b9), .unset, .unset] [(.int (3 : Int32)), (.ref b26), (.ref b26)])) (fun t k => XS.iconst X29.here hx rfl (hb hby at_73) k) ?_
  refine own_st (V := T29.setTop (mkF m 75 #[.val (.int p1), .val (.ref b9), .unset, .unset] [(.int (0 : Int32)), (.int (3 : Int32)), (.ref b26), (.ref b26)])) (fun t k => XS.iconst X29.here hx rfl (hb hby at_74) k) ?_
  obtain ⟨cl30, Ar30, qk30, sz30, nn30, hs30, fs30⟩ := V_b26_29
  have hin30 : ¬ ((3 : Int32) < 0 ∨ cl30.slots.size ≤ ((3 : Int32)).toNatClampNeg) := inb_of sz30 ⟨by decide, by decide⟩
  obtain ⟨T30, h30, X30, e30, W30, st30⟩ := stZ X29 hx hZ e29 Ar30 (j := (3 : Int32)) hin30 (g := (mkF m 75 #[.val (.int p1), .val (.ref b9), .unset, .unset] [(.int (0 : Int32)), (.int (3 : Int32)), (.ref b26), (.ref b26)])) rfl rfl (hb hby at_75)
  have V_b26_30 := Arv.set Ar30 qk30 sz30 nn30 hs30 fs30 (fits_nar_bool _) W30 3 rfl (Nat.le_of_ble_eq_true rfl)
  have N30 := Fr.snoc X30 N29 gb_b26
  have En_30 := En_29.wr W30 hne_b26
  have V_b9_30 := V_b9_29.other W30 (Ne.symm (Ne.symm ne_b9_b26))
  have Z0_30 : n0 ≤ h30.size := by rw [W30.size]; exact Z0_29
  refine own_st (V := T30.setTop (mkF m 76 #[.val (.int p1), .val (.ref b9), .unset, .unset] [(.ref b26)])) (fun t k => st30 _ k) ?_
  refine own_st (V := T30.setTop (mkF m 77 #[.val (.int p1), .val (.ref b9), .unset, .unset] [(.ref b26), (.ref b26)])) (fun t k => XS.dup X30.here hx rfl (hb hby at_76) rfl rfl k) ?_
  refine own_st (V := T30.setTop (mkF m 78 #[.val (.int p1), .val (.ref b9), .unset, .unset] [(.int (4 : Int32)), (.ref b26), (.ref b26)])) (fun t k => XS.iconst X30.here hx rfl (hb hby at_77) k) ?_
  refine own_st (V := T30.setTop (mkF m 79 #[.val (.int p1), .val (.ref b9), .unset, .unset] [(.int (1 : Int32)), (.int (4 : Int32)), (.ref b26), (.ref b26)])) (fun t k => XS.iconst X30.here hx rfl (hb hby at_78) k) ?_
  obtain ⟨cl31, Ar31, qk31, sz31, nn31, hs31, fs31⟩ := V_b26_30
  have hin31 : ¬ ((4 : Int32) < 0 ∨ cl31.slots.size ≤ ((4 : Int32)).toNatClampNeg) := inb_of sz31 ⟨by decide, by decide⟩
  obtain ⟨T31, h31, X31, e31, W31, st31⟩ := stZ X30 hx hZ e30 Ar31 (j := (4 : Int32)) hin31 (g := (mkF m 79 #[.val (.int p1), .val (.ref b9), .unset, .unset] [(.int (1 : Int32)), (.int (4 : Int32)), (.ref b26), (.ref b26)])) rfl rfl (hb hby at_79)
  have V_b26_31 := Arv.set Ar31 qk31 sz31 nn31 hs31 fs31 (fits_nar_bool _) W31 4 rfl (Nat.le_of_ble_eq_true rfl)
  have N31 := Fr.snoc X31 N30 gb_b26
  have En_31 := En_30.wr W31 hne_b26
  have V_b9_31 := V_b9_30.other W31 (Ne.symm (Ne.symm ne_b9_b26))
  have Z0_31 : n0 ≤ h31.size := by rw [W31.size]; exact Z0_30
  refine own_st (V := T31.setTop (mkF m 80 #[.val (.int p1), .val (.ref b9), .unset, .unset] [(.ref b26)])) (fun t k => st31 _ k) ?_
  refine own_st (V := T31.setTop (mkF m 81 #[.val (.int p1), .val (.ref b9), .unset, .unset] [(.ref b26), (.ref b26)])) (fun t k => XS.dup X31.here hx rfl (hb hby at_80) rfl rfl k) ?_
  refine own_st (V := T31.setTop (mkF m 82 #[.val (.int p1), .val (.ref b9), .unset, .unset] [(.int (5 : Int32)), (.ref b26), (.ref b26)])) (fun t k => XS.iconst X31.here hx rfl (hb hby at_81) k) ?_
  refine own_st (V := T31.setTop (mkF m 83 #[.val (.int p1), .val (.ref b9), .unset, .unset] [(.int (1 : Int32)), (.int (5 : Int32)), (.ref b26), (.ref b26)])) (fun t k => XS.iconst X31.here hx rfl (hb hby at_82) k) ?_
  obtain ⟨cl32, Ar32, qk32, sz32, nn32, hs32, fs32⟩ := V_b26_31
  have hin32 : ¬ ((5 : Int32) < 0 ∨ cl32.slots.size ≤ ((5 : Int32)).toNatClampNeg) := inb_of sz32 ⟨by decide, by decide⟩
  obtain ⟨T32, h32, X32, e32, W32, st32⟩ := stZ X31 hx hZ e31 Ar32 (j := (5 : Int32)) hin32 (g := (mkF m 83 #[.val (.int p1), .val (.ref b9), .unset, .unset] [(.int (1 : Int32)), (.int (5 : Int32)), (.ref b26), (.ref b26)])) rfl rfl (hb hby at_83)
  have V_b26_32 := Arv.set Ar32 qk32 sz32 nn32 hs32 fs32 (fits_nar_bool _) W32 5 rfl (Nat.le_of_ble_eq_true rfl)
  have N32 := Fr.snoc X32 N31 gb_b26
  have En_32 := En_31.wr W32 hne_b26
  have V_b9_32 := V_b9_31.other W32 (Ne.symm (Ne.symm ne_b9_b26))
  have Z0_32 : n0 ≤ h32.size := by rw [W32.size]; exact Z0_31
  refine own_st (V := T32.setTop (mkF m 84 #[.val (.int p1), .val (.ref b9), .unset, .unset] [(.ref b26)])) (fun t k => st32 _ k) ?_
  refine own_st (V := T32.setTop (mkF m 85 #[.val (.int p1), .val (.ref b9), .unset, .unset] [(.ref b26), (.ref b26)])) (fun t k => XS.dup X32.here hx rfl (hb hby at_84) rfl rfl k) ?_
  refine own_st (V := T32.setTop (mkF m 87 #[.val (.int p1), .val (.ref b9), .unset, .unset] [(.int (6 : Int32)), (.ref b26), (.ref b26)])) (fun t k => XS.bipush X32.here hx rfl (hb hby at_85) k) ?_
  refine own_st (V := T32.setTop (mkF m 88 #[.val (.int p1), .val (.ref b9), .unset, .unset] [(.int (1 : Int32)), (.int (6 : Int32)), (.ref b26), (.ref b26)])) (fun t k => XS.iconst X32.here hx rfl (hb hby at_87) k) ?_
  obtain ⟨cl33, Ar33, qk33, sz33, nn33, hs33, fs33⟩ := V_b26_32
  have hin33 : ¬ ((6 : Int32) < 0 ∨ cl33.slots.size ≤ ((6 : Int32)).toNatClampNeg) := inb_of sz33 ⟨by decide, by decide⟩
  obtain ⟨T33, h33, X33, e33, W33, st33⟩ := stZ X32 hx hZ e32 Ar33 (j := (6 : Int32)) hin33 (g := (mkF m 88 #[.val (.int p1), .val (.ref b9), .unset, .unset] [(.int (1 : Int32)), (.int (6 : Int32)), (.ref b26), (.ref b26)])) rfl rfl (hb hby at_88)
  have V_b26_33 := Arv.set Ar33 qk33 sz33 nn33 hs33 fs33 (fits_nar_bool _) W33 6 rfl (Nat.le_of_ble_eq_true rfl)
  have N33 := Fr.snoc X33 N32 gb_b26
  have En_33 := En_32.wr W33 hne_b26
  have V_b9_33 := V_b9_32.other W33 (Ne.symm (Ne.symm ne_b9_b26))
  have Z0_33 : n0 ≤ h33.size := by rw [W33.size]; exact Z0_32
  refine own_st (V := T33.setTop (mkF m 89 #[.val (.int p1), .val (.ref b9), .unset, .unset] [(.ref b26)])) (fun t k => st33 _ k) ?_
  refine own_st (V := T33.setTop (mkF m 90 #[.val (.int p1), .val (.ref b9), .unset, .unset] [(.ref b26), (.ref b26)])) (fun t k => XS.dup X33.here hx rfl (hb hby at_89) rfl rfl k) ?_
  refine own_st (V := T33.setTop (mkF m 92 #[.val (.int p1), .val (.ref b9), .unset, .unset] [(.int (7 : Int32)), (.ref b26), (.ref b26)])) (fun t k => XS.bipush X33.here hx rfl (hb hby at_90) k) ?_
  refine own_st (V := T33.setTop (mkF m 93 #[.val (.int p1), .val (.ref b9), .unset, .unset] [(.int (1 : Int32)), (.int (7 : Int32)), (.ref b26), (.ref b26)])) (fun t k => XS.iconst X33.here hx rfl (hb hby at_92) k) ?_
  obtain ⟨cl34, Ar34, qk34, sz34, nn34, hs34, fs34⟩ := V_b26_33
  have hin34 : ¬ ((7 : Int32) < 0 ∨ cl34.slots.size ≤ ((7 : Int32)).toNatClampNeg) := inb_of sz34 ⟨by decide, by decide⟩
  obtain ⟨T34, h34, X34, e34, W34, st34⟩ := stZ X33 hx hZ e33 Ar34 (j := (7 : Int32)) hin34 (g := (mkF m 93 #[.val (.int p1), .val (.ref b9), .unset, .unset] [(.int (1 : Int32)), (.int (7 : Int32)), (.ref b26), (.ref b26)])) rfl rfl (hb hby at_93)
  have V_b26_34 := Arv.set Ar34 qk34 sz34 nn34 hs34 fs34 (fits_nar_bool _) W34 7 rfl (Nat.le_of_ble_eq_true rfl)
  have N34 := Fr.snoc X34 N33 gb_b26
  have En_34 := En_33.wr W34 hne_b26
  have V_b9_34 := V_b9_33.other W34 (Ne.symm (Ne.symm ne_b9_b26))
  have Z0_34 : n0 ≤ h34.size := by rw [W34.size]; exact Z0_33
  refine own_st (V := T34.setTop (mkF m 94 #[.val (.int p1), .val (.ref b9), .unset, .unset] [(.ref b26)])) (fun t k => st34 _ k) ?_
  refine own_st (V := T34.setTop (mkF m 95 #[.val (.int p1), .val (.ref b9), .val (.ref b26), .unset] [])) (fun t k => XS.astoreN X34.here hx rfl (hb hby at_94) rfl rfl (l' := #[.val (.int p1), .val (.ref b9), .val (.ref b26), .unset]) rfl k) ?_
  refine own_st (V := T34.setTop (mkF m 96 #[.val (.int p1), .val (.ref b9), .val (.ref b26), .unset] [(.int p1)])) (fun t k => XS.iloadN X34.here hx rfl (hb hby at_95) rfl k) ?_
  refine own_st (V := T34.setTop (mkF m 98 #[.val (.int p1), .val (.ref b9), .val (.ref b26), .unset] [(.int (7 : Int32)), (.int p1)])) (fun t k => XS.bipush X34.here hx rfl (hb hby at_96) k) ?_
  refine own_st (V := T34.setTop (mkF m 99 #[.val (.int p1), .val (.ref b9), .val (.ref b26), .unset] [(.int (p1 &&& (7 : Int32)))])) (fun t k => XS.iand X34.here hx rfl (hb hby at_98) rfl k) ?_
  rcases own_c p1 with hs99 | hs99 | hs99 | hs99 | hs99 | hs99 | hs99 | hs99
  · rw [hs99]
    refine own_st (V := T34.setTop (mkF m 100 #[.val (.int p1), .val (.ref b9), .val (.ref b26), .val (.int (0 : Int32))] [])) (fun t k => XS.istoreN X34.here hx rfl (hb hby at_99) rfl (l' := #[.val (.int p1), .val (.ref b9), .val (.ref b26), .val (.int (0 : Int32))]) rfl k) ?_
    refine own_st (V := T34.setTop (mkF m 101 #[.val (.int p1), .val (.ref b9), .val (.ref b26), .val (.int (0 : Int32))] [(.ref b9)])) (fun t k => XS.aloadN X34.here hx rfl (hb hby at_100) rfl rfl k) ?_
    refine own_st (V := T34.setTop (mkF m 102 #[.val (.int p1), .val (.ref b9), .val (.ref b26), .val (.int (0 : Int32))] [(.int (0 : Int32)), (.ref b9)])) (fun t k => XS.iloadN X34.here hx rfl (hb hby at_101) rfl k) ?_
    have V_b9_35 := V_b9_34
    obtain ⟨cl35, Ar35, qk35, sz35, nn35, hs35, fs35⟩ := V_b9_34
    have hin35 : ¬ ((0 : Int32) < 0 ∨ cl35.slots.size ≤ ((0 : Int32)).toNatClampNeg) := inb_of sz35 ⟨by decide, by decide⟩
    refine own_st (V := T34.setTop (mkF m 103 #[.val (.int p1), .val (.ref b9), .val (.ref b26), .val (.int (0 : Int32))] [(.ref (A 0))])) (fun t k => X34.aaload hx (j := (0 : Int32)) (v := (.ref (A 0))) (by rw [e34]; exact Ar35.1) (State.isArrayOf_alike hZ.alike Ar35.2.1) rfl Ar35.2.2 hin35 (Has.at hs35 hin35 rfl) (g := (mkF m 102 #[.val (.int p1), .val (.ref b9), .val (.ref b26), .val (.int (0 : Int32))] [(.int (0 : Int32)), (.ref b9)])) rfl rfl (hb hby at_102) _ k) ?_
    obtain ⟨cq36, kq36, q36a, q36b, q36c⟩ := isOf hZ e34 (own_E En_34 0 (i := 0) (n := "D") rfl)
    obtain ⟨_, _, ⟨T36, L36, k36, n36⟩, -, X36, ⟨Lc36, hQ36, l36, y36, z36⟩, st36⟩ := X34.virtualBack hx (y := (⟨"com/example/trust_grade/trustgrade/network/Rating", "ratesSystems", "()Z"⟩ : MethodName)) (z := (⟨"com/example/trust_grade/trustgrade/network/Rating", "ratesSystems", "()Z"⟩ : MethodName)) hown (mvT hZ (hw _ (List.mem_of_getElem? (i := 21) rfl))) (mvT hZ (hw _ (List.mem_of_getElem? (i := 22) rfl))) (notFace_of_selects (args := #[]) (mvT hZ (hw _ (List.mem_of_getElem? (i := 24) rfl)))) (mvT hZ (hw _ (List.mem_of_getElem? (i := 24) rfl))) (mvT hZ (hw _ (List.mem_of_getElem? (i := 23) rfl))) (by decide) (backOf (W := 0) (own_m0 l Z a0 hw [] A h34 n0 Z0_34 En_34 ) hZ (hw _ (List.mem_of_getElem? (i := 25) rfl)) (hw _ (List.mem_of_getElem? (i := 3) rfl)) (by decide) (by decide)) q36a q36c (g := (mkF m 103 #[.val (.int p1), .val (.ref b9), .val (.ref b26), .val (.int (0 : Int32))] [(.ref (A 0))])) rfl (by rw [hml]; rfl) (Steps.refl _) (argsL := []) (rest := []) (lenOf own_pd0 rfl) rfl (by show 2 * 0 + _ ≤ _; exact Nat.le_of_eq rfl) (hb hby at_103) (fun _ _ => ⟨rfl, e34, (by decide : 2 + 0 ≤ _), (by decide : 16 + 0 ≤ _)⟩)
    dsimp only [Pt.U, Pt.locs, Pt.cells, Pt.slots] at X36 l36 y36 z36 st36 hQ36
    subst l36 y36 z36
    obtain ⟨rfl, N36q, e36⟩ := hQ36
    have N36 := Fr.app N34 N36q
    refine own_st (V := T36.setTop (mkF m 106 #[.val (.int p1), .val (.ref b9), .val (.ref b26), .val (.int (0 : Int32))] [(.int (1 : Int32))])) (fun t k => st36.trans k) ?_
    refine own_st (V := T36.setTop (mkF m 107 #[.val (.int p1), .val (.ref b9), .val (.ref b26), .val (.int (0 : Int32))] [(.ref b26), (.int (1 : Int32))])) (fun t k => XS.aloadN X36.here hx rfl (hb hby at_106) rfl rfl k) ?_
    refine own_st (V := T36.setTop (mkF m 108 #[.val (.int p1), .val (.ref b9), .val (.ref b26), .val (.int (0 : Int32))] [(.int (0 : Int32)), (.ref b26), (.int (1 : Int32))])) (fun t k => XS.iloadN X36.here hx rfl (hb hby at_107) rfl k) ?_
    have V_b26_37 := V_b26_34
    obtain ⟨cl37, Ar37, qk37, sz37, nn37, hs37, fs37⟩ := V_b26_34
    have hin37 : ¬ ((0 : Int32) < 0 ∨ cl37.slots.size ≤ ((0 : Int32)).toNatClampNeg) := inb_of sz37 ⟨by decide, by decide⟩
    refine own_st (V := T36.setTop (mkF m 109 #[.val (.int p1), .val (.ref b9), .val (.ref b26), .val (.int (0 : Int32))] [(.int (nar .boolean (1 : Int32))), (.int (1 : Int32))])) (fun t k => X36.baloadBooleans hx (j := (0 : Int32)) (v := (.int (nar .boolean (1 : Int32)))) (by rw [e36]; exact Ar37.1) (State.isArrayOf_alike hZ.alike Ar37.2.1) Ar37.2.2 hin37 (Has.at hs37 hin37 rfl) (g := (mkF m 108 #[.val (.int p1), .val (.ref b9), .val (.ref b26), .val (.int (0 : Int32))] [(.int (0 : Int32)), (.ref b26), (.int (1 : Int32))])) rfl rfl (hb hby at_108) _ k) ?_
    refine own_st (V := T36.setTop (mkF m 112 #[.val (.int p1), .val (.ref b9), .val (.ref b26), .val (.int (0 : Int32))] [])) (fun t k => XS.icmpNo X36.here hx rfl (hb hby at_109) rfl (teq (by decide +kernel : (1 : Int32) = (nar .boolean (1 : Int32)))).2 k) ?_
    refine own_st (V := T36.setTop (mkF m 113 #[.val (.int p1), .val (.ref b9), .val (.ref b26), .val (.int (0 : Int32))] [(.int (1 : Int32))])) (fun t k => XS.iconst X36.here hx rfl (hb hby at_112) k) ?_
    refine own_st (V := T36.setTop (mkF m 117 #[.val (.int p1), .val (.ref b9), .val (.ref b26), .val (.int (0 : Int32))] [(.int (1 : Int32))])) (fun t k => XS.goto X36.here hx rfl (pc0 := 113) (pc' := 117) rfl (hb hby at_113) (by decide) (by decide) k) ?_
    exact own_ret X36 hx hlk Bd.returns (by decide +kernel) (Or.inl ⟨rfl, by simp, _, rfl⟩) (hb hby at_117) (by decide) (by decide) ⟨rfl, N36⟩
  · rw [hs99]
    refine own_st (V := T34.setTop (mkF m 100 #[.val (.int p1), .val (.ref b9), .val (.ref b26), .val (.int (1 : Int32))] [])) (fun t k => XS.istoreN X34.here hx rfl (hb hby at_99) rfl (l' := #[.val (.int p1), .val (.ref b9), .val (.ref b26), .val (.int (1 : Int32))]) rfl k) ?_
    refine own_st (V := T34.setTop (mkF m 101 #[.val (.int p1), .val (.ref b9), .val (.ref b26), .val (.int (1 : Int32))] [(.ref b9)])) (fun t k => XS.aloadN X34.here hx rfl (hb hby at_100) rfl rfl k) ?_
    refine own_st (V := T34.setTop (mkF m 102 #[.val (.int p1), .val (.ref b9), .val (.ref b26), .val (.int (1 : Int32))] [(.int (1 : Int32)), (.ref b9)])) (fun t k => XS.iloadN X34.here hx rfl (hb hby at_101) rfl k) ?_
    have V_b9_38 := V_b9_34
    obtain ⟨cl38, Ar38, qk38, sz38, nn38, hs38, fs38⟩ := V_b9_34
    have hin38 : ¬ ((1 : Int32) < 0 ∨ cl38.slots.size ≤ ((1 : Int32)).toNatClampNeg) := inb_of sz38 ⟨by decide, by decide⟩
    refine own_st (V := T34.setTop (mkF m 103 #[.val (.int p1), .val (.ref b9), .val (.ref b26), .val (.int (1 : Int32))] [(.ref (A 1))])) (fun t k => X34.aaload hx (j := (1 : Int32)) (v := (.ref (A 1))) (by rw [e34]; exact Ar38.1) (State.isArrayOf_alike hZ.alike Ar38.2.1) rfl Ar38.2.2 hin38 (Has.at hs38 hin38 rfl) (g := (mkF m 102 #[.val (.int p1), .val (.ref b9), .val (.ref b26), .val (.int (1 : Int32))] [(.int (1 : Int32)), (.ref b9)])) rfl rfl (hb hby at_102) _ k) ?_
    obtain ⟨cq39, kq39, q39a, q39b, q39c⟩ := isOf hZ e34 (own_E En_34 1 (i := 1) (n := "C1") rfl)
    obtain ⟨_, _, ⟨T39, L39, k39, n39⟩, -, X39, ⟨Lc39, hQ39, l39, y39, z39⟩, st39⟩ := X34.virtualBack hx (y := (⟨"com/example/trust_grade/trustgrade/network/Rating", "ratesSystems", "()Z"⟩ : MethodName)) (z := (⟨"com/example/trust_grade/trustgrade/network/Rating", "ratesSystems", "()Z"⟩ : MethodName)) hown (mvT hZ (hw _ (List.mem_of_getElem? (i := 21) rfl))) (mvT hZ (hw _ (List.mem_of_getElem? (i := 22) rfl))) (notFace_of_selects (args := #[]) (mvT hZ (hw _ (List.mem_of_getElem? (i := 24) rfl)))) (mvT hZ (hw _ (List.mem_of_getElem? (i := 24) rfl))) (mvT hZ (hw _ (List.mem_of_getElem? (i := 23) rfl))) (by decide) (backOf (W := 0) (own_m1 l Z a0 hw [] A h34 n0 Z0_34 En_34 ) hZ (hw _ (List.mem_of_getElem? (i := 25) rfl)) (hw _ (List.mem_of_getElem? (i := 3) rfl)) (by decide) (by decide)) q39a q39c (g := (mkF m 103 #[.val (.int p1), .val (.ref b9), .val (.ref b26), .val (.int (1 : Int32))] [(.ref (A 1))])) rfl (by rw [hml]; rfl) (Steps.refl _) (argsL := []) (rest := []) (lenOf own_pd0 rfl) rfl (by show 2 * 0 + _ ≤ _; exact Nat.le_of_eq rfl) (hb hby at_103) (fun _ _ => ⟨rfl, e34, (by decide : 2 + 0 ≤ _), (by decide : 16 + 0 ≤ _)⟩)
    dsimp only [Pt.U, Pt.locs, Pt.cells, Pt.slots] at X39 l39 y39 z39 st39 hQ39
    subst l39 y39 z39
    obtain ⟨rfl, N39q, e39⟩ := hQ39
    have N39 := Fr.app N34 N39q
    refine own_st (V := T39.setTop (mkF m 106 #[.val (.int p1), .val (.ref b9), .val (.ref b26), .val (.int (1 : Int32))] [(.int (1 : Int32))])) (fun t k => st39.trans k) ?_
    refine own_st (V := T39.setTop (mkF m 107 #[.val (.int p1), .val (.ref b9), .val (.ref b26), .val (.int (1 : Int32))] [(.ref b26), (.int (1 : Int32))])) (fun t k => XS.aloadN X39.here hx rfl (hb hby at_106) rfl rfl k) ?_
    refine own_st (V := T39.setTop (mkF m 108 #[.val (.int p1), .val (.ref b9), .val (.ref b26), .val (.int (1 : Int32))] [(.int (1 : Int32)), (.ref b26), (.int (1 : Int32))])) (fun t k => XS.iloadN X39.here hx rfl (hb hby at_107) rfl k) ?_
    have V_b26_40 := V_b26_34
    obtain ⟨cl40, Ar40, qk40, sz40, nn40, hs40, fs40⟩ := V_b26_34
    have hin40 : ¬ ((1 : Int32) < 0 ∨ cl40.slots.size ≤ ((1 : Int32)).toNatClampNeg) := inb_of sz40 ⟨by decide, by decide⟩
    refine own_st (V := T39.setTop (mkF m 109 #[.val (.int p1), .val (.ref b9), .val (.ref b26), .val (.int (1 : Int32))] [(.int (nar .boolean (1 : Int32))), (.int (1 : Int32))])) (fun t k => X39.baloadBooleans hx (j := (1 : Int32)) (v := (.int (nar .boolean (1 : Int32)))) (by rw [e39]; exact Ar40.1) (State.isArrayOf_alike hZ.alike Ar40.2.1) Ar40.2.2 hin40 (Has.at hs40 hin40 rfl) (g := (mkF m 108 #[.val (.int p1), .val (.ref b9), .val (.ref b26), .val (.int (1 : Int32))] [(.int (1 : Int32)), (.ref b26), (.int (1 : Int32))])) rfl rfl (hb hby at_108) _ k) ?_
    refine own_st (V := T39.setTop (mkF m 112 #[.val (.int p1), .val (.ref b9), .val (.ref b26), .val (.int (1 : Int32))] [])) (fun t k => XS.icmpNo X39.here hx rfl (hb hby at_109) rfl (teq (by decide +kernel : (1 : Int32) = (nar .boolean (1 : Int32)))).2 k) ?_
    refine own_st (V := T39.setTop (mkF m 113 #[.val (.int p1), .val (.ref b9), .val (.ref b26), .val (.int (1 : Int32))] [(.int (1 : Int32))])) (fun t k => XS.iconst X39.here hx rfl (hb hby at_112) k) ?_
    refine own_st (V := T39.setTop (mkF m 117 #[.val (.int p1), .val (.ref b9), .val (.ref b26), .val (.int (1 : Int32))] [(.int (1 : Int32))])) (fun t k => XS.goto X39.here hx rfl (pc0 := 113) (pc' := 117) rfl (hb hby at_113) (by decide) (by decide) k) ?_
    exact own_ret X39 hx hlk Bd.returns (by decide +kernel) (Or.inl ⟨rfl, by simp, _, rfl⟩) (hb hby at_117) (by decide) (by decide) ⟨rfl, N39⟩
  · rw [hs99]
    refine own_st (V := T34.setTop (mkF m 100 #[.val (.int p1), .val (.ref b9), .val (.ref b26), .val (.int (2 : Int32))] [])) (fun t k => XS.istoreN X34.here hx rfl (hb hby at_99) rfl (l' := #[.val (.int p1), .val (.ref b9), .val (.ref b26), .val (.int (2 : Int32))]) rfl k) ?_
    refine own_st (V := T34.setTop (mkF m 101 #[.val (.int p1), .val (.ref b9), .val (.ref b26), .val (.int (2 : Int32))] [(.ref b9)])) (fun t k => XS.aloadN X34.here hx rfl (hb hby at_100) rfl rfl k) ?_
    refine own_st (V := T34.setTop (mkF m 102 #[.val (.int p1), .val (.ref b9), .val (.ref b26), .val (.int (2 : Int32))] [(.int (2 : Int32)), (.ref b9)])) (fun t k => XS.iloadN X34.here hx rfl (hb hby at_101) rfl k) ?_
    have V_b9_41 := V_b9_34
    obtain ⟨cl41, Ar41, qk41, sz41, nn41, hs41, fs41⟩ := V_b9_34
    have hin41 : ¬ ((2 : Int32) < 0 ∨ cl41.slots.size ≤ ((2 : Int32)).toNatClampNeg) := inb_of sz41 ⟨by decide, by decide⟩
    refine own_st (V := T34.setTop (mkF m 103 #[.val (.int p1), .val (.ref b9), .val (.ref b26), .val (.int (2 : Int32))] [(.ref (A 2))])) (fun t k => X34.aaload hx (j := (2 : Int32)) (v := (.ref (A 2))) (by rw [e34]; exact Ar41.1) (State.isArrayOf_alike hZ.alike Ar41.2.1) rfl Ar41.2.2 hin41 (Has.at hs41 hin41 rfl) (g := (mkF m 102 #[.val (.int p1), .val (.ref b9), .val (.ref b26), .val (.int (2 : Int32))] [(.int (2 : Int32)), (.ref b9)])) rfl rfl (hb hby at_102) _ k) ?_
    obtain ⟨cq42, kq42, q42a, q42b, q42c⟩ := isOf hZ e34 (own_E En_34 2 (i := 2) (n := "C2") rfl)
    obtain ⟨_, _, ⟨T42, L42, k42, n42⟩, -, X42, ⟨Lc42, hQ42, l42, y42, z42⟩, st42⟩ := X34.virtualBack hx (y := (⟨"com/example/trust_grade/trustgrade/network/Rating", "ratesSystems", "()Z"⟩ : MethodName)) (z := (⟨"com/example/trust_grade/trustgrade/network/Rating", "ratesSystems", "()Z"⟩ : MethodName)) hown (mvT hZ (hw _ (List.mem_of_getElem? (i := 21) rfl))) (mvT hZ (hw _ (List.mem_of_getElem? (i := 22) rfl))) (notFace_of_selects (args := #[]) (mvT hZ (hw _ (List.mem_of_getElem? (i := 24) rfl)))) (mvT hZ (hw _ (List.mem_of_getElem? (i := 24) rfl))) (mvT hZ (hw _ (List.mem_of_getElem? (i := 23) rfl))) (by decide) (backOf (W := 0) (own_m2 l Z a0 hw [] A h34 n0 Z0_34 En_34 ) hZ (hw _ (List.mem_of_getElem? (i := 25) rfl)) (hw _ (List.mem_of_getElem? (i := 3) rfl)) (by decide) (by decide)) q42a q42c (g := (mkF m 103 #[.val (.int p1), .val (.ref b9), .val (.ref b26), .val (.int (2 : Int32))] [(.ref (A 2))])) rfl (by rw [hml]; rfl) (Steps.refl _) (argsL := []) (rest := []) (lenOf own_pd0 rfl) rfl (by show 2 * 0 + _ ≤ _; exact Nat.le_of_eq rfl) (hb hby at_103) (fun _ _ => ⟨rfl, e34, (by decide : 2 + 0 ≤ _), (by decide : 16 + 0 ≤ _)⟩)
    dsimp only [Pt.U, Pt.locs, Pt.cells, Pt.slots] at X42 l42 y42 z42 st42 hQ42
    subst l42 y42 z42
    obtain ⟨rfl, N42q, e42⟩ := hQ42
    have N42 := Fr.app N34 N42q
    refine own_st (V := T42.setTop (mkF m 106 #[.val (.int p1), .val (.ref b9), .val (.ref b26), .val (.int (2 : Int32))] [(.int (1 : Int32))])) (fun t k => st42.trans k) ?_
    refine own_st (V := T42.setTop (mkF m 107 #[.val (.int p1), .val (.ref b9), .val (.ref b26), .val (.int (2 : Int32))] [(.ref b26), (.int (1 : Int32))])) (fun t k => XS.aloadN X42.here hx rfl (hb hby at_106) rfl rfl k) ?_
    refine own_st (V := T42.setTop (mkF m 108 #[.val (.int p1), .val (.ref b9), .val (.ref b26), .val (.int (2 : Int32))] [(.int (2 : Int32)), (.ref b26), (.int (1 : Int32))])) (fun t k => XS.iloadN X42.here hx rfl (hb hby at_107) rfl k) ?_
    have V_b26_43 := V_b26_34
    obtain ⟨cl43, Ar43, qk43, sz43, nn43, hs43, fs43⟩ := V_b26_34
    have hin43 : ¬ ((2 : Int32) < 0 ∨ cl43.slots.size ≤ ((2 : Int32)).toNatClampNeg) := inb_of sz43 ⟨by decide, by decide⟩
    refine own_st (V := T42.setTop (mkF m 109 #[.val (.int p1), .val (.ref b9), .val (.ref b26), .val (.int (2 : Int32))] [(.int (nar .boolean (1 : Int32))), (.int (1 : Int32))])) (fun t k => X42.baloadBooleans hx (j := (2 : Int32)) (v := (.int (nar .boolean (1 : Int32)))) (by rw [e42]; exact Ar43.1) (State.isArrayOf_alike hZ.alike Ar43.2.1) Ar43.2.2 hin43 (Has.at hs43 hin43 rfl) (g := (mkF m 108 #[.val (.int p1), .val (.ref b9), .val (.ref b26), .val (.int (2 : Int32))] [(.int (2 : Int32)), (.ref b26), (.int (1 : Int32))])) rfl rfl (hb hby at_108) _ k) ?_
    refine own_st (V := T42.setTop (mkF m 112 #[.val (.int p1), .val (.ref b9), .val (.ref b26), .val (.int (2 : Int32))] [])) (fun t k => XS.icmpNo X42.here hx rfl (hb hby at_109) rfl (teq (by decide +kernel : (1 : Int32) = (nar .boolean (1 : Int32)))).2 k) ?_
    refine own_st (V := T42.setTop (mkF m 113 #[.val (.int p1), .val (.ref b9), .val (.ref b26), .val (.int (2 : Int32))] [(.int (1 : Int32))])) (fun t k => XS.iconst X42.here hx rfl (hb hby at_112) k) ?_
    refine own_st (V := T42.setTop (mkF m 117 #[.val (.int p1), .val (.ref b9), .val (.ref b26), .val (.int (2 : Int32))] [(.int (1 : Int32))])) (fun t k => XS.goto X42.here hx rfl (pc0 := 113) (pc' := 117) rfl (hb hby at_113) (by decide) (by decide) k) ?_
    exact own_ret X42 hx hlk Bd.returns (by decide +kernel) (Or.inl ⟨rfl, by simp, _, rfl⟩) (hb hby at_117) (by decide) (by decide) ⟨rfl, N42⟩
  · rw [hs99]
    refine own_st (V := T34.setTop (mkF m 100 #[.val (.int p1), .val (.ref b9), .val (.ref b26), .val (.int (3 : Int32))] [])) (fun t k => XS.istoreN X34.here hx rfl (hb hby at_99) rfl (l' := #[.val (.int p1), .val (.ref b9), .val (.ref b26), .val (.int (3 : Int32))]) rfl k) ?_
    refine own_st (V := T34.setTop (mkF m 101 #[.val (.int p1), .val (.ref b9), .val (.ref b26), .val (.int (3 : Int32))] [(.ref b9)])) (fun t k => XS.aloadN X34.here hx rfl (hb hby at_100) rfl rfl k) ?_
    refine own_st (V := T34.setTop (mkF m 102 #[.val (.int p1), .val (.ref b9), .val (.ref b26), .val (.int (3 : Int32))] [(.int (3 : Int32)), (.ref b9)])) (fun t k => XS.iloadN X34.here hx rfl (hb hby at_101) rfl k) ?_
    have V_b9_44 := V_b9_34
    obtain ⟨cl44, Ar44, qk44, sz44, nn44, hs44, fs44⟩ := V_b9_34
    have hin44 : ¬ ((3 : Int32) < 0 ∨ cl44.slots.size ≤ ((3 : Int32)).toNatClampNeg) := inb_of sz44 ⟨by decide, by decide⟩
    refine own_st (V := T34.setTop (mkF m 103 #[.val (.int p1), .val (.ref b9), .val (.ref b26), .val (.int (3 : Int32))] [(.ref (A 3))])) (fun t k => X34.aaload hx (j := (3 : Int32)) (v := (.ref (A 3))) (by rw [e34]; exact Ar44.1) (State.isArrayOf_alike hZ.alike Ar44.2.1) rfl Ar44.2.2 hin44 (Has.at hs44 hin44 rfl) (g := (mkF m 102 #[.val (.int p1), .val (.ref b9), .val (.ref b26), .val (.int (3 : Int32))] [(.int (3 : Int32)), (.ref b9)])) rfl rfl (hb hby at_102) _ k) ?_
    obtain ⟨cq45, kq45, q45a, q45b, q45c⟩ := isOf hZ e34 (own_E En_34 3 (i := 3) (n := "C2_PLUS") rfl)
    obtain ⟨_, _, ⟨T45, L45, k45, n45⟩, -, X45, ⟨Lc45, hQ45, l45, y45, z45⟩, st45⟩ := X34.virtualBack hx (y := (⟨"com/example/trust_grade/trustgrade/network/Rating", "ratesSystems", "()Z"⟩ : MethodName)) (z := (⟨"com/example/trust_grade/trustgrade/network/Rating", "ratesSystems", "()Z"⟩ : MethodName)) hown (mvT hZ (hw _ (List.mem_of_getElem? (i := 21) rfl))) (mvT hZ (hw _ (List.mem_of_getElem? (i := 22) rfl))) (notFace_of_selects (args := #[]) (mvT hZ (hw _ (List.mem_of_getElem? (i := 24) rfl)))) (mvT hZ (hw _ (List.mem_of_getElem? (i := 24) rfl))) (mvT hZ (hw _ (List.mem_of_getElem? (i := 23) rfl))) (by decide) (backOf (W := 0) (own_m3 l Z a0 hw [] A h34 n0 Z0_34 En_34 ) hZ (hw _ (List.mem_of_getElem? (i := 25) rfl)) (hw _ (List.mem_of_getElem? (i := 3) rfl)) (by decide) (by decide)) q45a q45c (g := (mkF m 103 #[.val (.int p1), .val (.ref b9), .val (.ref b26), .val (.int (3 : Int32))] [(.ref (A 3))])) rfl (by rw [hml]; rfl) (Steps.refl _) (argsL := []) (rest := []) (lenOf own_pd0 rfl) rfl (by show 2 * 0 + _ ≤ _; exact Nat.le_of_eq rfl) (hb hby at_103) (fun _ _ => ⟨rfl, e34, (by decide : 2 + 0 ≤ _), (by decide : 16 + 0 ≤ _)⟩)
    dsimp only [Pt.U, Pt.locs, Pt.cells, Pt.slots] at X45 l45 y45 z45 st45 hQ45
    subst l45 y45 z45
    obtain ⟨rfl, N45q, e45⟩ := hQ45
    have N45 := Fr.app N34 N45q
    refine own_st (V := T45.setTop (mkF m 106 #[.val (.int p1), .val (.ref b9), .val (.ref b26), .val (.int (3 : Int32))] [(.int (0 : Int32))])) (fun t k => st45.trans k) ?_
    refine own_st (V := T45.setTop (mkF m 107 #[.val (.int p1), .val (.ref b9), .val (.ref b26), .val (.int (3 : Int32))] [(.ref b26), (.int (0 : Int32))])) (fun t k => XS.aloadN X45.here hx rfl (hb hby at_106) rfl rfl k) ?_
    refine own_st (V := T45.setTop (mkF m 108 #[.val (.int p1), .val (.ref b9), .val (.ref b26), .val (.int (3 : Int32))] [(.int (3 : Int32)), (.ref b26), (.int (0 : Int32))])) (fun t k => XS.iloadN X45.here hx rfl (hb hby at_107) rfl k) ?_
    have V_b26_46 := V_b26_34
    obtain ⟨cl46, Ar46, qk46, sz46, nn46, hs46, fs46⟩ := V_b26_34
    have hin46 : ¬ ((3 : Int32) < 0 ∨ cl46.slots.size ≤ ((3 : Int32)).toNatClampNeg) := inb_of sz46 ⟨by decide, by decide⟩
    refine own_st (V := T45.setTop (mkF m 109 #[.val (.int p1), .val (.ref b9), .val (.ref b26), .val (.int (3 : Int32))] [(.int (nar .boolean (0 : Int32))), (.int (0 : Int32))])) (fun t k => X45.baloadBooleans hx (j := (3 : Int32)) (v := (.int (nar .boolean (0 : Int32)))) (by rw [e45]; exact Ar46.1) (State.isArrayOf_alike hZ.alike Ar46.2.1) Ar46.2.2 hin46 (Has.at hs46 hin46 rfl) (g := (mkF m 108 #[.val (.int p1), .val (.ref b9), .val (.ref b26), .val (.int (3 : Int32))] [(.int (3 : Int32)), (.ref b26), (.int (0 : Int32))])) rfl rfl (hb hby at_108) _ k) ?_
    refine own_st (V := T45.setTop (mkF m 112 #[.val (.int p1), .val (.ref b9), .val (.ref b26), .val (.int (3 : Int32))] [])) (fun t k => XS.icmpNo X45.here hx rfl (hb hby at_109) rfl (teq (by decide +kernel : (0 : Int32) = (nar .boolean (0 : Int32)))).2 k) ?_
    refine own_st (V := T45.setTop (mkF m 113 #[.val (.int p1), .val (.ref b9), .val (.ref b26), .val (.int (3 : Int32))] [(.int (1 : Int32))])) (fun t k => XS.iconst X45.here hx rfl (hb hby at_112) k) ?_
    refine own_st (V := T45.setTop (mkF m 117 #[.val (.int p1), .val (.ref b9), .val (.ref b26), .val (.int (3 : Int32))] [(.int (1 : Int32))])) (fun t k => XS.goto X45.here hx rfl (pc0 := 113) (pc' := 117) rfl (hb hby at_113) (by decide) (by decide) k) ?_
    exact own_ret X45 hx hlk Bd.returns (by decide +kernel) (Or.inl ⟨rfl, by simp, _, rfl⟩) (hb hby at_117) (by decide) (by decide) ⟨rfl, N45⟩
  · rw [hs99]
    refine own_st (V := T34.setTop (mkF m 100 #[.val (.int p1), .val (.ref b9), .val (.ref b26), .val (.int (4 : Int32))] [])) (fun t k => XS.istoreN X34.here hx rfl (hb hby at_99) rfl (l' := #[.val (.int p1), .val (.ref b9), .val (.ref b26), .val (.int (4 : Int32))]) rfl k) ?_
    refine own_st (V := T34.setTop (mkF m 101 #[.val (.int p1), .val (.ref b9), .val (.ref b26), .val (.int (4 : Int32))] [(.ref b9)])) (fun t k => XS.aloadN X34.here hx rfl (hb hby at_100) rfl rfl k) ?_
    refine own_st (V := T34.setTop (mkF m 102 #[.val (.int p1), .val (.ref b9), .val (.ref b26), .val (.int (4 : Int32))] [(.int (4 : Int32)), (.ref b9)])) (fun t k => XS.iloadN X34.here hx rfl (hb hby at_101) rfl k) ?_
    have V_b9_47 := V_b9_34
    obtain ⟨cl47, Ar47, qk47, sz47, nn47, hs47, fs47⟩ := V_b9_34
    have hin47 : ¬ ((4 : Int32) < 0 ∨ cl47.slots.size ≤ ((4 : Int32)).toNatClampNeg) := inb_of sz47 ⟨by decide, by decide⟩
    refine own_st (V := T34.setTop (mkF m 103 #[.val (.int p1), .val (.ref b9), .val (.ref b26), .val (.int (4 : Int32))] [(.ref (A 4))])) (fun t k => X34.aaload hx (j := (4 : Int32)) (v := (.ref (A 4))) (by rw [e34]; exact Ar47.1) (State.isArrayOf_alike hZ.alike Ar47.2.1) rfl Ar47.2.2 hin47 (Has.at hs47 hin47 rfl) (g := (mkF m 102 #[.val (.int p1), .val (.ref b9), .val (.ref b26), .val (.int (4 : Int32))] [(.int (4 : Int32)), (.ref b9)])) rfl rfl (hb hby at_102) _ k) ?_
    obtain ⟨cq48, kq48, q48a, q48b, q48c⟩ := isOf hZ e34 (own_E En_34 4 (i := 4) (n := "B1") rfl)
    obtain ⟨_, _, ⟨T48, L48, k48, n48⟩, -, X48, ⟨Lc48, hQ48, l48, y48, z48⟩, st48⟩ := X34.virtualBack hx (y := (⟨"com/example/trust_grade/trustgrade/network/Rating", "ratesSystems", "()Z"⟩ : MethodName)) (z := (⟨"com/example/trust_grade/trustgrade/network/Rating", "ratesSystems", "()Z"⟩ : MethodName)) hown (mvT hZ (hw _ (List.mem_of_getElem? (i := 21) rfl))) (mvT hZ (hw _ (List.mem_of_getElem? (i := 22) rfl))) (notFace_of_selects (args := #[]) (mvT hZ (hw _ (List.mem_of_getElem? (i := 24) rfl)))) (mvT hZ (hw _ (List.mem_of_getElem? (i := 24) rfl))) (mvT hZ (hw _ (List.mem_of_getElem? (i := 23) rfl))) (by decide) (backOf (W := 0) (own_m4 l Z a0 hw [] A h34 n0 Z0_34 En_34 ) hZ (hw _ (List.mem_of_getElem? (i := 25) rfl)) (hw _ (List.mem_of_getElem? (i := 3) rfl)) (by decide) (by decide)) q48a q48c (g := (mkF m 103 #[.val (.int p1), .val (.ref b9), .val (.ref b26), .val (.int (4 : Int32))] [(.ref (A 4))])) rfl (by rw [hml]; rfl) (Steps.refl _) (argsL := []) (rest := []) (lenOf own_pd0 rfl) rfl (by show 2 * 0 + _ ≤ _; exact Nat.le_of_eq rfl) (hb hby at_103) (fun _ _ => ⟨rfl, e34, (by decide : 2 + 0 ≤ _), (by decide : 16 + 0 ≤ _)⟩)
    dsimp only [Pt.U, Pt.locs, Pt.cells, Pt.slots] at X48 l48 y48 z48 st48 hQ48
    subst l48 y48 z48
    obtain ⟨rfl, N48q, e48⟩ := hQ48
    have N48 := Fr.app N34 N48q
    refine own_st (V := T48.setTop (mkF m 106 #[.val (.int p1), .val (.ref b9), .val (.ref b26), .val (.int (4 : Int32))] [(.int (1 : Int32))])) (fun t k => st48.trans k) ?_
    refine own_st (V := T48.setTop (mkF m 107 #[.val (.int p1), .val (.ref b9), .val (.ref b26), .val (.int (4 : Int32))] [(.ref b26), (.int (1 : Int32))])) (fun t k => XS.aloadN X48.here hx rfl (hb hby at_106) rfl rfl k) ?_
    refine own_st (V := T48.setTop (mkF m 108 #[.val (.int p1), .val (.ref b9), .val (.ref b26), .val (.int (4 : Int32))] [(.int (4 : Int32)), (.ref b26), (.int (1 : Int32))])) (fun t k => XS.iloadN X48.here hx rfl (hb hby at_107) rfl k) ?_
    have V_b26_49 := V_b26_34
    obtain ⟨cl49, Ar49, qk49, sz49, nn49, hs49, fs49⟩ := V_b26_34
    have hin49 : ¬ ((4 : Int32) < 0 ∨ cl49.slots.size ≤ ((4 : Int32)).toNatClampNeg) := inb_of sz49 ⟨by decide, by decide⟩
    refine own_st (V := T48.setTop (mkF m 109 #[.val (.int p1), .val (.ref b9), .val (.ref b26), .val (.int (4 : Int32))] [(.int (nar .boolean (1 : Int32))), (.int (1 : Int32))])) (fun t k => X48.baloadBooleans hx (j := (4 : Int32)) (v := (.int (nar .boolean (1 : Int32)))) (by rw [e48]; exact Ar49.1) (State.isArrayOf_alike hZ.alike Ar49.2.1) Ar49.2.2 hin49 (Has.at hs49 hin49 rfl) (g := (mkF m 108 #[.val (.int p1), .val (.ref b9), .val (.ref b26), .val (.int (4 : Int32))] [(.int (4 : Int32)), (.ref b26), (.int (1 : Int32))])) rfl rfl (hb hby at_108) _ k) ?_
    refine own_st (V := T48.setTop (mkF m 112 #[.val (.int p1), .val (.ref b9), .val (.ref b26), .val (.int (4 : Int32))] [])) (fun t k => XS.icmpNo X48.here hx rfl (hb hby at_109) rfl (teq (by decide +kernel : (1 : Int32) = (nar .boolean (1 : Int32)))).2 k) ?_
    refine own_st (V := T48.setTop (mkF m 113 #[.val (.int p1), .val (.ref b9), .val (.ref b26), .val (.int (4 : Int32))] [(.int (1 : Int32))])) (fun t k => XS.iconst X48.here hx rfl (hb hby at_112) k) ?_
    refine own_st (V := T48.setTop (mkF m 117 #[.val (.int p1), .val (.ref b9), .val (.ref b26), .val (.int (4 : Int32))] [(.int (1 : Int32))])) (fun t k => XS.goto X48.here hx rfl (pc0 := 113) (pc' := 117) rfl (hb hby at_113) (by decide) (by decide) k) ?_
    exact own_ret X48 hx hlk Bd.returns (by decide +kernel) (Or.inl ⟨rfl, by simp, _, rfl⟩) (hb hby at_117) (by decide) (by decide) ⟨rfl, N48⟩
  · rw [hs99]
    refine own_st (V := T34.setTop (mkF m 100 #[.val (.int p1), .val (.ref b9), .val (.ref b26), .val (.int (5 : Int32))] [])) (fun t k => XS.istoreN X34.here hx rfl (hb hby at_99) rfl (l' := #[.val (.int p1), .val (.ref b9), .val (.ref b26), .val (.int (5 : Int32))]) rfl k) ?_
    refine own_st (V := T34.setTop (mkF m 101 #[.val (.int p1), .val (.ref b9), .val (.ref b26), .val (.int (5 : Int32))] [(.ref b9)])) (fun t k => XS.aloadN X34.here hx rfl (hb hby at_100) rfl rfl k) ?_
    refine own_st (V := T34.setTop (mkF m 102 #[.val (.int p1), .val (.ref b9), .val (.ref b26), .val (.int (5 : Int32))] [(.int (5 : Int32)), (.ref b9)])) (fun t k => XS.iloadN X34.here hx rfl (hb hby at_101) rfl k) ?_
    have V_b9_50 := V_b9_34
    obtain ⟨cl50, Ar50, qk50, sz50, nn50, hs50, fs50⟩ := V_b9_34
    have hin50 : ¬ ((5 : Int32) < 0 ∨ cl50.slots.size ≤ ((5 : Int32)).toNatClampNeg) := inb_of sz50 ⟨by decide, by decide⟩
    refine own_st (V := T34.setTop (mkF m 103 #[.val (.int p1), .val (.ref b9), .val (.ref b26), .val (.int (5 : Int32))] [(.ref (A 5))])) (fun t k => X34.aaload hx (j := (5 : Int32)) (v := (.ref (A 5))) (by rw [e34]; exact Ar50.1) (State.isArrayOf_alike hZ.alike Ar50.2.1) rfl Ar50.2.2 hin50 (Has.at hs50 hin50 rfl) (g := (mkF m 102 #[.val (.int p1), .val (.ref b9), .val (.ref b26), .val (.int (5 : Int32))] [(.int (5 : Int32)), (.ref b9)])) rfl rfl (hb hby at_102) _ k) ?_
    obtain ⟨cq51, kq51, q51a, q51b, q51c⟩ := isOf hZ e34 (own_E En_34 5 (i := 5) (n := "B2") rfl)
    obtain ⟨_, _, ⟨T51, L51, k51, n51⟩, -, X51, ⟨Lc51, hQ51, l51, y51, z51⟩, st51⟩ := X34.virtualBack hx (y := (⟨"com/example/trust_grade/trustgrade/network/Rating", "ratesSystems", "()Z"⟩ : MethodName)) (z := (⟨"com/example/trust_grade/trustgrade/network/Rating", "ratesSystems", "()Z"⟩ : MethodName)) hown (mvT hZ (hw _ (List.mem_of_getElem? (i := 21) rfl))) (mvT hZ (hw _ (List.mem_of_getElem? (i := 22) rfl))) (notFace_of_selects (args := #[]) (mvT hZ (hw _ (List.mem_of_getElem? (i := 24) rfl)))) (mvT hZ (hw _ (List.mem_of_getElem? (i := 24) rfl))) (mvT hZ (hw _ (List.mem_of_getElem? (i := 23) rfl))) (by decide) (backOf (W := 0) (own_m5 l Z a0 hw [] A h34 n0 Z0_34 En_34 ) hZ (hw _ (List.mem_of_getElem? (i := 25) rfl)) (hw _ (List.mem_of_getElem? (i := 3) rfl)) (by decide) (by decide)) q51a q51c (g := (mkF m 103 #[.val (.int p1), .val (.ref b9), .val (.ref b26), .val (.int (5 : Int32))] [(.ref (A 5))])) rfl (by rw [hml]; rfl) (Steps.refl _) (argsL := []) (rest := []) (lenOf own_pd0 rfl) rfl (by show 2 * 0 + _ ≤ _; exact Nat.le_of_eq rfl) (hb hby at_103) (fun _ _ => ⟨rfl, e34, (by decide : 2 + 0 ≤ _), (by decide : 16 + 0 ≤ _)⟩)
    dsimp only [Pt.U, Pt.locs, Pt.cells, Pt.slots] at X51 l51 y51 z51 st51 hQ51
    subst l51 y51 z51
    obtain ⟨rfl, N51q, e51⟩ := hQ51
    have N51 := Fr.app N34 N51q
    refine own_st (V := T51.setTop (mkF m 106 #[.val (.int p1), .val (.ref b9), .val (.ref b26), .val (.int (5 : Int32))] [(.int (1 : Int32))])) (fun t k => st51.trans k) ?_
    refine own_st (V := T51.setTop (mkF m 107 #[.val (.int p1), .val (.ref b9), .val (.ref b26), .val (.int (5 : Int32))] [(.ref b26), (.int (1 : Int32))])) (fun t k => XS.aloadN X51.here hx rfl (hb hby at_106) rfl rfl k) ?_
    refine own_st (V := T51.setTop (mkF m 108 #[.val (.int p1), .val (.ref b9), .val (.ref b26), .val (.int (5 : Int32))] [(.int (5 : Int32)), (.ref b26), (.int (1 : Int32))])) (fun t k => XS.iloadN X51.here hx rfl (hb hby at_107) rfl k) ?_
    have V_b26_52 := V_b26_34
    obtain ⟨cl52, Ar52, qk52, sz52, nn52, hs52, fs52⟩ := V_b26_34
    have hin52 : ¬ ((5 : Int32) < 0 ∨ cl52.slots.size ≤ ((5 : Int32)).toNatClampNeg) := inb_of sz52 ⟨by decide, by decide⟩
    refine own_st (V := T51.setTop (mkF m 109 #[.val (.int p1), .val (.ref b9), .val (.ref b26), .val (.int (5 : Int32))] [(.int (nar .boolean (1 : Int32))), (.int (1 : Int32))])) (fun t k => X51.baloadBooleans hx (j := (5 : Int32)) (v := (.int (nar .boolean (1 : Int32)))) (by rw [e51]; exact Ar52.1) (State.isArrayOf_alike hZ.alike Ar52.2.1) Ar52.2.2 hin52 (Has.at hs52 hin52 rfl) (g := (mkF m 108 #[.val (.int p1), .val (.ref b9), .val (.ref b26), .val (.int (5 : Int32))] [(.int (5 : Int32)), (.ref b26), (.int (1 : Int32))])) rfl rfl (hb hby at_108) _ k) ?_
    refine own_st (V := T51.setTop (mkF m 112 #[.val (.int p1), .val (.ref b9), .val (.ref b26), .val (.int (5 : Int32))] [])) (fun t k => XS.icmpNo X51.here hx rfl (hb hby at_109) rfl (teq (by decide +kernel : (1 : Int32) = (nar .boolean (1 : Int32)))).2 k) ?_
    refine own_st (V := T51.setTop (mkF m 113 #[.val (.int p1), .val (.ref b9), .val (.ref b26), .val (.int (5 : Int32))] [(.int (1 : Int32))])) (fun t k => XS.iconst X51.here hx rfl (hb hby at_112) k) ?_
    refine own_st (V := T51.setTop (mkF m 117 #[.val (.int p1), .val (.ref b9), .val (.ref b26), .val (.int (5 : Int32))] [(.int (1 : Int32))])) (fun t k => XS.goto X51.here hx rfl (pc0 := 113) (pc' := 117) rfl (hb hby at_113) (by decide) (by decide) k) ?_
    exact own_ret X51 hx hlk Bd.returns (by decide +kernel) (Or.inl ⟨rfl, by simp, _, rfl⟩) (hb hby at_117) (by decide) (by decide) ⟨rfl, N51⟩
  · rw [hs99]
    refine own_st (V := T34.setTop (mkF m 100 #[.val (.int p1), .val (.ref b9), .val (.ref b26), .val (.int (6 : Int32))] [])) (fun t k => XS.istoreN X34.here hx rfl (hb hby at_99) rfl (l' := #[.val (.int p1), .val (.ref b9), .val (.ref b26), .val (.int (6 : Int32))]) rfl k) ?_
    refine own_st (V := T34.setTop (mkF m 101 #[.val (.int p1), .val (.ref b9), .val (.ref b26), .val (.int (6 : Int32))] [(.ref b9)])) (fun t k => XS.aloadN X34.here hx rfl (hb hby at_100) rfl rfl k) ?_
    refine own_st (V := T34.setTop (mkF m 102 #[.val (.int p1), .val (.ref b9), .val (.ref b26), .val (.int (6 : Int32))] [(.int (6 : Int32)), (.ref b9)])) (fun t k => XS.iloadN X34.here hx rfl (hb hby at_101) rfl k) ?_
    have V_b9_53 := V_b9_34
    obtain ⟨cl53, Ar53, qk53, sz53, nn53, hs53, fs53⟩ := V_b9_34
    have hin53 : ¬ ((6 : Int32) < 0 ∨ cl53.slots.size ≤ ((6 : Int32)).toNatClampNeg) := inb_of sz53 ⟨by decide, by decide⟩
    refine own_st (V := T34.setTop (mkF m 103 #[.val (.int p1), .val (.ref b9), .val (.ref b26), .val (.int (6 : Int32))] [(.ref (A 6))])) (fun t k => X34.aaload hx (j := (6 : Int32)) (v := (.ref (A 6))) (by rw [e34]; exact Ar53.1) (State.isArrayOf_alike hZ.alike Ar53.2.1) rfl Ar53.2.2 hin53 (Has.at hs53 hin53 rfl) (g := (mkF m 102 #[.val (.int p1), .val (.ref b9), .val (.ref b26), .val (.int (6 : Int32))] [(.int (6 : Int32)), (.ref b9)])) rfl rfl (hb hby at_102) _ k) ?_
    obtain ⟨cq54, kq54, q54a, q54b, q54c⟩ := isOf hZ e34 (own_E En_34 6 (i := 6) (n := "B3") rfl)
    obtain ⟨_, _, ⟨T54, L54, k54, n54⟩, -, X54, ⟨Lc54, hQ54, l54, y54, z54⟩, st54⟩ := X34.virtualBack hx (y := (⟨"com/example/trust_grade/trustgrade/network/Rating", "ratesSystems", "()Z"⟩ : MethodName)) (z := (⟨"com/example/trust_grade/trustgrade/network/Rating", "ratesSystems", "()Z"⟩ : MethodName)) hown (mvT hZ (hw _ (List.mem_of_getElem? (i := 21) rfl))) (mvT hZ (hw _ (List.mem_of_getElem? (i := 22) rfl))) (notFace_of_selects (args := #[]) (mvT hZ (hw _ (List.mem_of_getElem? (i := 24) rfl)))) (mvT hZ (hw _ (List.mem_of_getElem? (i := 24) rfl))) (mvT hZ (hw _ (List.mem_of_getElem? (i := 23) rfl))) (by decide) (backOf (W := 0) (own_m6 l Z a0 hw [] A h34 n0 Z0_34 En_34 ) hZ (hw _ (List.mem_of_getElem? (i := 25) rfl)) (hw _ (List.mem_of_getElem? (i := 3) rfl)) (by decide) (by decide)) q54a q54c (g := (mkF m 103 #[.val (.int p1), .val (.ref b9), .val (.ref b26), .val (.int (6 : Int32))] [(.ref (A 6))])) rfl (by rw [hml]; rfl) (Steps.refl _) (argsL := []) (rest := []) (lenOf own_pd0 rfl) rfl (by show 2 * 0 + _ ≤ _; exact Nat.le_of_eq rfl) (hb hby at_103) (fun _ _ => ⟨rfl, e34, (by decide : 2 + 0 ≤ _), (by decide : 16 + 0 ≤ _)⟩)
    dsimp only [Pt.U, Pt.locs, Pt.cells, Pt.slots] at X54 l54 y54 z54 st54 hQ54
    subst l54 y54 z54
    obtain ⟨rfl, N54q, e54⟩ := hQ54
    have N54 := Fr.app N34 N54q
    refine own_st (V := T54.setTop (mkF m 106 #[.val (.int p1), .val (.ref b9), .val (.ref b26), .val (.int (6 : Int32))] [(.int (1 : Int32))])) (fun t k => st54.trans k) ?_
    refine own_st (V := T54.setTop (mkF m 107 #[.val (.int p1), .val (.ref b9), .val (.ref b26), .val (.int (6 : Int32))] [(.ref b26), (.int (1 : Int32))])) (fun t k => XS.aloadN X54.here hx rfl (hb hby at_106) rfl rfl k) ?_
    refine own_st (V := T54.setTop (mkF m 108 #[.val (.int p1), .val (.ref b9), .val (.ref b26), .val (.int (6 : Int32))] [(.int (6 : Int32)), (.ref b26), (.int (1 : Int32))])) (fun t k => XS.iloadN X54.here hx rfl (hb hby at_107) rfl k) ?_
    have V_b26_55 := V_b26_34
    obtain ⟨cl55, Ar55, qk55, sz55, nn55, hs55, fs55⟩ := V_b26_34
    have hin55 : ¬ ((6 : Int32) < 0 ∨ cl55.slots.size ≤ ((6 : Int32)).toNatClampNeg) := inb_of sz55 ⟨by decide, by decide⟩
    refine own_st (V := T54.setTop (mkF m 109 #[.val (.int p1), .val (.ref b9), .val (.ref b26), .val (.int (6 : Int32))] [(.int (nar .boolean (1 : Int32))), (.int (1 : Int32))])) (fun t k => X54.baloadBooleans hx (j := (6 : Int32)) (v := (.int (nar .boolean (1 : Int32)))) (by rw [e54]; exact Ar55.1) (State.isArrayOf_alike hZ.alike Ar55.2.1) Ar55.2.2 hin55 (Has.at hs55 hin55 rfl) (g := (mkF m 108 #[.val (.int p1), .val (.ref b9), .val (.ref b26), .val (.int (6 : Int32))] [(.int (6 : Int32)), (.ref b26), (.int (1 : Int32))])) rfl rfl (hb hby at_108) _ k) ?_
    refine own_st (V := T54.setTop (mkF m 112 #[.val (.int p1), .val (.ref b9), .val (.ref b26), .val (.int (6 : Int32))] [])) (fun t k => XS.icmpNo X54.here hx rfl (hb hby at_109) rfl (teq (by decide +kernel : (1 : Int32) = (nar .boolean (1 : Int32)))).2 k) ?_
    refine own_st (V := T54.setTop (mkF m 113 #[.val (.int p1), .val (.ref b9), .val (.ref b26), .val (.int (6 : Int32))] [(.int (1 : Int32))])) (fun t k => XS.iconst X54.here hx rfl (hb hby at_112) k) ?_
    refine own_st (V := T54.setTop (mkF m 117 #[.val (.int p1), .val (.ref b9), .val (.ref b26), .val (.int (6 : Int32))] [(.int (1 : Int32))])) (fun t k => XS.goto X54.here hx rfl (pc0 := 113) (pc' := 117) rfl (hb hby at_113) (by decide) (by decide) k) ?_
    exact own_ret X54 hx hlk Bd.returns (by decide +kernel) (Or.inl ⟨rfl, by simp, _, rfl⟩) (hb hby at_117) (by decide) (by decide) ⟨rfl, N54⟩
  · rw [hs99]
    refine own_st (V := T34.setTop (mkF m 100 #[.val (.int p1), .val (.ref b9), .val (.ref b26), .val (.int (7 : Int32))] [])) (fun t k => XS.istoreN X34.here hx rfl (hb hby at_99) rfl (l' := #[.val (.int p1), .val (.ref b9), .val (.ref b26), .val (.int (7 : Int32))]) rfl k) ?_
    refine own_st (V := T34.setTop (mkF m 101 #[.val (.int p1), .val (.ref b9), .val (.ref b26), .val (.int (7 : Int32))] [(.ref b9)])) (fun t k => XS.aloadN X34.here hx rfl (hb hby at_100) rfl rfl k) ?_
    refine own_st (V := T34.setTop (mkF m 102 #[.val (.int p1), .val (.ref b9), .val (.ref b26), .val (.int (7 : Int32))] [(.int (7 : Int32)), (.ref b9)])) (fun t k => XS.iloadN X34.here hx rfl (hb hby at_101) rfl k) ?_
    have V_b9_56 := V_b9_34
    obtain ⟨cl56, Ar56, qk56, sz56, nn56, hs56, fs56⟩ := V_b9_34
    have hin56 : ¬ ((7 : Int32) < 0 ∨ cl56.slots.size ≤ ((7 : Int32)).toNatClampNeg) := inb_of sz56 ⟨by decide, by decide⟩
    refine own_st (V := T34.setTop (mkF m 103 #[.val (.int p1), .val (.ref b9), .val (.ref b26), .val (.int (7 : Int32))] [(.ref (A 7))])) (fun t k => X34.aaload hx (j := (7 : Int32)) (v := (.ref (A 7))) (by rw [e34]; exact Ar56.1) (State.isArrayOf_alike hZ.alike Ar56.2.1) rfl Ar56.2.2 hin56 (Has.at hs56 hin56 rfl) (g := (mkF m 102 #[.val (.int p1), .val (.ref b9), .val (.ref b26), .val (.int (7 : Int32))] [(.int (7 : Int32)), (.ref b9)])) rfl rfl (hb hby at_102) _ k) ?_
    obtain ⟨cq57, kq57, q57a, q57b, q57c⟩ := isOf hZ e34 (own_E En_34 7 (i := 7) (n := "A1") rfl)
    obtain ⟨_, _, ⟨T57, L57, k57, n57⟩, -, X57, ⟨Lc57, hQ57, l57, y57, z57⟩, st57⟩ := X34.virtualBack hx (y := (⟨"com/example/trust_grade/trustgrade/network/Rating", "ratesSystems", "()Z"⟩ : MethodName)) (z := (⟨"com/example/trust_grade/trustgrade/network/Rating", "ratesSystems", "()Z"⟩ : MethodName)) hown (mvT hZ (hw _ (List.mem_of_getElem? (i := 21) rfl))) (mvT hZ (hw _ (List.mem_of_getElem? (i := 22) rfl))) (notFace_of_selects (args := #[]) (mvT hZ (hw _ (List.mem_of_getElem? (i := 24) rfl)))) (mvT hZ (hw _ (List.mem_of_getElem? (i := 24) rfl))) (mvT hZ (hw _ (List.mem_of_getElem? (i := 23) rfl))) (by decide) (backOf (W := 0) (own_m7 l Z a0 hw [] A h34 n0 Z0_34 En_34 ) hZ (hw _ (List.mem_of_getElem? (i := 25) rfl)) (hw _ (List.mem_of_getElem? (i := 3) rfl)) (by decide) (by decide)) q57a q57c (g := (mkF m 103 #[.val (.int p1), .val (.ref b9), .val (.ref b26), .val (.int (7 : Int32))] [(.ref (A 7))])) rfl (by rw [hml]; rfl) (Steps.refl _) (argsL := []) (rest := []) (lenOf own_pd0 rfl) rfl (by show 2 * 0 + _ ≤ _; exact Nat.le_of_eq rfl) (hb hby at_103) (fun _ _ => ⟨rfl, e34, (by decide : 2 + 0 ≤ _), (by decide : 16 + 0 ≤ _)⟩)
    dsimp only [Pt.U, Pt.locs, Pt.cells, Pt.slots] at X57 l57 y57 z57 st57 hQ57
    subst l57 y57 z57
    obtain ⟨rfl, N57q, e57⟩ := hQ57
    have N57 := Fr.app N34 N57q
    refine own_st (V := T57.setTop (mkF m 106 #[.val (.int p1), .val (.ref b9), .val (.ref b26), .val (.int (7 : Int32))] [(.int (1 : Int32))])) (fun t k => st57.trans k) ?_
    refine own_st (V := T57.setTop (mkF m 107 #[.val (.int p1), .val (.ref b9), .val (.ref b26), .val (.int (7 : Int32))] [(.ref b26), (.int (1 : Int32))])) (fun t k => XS.aloadN X57.here hx rfl (hb hby at_106) rfl rfl k) ?_
    refine own_st (V := T57.setTop (mkF m 108 #[.val (.int p1), .val (.ref b9), .val (.ref b26), .val (.int (7 : Int32))] [(.int (7 : Int32)), (.ref b26), (.int (1 : Int32))])) (fun t k => XS.iloadN X57.here hx rfl (hb hby at_107) rfl k) ?_
    have V_b26_58 := V_b26_34
    obtain ⟨cl58, Ar58, qk58, sz58, nn58, hs58, fs58⟩ := V_b26_34
    have hin58 : ¬ ((7 : Int32) < 0 ∨ cl58.slots.size ≤ ((7 : Int32)).toNatClampNeg) := inb_of sz58 ⟨by decide, by decide⟩
    refine own_st (V := T57.setTop (mkF m 109 #[.val (.int p1), .val (.ref b9), .val (.ref b26), .val (.int (7 : Int32))] [(.int (nar .boolean (1 : Int32))), (.int (1 : Int32))])) (fun t k => X57.baloadBooleans hx (j := (7 : Int32)) (v := (.int (nar .boolean (1 : Int32)))) (by rw [e57]; exact Ar58.1) (State.isArrayOf_alike hZ.alike Ar58.2.1) Ar58.2.2 hin58 (Has.at hs58 hin58 rfl) (g := (mkF m 108 #[.val (.int p1), .val (.ref b9), .val (.ref b26), .val (.int (7 : Int32))] [(.int (7 : Int32)), (.ref b26), (.int (1 : Int32))])) rfl rfl (hb hby at_108) _ k) ?_
    refine own_st (V := T57.setTop (mkF m 112 #[.val (.int p1), .val (.ref b9), .val (.ref b26), .val (.int (7 : Int32))] [])) (fun t k => XS.icmpNo X57.here hx rfl (hb hby at_109) rfl (teq (by decide +kernel : (1 : Int32) = (nar .boolean (1 : Int32)))).2 k) ?_
    refine own_st (V := T57.setTop (mkF m 113 #[.val (.int p1), .val (.ref b9), .val (.ref b26), .val (.int (7 : Int32))] [(.int (1 : Int32))])) (fun t k => XS.iconst X57.here hx rfl (hb hby at_112) k) ?_
    refine own_st (V := T57.setTop (mkF m 117 #[.val (.int p1), .val (.ref b9), .val (.ref b26), .val (.int (7 : Int32))] [(.int (1 : Int32))])) (fun t k => XS.goto X57.here hx rfl (pc0 := 113) (pc' := 117) rfl (hb hby at_113) (by decide) (by decide) k) ?_
    exact own_ret X57 hx hlk Bd.returns (by decide +kernel) (Or.inl ⟨rfl, by simp, _, rfl⟩) (hb hby at_117) (by decide) (by decide) ⟨rfl, N57⟩
theorem own_law (l : Launch) (Z : State) (a0 : Array Value) (hw : ∀ d ∈ tables_1, d.before a0 Z = true) (ws : List Jvm.Cond) (p1 : Int32) (A : Nat → Addr) (h0 : Heap) (n0 : Nat) (Z0 : n0 ≤ h0.size) (En : own_En Z h0 A) :
    MetFree l x (head1 (Jvm.Cond.code x code maxLocals ret :: ws) room_1) (fun a U => a = #[(.int p1)] ∧ Z.Warmed39 U.vm ∧ U.heap = h0) (fun _ _ _ _ _ => True) (fun _ U o U' => ∃ v L, o = .returned v ∧ own_Q0 Z p1 A h0 n0 v U'.heap L ∧ FrameEnd U o U' L room_1.cells room_1.slots) := by
  exact own_law0 l Z a0 hw ws p1 A h0 n0 Z0 En
set_option maxRecDepth 65536 in
set_option maxHeartbeats 40000000 in
theorem comes_1 {Post : Tables → Env → Array Value → State → Outcome → State → Prop} (hpost : ∀ tb e args s v u, (limb_1_1.after args s (.returned v) u = true ∧ limb_1_2.after args s (.returned v) u = true ∧ True) → FrameEnd s (.returned v) u (Jvm.fieldLocs frame_1_writes args s ++ Jvm.arrayLocs frame_1_arrays args s ++ Jvm.staticLocs frame_1_statics s) 16 128 → Post tb e args s (.returned v) u) :
    ArmFor flags0 classFile x code maxLocals ret World_1 tables_1 room_1 Calls_1 rest_1 Pre_1 Post := by
  intro l hfl _ _ p e ha hc hk s m args below hf hA hF happ hP
  obtain ⟨hcalls, hrest, hpre⟩ := hP
  obtain ⟨-, -, -, hnamed, -, -, -, hat⟩ := (Spec.applies_iff hf).mp happ
  obtain ⟨hg, hn⟩ := and_e (Cond.before_iff.mp (show (Jvm.Cond.and given_1 narrow_1).before args s = true from hpre))
  obtain ⟨g0, g1⟩ := and_e hg
  obtain ⟨w0, rfl⟩ : ∃ w0 : Value, args = #[w0] := by
    have hs : args.size = 1 := by simpa [Cond.value, given_1] using g0
    obtain ⟨L⟩ := args
    match L, hs with
    | [w0], _ => exact ⟨w0, rfl⟩
  have hw := fun d (hd : d ∈ tables_1) => atoms_spec (ws := Jvm.Cond.code x code maxLocals ret :: tables_1) hat d (List.mem_cons_of_mem _ hd)
  have hfit : Fit s := fun {y c} hc i hi => by
    obtain ⟨ha, rfl⟩ := Array.getElem?_eq_some_iff.mp hc
    have q := List.all_eq_true.mp ((Array.all_eq_true_iff_forall_mem.mp hF) _ (Array.getElem_mem ha)) i (List.mem_range.mpr hi)
    simpa [Array.getElem?_eq_getElem hi] using q
  obtain ⟨i0, ei0⟩ := is_v g1
  obtain rfl : w0 = (.int i0) := Option.some.inj ei0
  obtain ⟨nz0, nr0⟩ := and_e hn
  obtain ⟨nz1, nr1⟩ := and_e nr0
  obtain ⟨nz2, nr2⟩ := and_e nr1
  obtain ⟨nz3, nr3⟩ := and_e nr2
  obtain ⟨nz4, nr4⟩ := and_e nr3
  obtain ⟨nz5, nr5⟩ := and_e nr4
  obtain ⟨nz6, nr6⟩ := and_e nr5
  obtain ⟨nz7, nr7⟩ := and_e nr6
  obtain ⟨nz8, nr8⟩ := and_e nr7
  obtain ⟨nz9, nr9⟩ := and_e nr8
  obtain ⟨nz10, nr10⟩ := and_e nr9
  obtain ⟨nz11, nr11⟩ := and_e nr10
  obtain ⟨nz12, nr12⟩ := and_e nr11
  obtain ⟨nz13, nr13⟩ := and_e nr12
  obtain ⟨nz14, nr14⟩ := and_e nr13
  have nz15 := nr14
  obtain ⟨a0, S0, E0, v0⟩ := own_sta nz0 (hw _ (List.mem_of_getElem? (i := 3) rfl)) (hw _ (List.mem_of_getElem? (i := 4) rfl))
  obtain ⟨a1, S1, E1, v1⟩ := own_sta nz1 (hw _ (List.mem_of_getElem? (i := 3) rfl)) (hw _ (List.mem_of_getElem? (i := 7) rfl))
  obtain ⟨a2, S2, E2, v2⟩ := own_sta nz2 (hw _ (List.mem_of_getElem? (i := 3) rfl)) (hw _ (List.mem_of_getElem? (i := 9) rfl))
  obtain ⟨a3, S3, E3, v3⟩ := own_sta nz3 (hw _ (List.mem_of_getElem? (i := 3) rfl)) (hw _ (List.mem_of_getElem? (i := 11) rfl))
  obtain ⟨a4, S4, E4, v4⟩ := own_sta nz4 (hw _ (List.mem_of_getElem? (i := 3) rfl)) (hw _ (List.mem_of_getElem? (i := 13) rfl))
  obtain ⟨a5, S5, E5, v5⟩ := own_sta nz5 (hw _ (List.mem_of_getElem? (i := 3) rfl)) (hw _ (List.mem_of_getElem? (i := 15) rfl))
  obtain ⟨a6, S6, E6, v6⟩ := own_sta nz6 (hw _ (List.mem_of_getElem? (i := 3) rfl)) (hw _ (List.mem_of_getElem? (i := 17) rfl))
  obtain ⟨a7, S7, E7, v7⟩ := own_sta nz7 (hw _ (List.mem_of_getElem? (i := 3) rfl)) (hw _ (List.mem_of_getElem? (i := 19) rfl))
  let A : Nat → Addr := fun i => [a0, a1, a2, a3, a4, a5, a6, a7].getD i 0
  have En : own_En s s.heap A := by
    intro q hq
    simp only [own_cs, List.mem_cons, List.not_mem_nil, or_false] at hq
    rcases hq with rfl | rfl | rfl | rfl | rfl | rfl | rfl | rfl
    · exact ⟨S0, E0, own_fld v0 nz8⟩
    · exact ⟨S1, E1, own_fld v1 nz13⟩
    · exact ⟨S2, E2, own_fld v2 nz12⟩
    · exact ⟨S3, E3, own_fld v3 nz9⟩
    · exact ⟨S4, E4, own_fld v4 nz14⟩
    · exact ⟨S5, E5, own_fld v5 nz15⟩
    · exact ⟨S6, E6, own_fld v6 nz10⟩
    · exact ⟨S7, E7, own_fld v7 nz11⟩
  obtain ⟨n, o, h1, h2, h3, _, L, rfl, ⟨rfl, N⟩, hq⟩ := own_law l s _ hw tables_1 i0 A s.heap s.heap.size (Nat.le_refl _) En p e ha hc hk s m _ below hf ((Spec.applies_iff_loose hf).mp happ).1 ⟨rfl, State.Warmed39.refl s, rfl⟩ trivial
  refine ⟨n, _, h1, h2, h3, hpost _ _ _ _ _ _ ⟨Cond.after_iff.mpr rfl, Cond.after_iff.mpr (eq_i res_at (Term.int_eval (1)) rfl), trivial⟩ ⟨hq.1, hq.2.1, (hq.2.2.sift fun y hy => Or.inr (N y hy)).mono (by decide) (by decide)⟩⟩
theorem main_1_1 : Claimed_1_1 := comes_1 fun _ _ _ _ _ _ h hF => ⟨h.1, hF⟩
theorem main_1_2 : Claimed_1_2 := comes_1 fun _ _ _ _ _ _ h hF => ⟨h.2.1, hF⟩
end Jvm.Pilot.@@N@@
namespace Jvm.Pilot.@@N@@
open Jvm Jvm.ClassFile Sem Op Lib Jvm.Free Jvm.Stand Jvm.Pilot.@@N@@.Jvm.D
/-! MADE BY PROGRAM (witnessworld.py) out of the Statement's table words and the real class files: 15 classes; the members and pool entries that the words name. The judged class is class 1, her method 1. -/
namespace start1
open Jvm.ClassFile
def u (s : String) : CpInfo := .utf8 (stringToUtf16 s)
/-- a pool by its gaps: so many unusable entries, then the entry; so many at the end -/
def gap : Nat → List CpInfo → List CpInfo
  | 0, r => r
  | n + 1, r => .unusable :: gap n r
def poolList (es : List (Nat × CpInfo)) (last : Nat) : List CpInfo := es.foldr (fun e r => gap e.1 (e.2 :: r)) (gap last [])
def pool (es : List (Nat × CpInfo)) (last : Nat) : Array CpInfo := ⟨poolList es last⟩
def fileOf (pool : Array CpInfo) (this : Nat) (attrs : Array Attribute := #[]) (ms : Array MethodInfo := #[]) (fl : Nat := 33) (sup : Nat := 0) (ifs : Array Nat := #[]) (fds : Array FieldInfo := #[]) : ClassFile where
  minorVersion := 0
  majorVersion := 65
  constantPool := pool
  accessFlags := fl
  thisClass := this
  superClass := sup
  interfaces := ifs
  fields := fds
  methods := ms
  attributes := attrs
def plain (name : String) (sup : Option ClassId) : Class where
  name := name
  kind := .ordinary
  loader := none
  accessFlags := 33
  super := sup
  interfaces := #[]
  cf := none
  fields := #[]
  methods := #[]
  instanceTypes := #[]
  staticTypes := #[]
  resolved := #[]
  callSites := []
  init := .initialized
  statics := none
  mirror := none

def pool0 : Array CpInfo := pool [(5, u "<init>"), (0, u "()V"), (1, .class_ 10), (1, u "java/lang/Object")] 113

def k0m0 : Method := { name := "<init>", desc := "()V", sig := { parameters := [], returnType := none }, accessFlags := 1, code := none }
/-- java/lang/Object -/
def k0 : Class := { plain "java/lang/Object" none with
  accessFlags := 33
  interfaces := #[]
  cf := some (fileOf pool0 8 #[] #[{ accessFlags := 1, nameIndex := 5, descriptorIndex := 6, attributes := #[] }] 33 0 #[] #[])
  fields := #[]
  methods := #[k0m0]
  instanceTypes := #[]
  staticTypes := #[]
  resolved := Array.replicate 124 none
  statics := none }

def pool1 : Array CpInfo := pool [(2, .class_ 4), (1, u "java/lang/Object"), (0, u "<init>"), (0, u "()V"), (0, .class_ 8), (0, u "com/example/trust_grade/trustgrade/network/Rating"), (0, .fieldref 7 10), (0, .nameAndType 11 12), (0, u "D"), (0, u "Lcom/example/trust_grade/trustgrade/network/Rating;"), (0, .fieldref 7 14), (0, .nameAndType 15 12), (0, u "C1"), (0, .fieldref 7 17), (0, .nameAndType 18 12), (0, u "C2"), (0, .fieldref 7 20), (0, .nameAndType 21 12), (0, u "C2_PLUS"), (0, .fieldref 7 23), (0, .nameAndType 24 12), (0, u "B1"), (0, .fieldref 7 26), (0, .nameAndType 27 12), (0, u "B2"), (0, .fieldref 7 29), (0, .nameAndType 30 12), (0, u "B3"), (0, .fieldref 7 32), (0, .nameAndType 33 12), (0, u "A1"), (0, .methodref 7 35), (0, .nameAndType 36 37), (0, u "ratesSystems"), (0, u "()Z"), (0, .class_ 39), (0, u "com/example/trust_grade/trustgrade/network/RatingRatesSystemsPinLaw"), (2, u "law"), (0, u "(I)Z")] 7

def k1m0 : Method := { name := "<init>", desc := "()V", sig := { parameters := [], returnType := none }, accessFlags := 2, code := none }
def k1c1 : Code := { maxStack := 4, maxLocals := 4, code := code, exceptionTable := #[], attributes := #[] }
def k1m1 : Method := { name := "law", desc := "(I)Z", sig := { parameters := [.int], returnType := some .boolean }, accessFlags := 9, code := some k1c1 }
/-- com/example/trust_grade/trustgrade/network/RatingRatesSystemsPinLaw -/
def k1 : Class := { plain "com/example/trust_grade/trustgrade/network/RatingRatesSystemsPinLaw" (some 0) with
  accessFlags := 49
  interfaces := #[]
  cf := some (fileOf pool1 38 #[] #[{ accessFlags := 2, nameIndex := 5, descriptorIndex := 6, attributes := #[] }, { accessFlags := 9, nameIndex := 42, descriptorIndex := 43, attributes := #[] }] 49 2 #[] #[])
  fields := #[]
  methods := #[k1m0, k1m1]
  instanceTypes := #[]
  staticTypes := #[]
  resolved := Array.replicate 51 none
  statics := none }

def pool2 : Array CpInfo := pool [(1, .class_ 2), (0, u "java/lang/constant/Constable"), (0, .class_ 4), (0, u "java/lang/Object")] 6

/-- java/lang/constant/Constable -/
def k2 : Class := { plain "java/lang/constant/Constable" (some 0) with
  accessFlags := 1537
  interfaces := #[]
  cf := some (fileOf pool2 1 #[] #[] 1537 3 #[] #[])
  fields := #[]
  methods := #[]
  instanceTypes := #[]
  staticTypes := #[]
  resolved := Array.replicate 11 none
  statics := none }

def pool3 : Array CpInfo := pool [(1, .class_ 2), (0, u "java/lang/Comparable"), (0, .class_ 4), (0, u "java/lang/Object")] 7

/-- java/lang/Comparable -/
def k3 : Class := { plain "java/lang/Comparable" (some 0) with
  accessFlags := 1537
  interfaces := #[]
  cf := some (fileOf pool3 1 #[] #[] 1537 3 #[] #[])
  fields := #[]
  methods := #[]
  instanceTypes := #[]
  staticTypes := #[]
  resolved := Array.replicate 12 none
  statics := none }

def pool4 : Array CpInfo := pool [(1, .class_ 2), (0, u "java/io/Serializable"), (0, .class_ 4), (0, u "java/lang/Object")] 2

/-- java/io/Serializable -/
def k4 : Class := { plain "java/io/Serializable" (some 0) with
  accessFlags := 1537
  interfaces := #[]
  cf := some (fileOf pool4 1 #[] #[] 1537 3 #[] #[])
  fields := #[]
  methods := #[]
  instanceTypes := #[]
  staticTypes := #[]
  resolved := Array.replicate 7 none
  statics := none }

def pool5 : Array CpInfo := pool [(2, .class_ 4), (1, u "java/lang/Enum"), (0, u "name"), (0, u "Ljava/lang/String;"), (2, u "ordinal"), (0, u "I"), (1, .class_ 14), (1, u "java/lang/Object"), (4, u "hash"), (86, .class_ 108), (1, u "java/lang/Enum$EnumDesc"), (2, .class_ 112), (0, u "java/lang/constant/Constable"), (0, .class_ 114), (0, u "java/lang/Comparable"), (0, .class_ 116), (0, u "java/io/Serializable")] 87

/-- java/lang/Enum -/
def k5 : Class := { plain "java/lang/Enum" (some 0) with
  accessFlags := 1057
  interfaces := #[2, 3, 4]
  cf := some (fileOf pool5 2 #[.nestMembers #[106]] #[] 1057 12 #[111, 113, 115] #[{ accessFlags := 18, nameIndex := 5, descriptorIndex := 6, attributes := #[] }, { accessFlags := 18, nameIndex := 9, descriptorIndex := 10, attributes := #[] }, { accessFlags := 2, nameIndex := 19, descriptorIndex := 10, attributes := #[] }])
  fields := #[{ name := "name", type := (.object "java/lang/String"), accessFlags := 18, slot := 0, constantValue := 0 }, { name := "ordinal", type := .int, accessFlags := 18, slot := 1, constantValue := 0 }, { name := "hash", type := .int, accessFlags := 2, slot := 2, constantValue := 0 }]
  methods := #[]
  instanceTypes := #[(.object "java/lang/String"), .int, .int]
  staticTypes := #[]
  resolved := Array.replicate 204 none
  statics := none }

def pool6 : Array CpInfo := pool [(1, .class_ 2), (0, u "com/example/trust_grade/trustgrade/network/Rating"), (2, u "D"), (0, u "Lcom/example/trust_grade/trustgrade/network/Rating;"), (2, u "C1"), (2, u "C2"), (0, .fieldref 1 14), (0, .nameAndType 15 6), (0, u "C2_PLUS"), (2, u "B1"), (2, u "B2"), (2, u "B3"), (2, u "A1"), (2, u "$VALUES"), (0, u "[Lcom/example/trust_grade/trustgrade/network/Rating;"), (6, .class_ 40), (1, u "java/lang/Enum"), (8, u "word"), (0, u "Ljava/lang/String;"), (47, u "ratesSystems"), (0, u "()Z")] 29

def k6c0 : Code := { maxStack := 2, maxLocals := 1, code := prog_39_method_6_code, exceptionTable := #[], attributes := #[] }
def k6m0 : Method := { name := "ratesSystems", desc := "()Z", sig := { parameters := [], returnType := some .boolean }, accessFlags := 1, code := some k6c0 }
/-- com/example/trust_grade/trustgrade/network/Rating -/
def k6 : Class := { plain "com/example/trust_grade/trustgrade/network/Rating" (some 5) with
  accessFlags := 16433
  interfaces := #[]
  cf := some (fileOf pool6 1 #[] #[{ accessFlags := 1, nameIndex := 98, descriptorIndex := 99, attributes := #[] }] 16433 38 #[] #[{ accessFlags := 16409, nameIndex := 5, descriptorIndex := 6, attributes := #[] }, { accessFlags := 16409, nameIndex := 9, descriptorIndex := 6, attributes := #[] }, { accessFlags := 16409, nameIndex := 12, descriptorIndex := 6, attributes := #[] }, { accessFlags := 16409, nameIndex := 15, descriptorIndex := 6, attributes := #[] }, { accessFlags := 16409, nameIndex := 18, descriptorIndex := 6, attributes := #[] }, { accessFlags := 16409, nameIndex := 21, descriptorIndex := 6, attributes := #[] }, { accessFlags := 16409, nameIndex := 24, descriptorIndex := 6, attributes := #[] }, { accessFlags := 16409, nameIndex := 27, descriptorIndex := 6, attributes := #[] }, { accessFlags := 18, nameIndex := 49, descriptorIndex := 50, attributes := #[] }, { accessFlags := 4122, nameIndex := 30, descriptorIndex := 31, attributes := #[] }])
  fields := #[{ name := "D", type := (.object "com/example/trust_grade/trustgrade/network/Rating"), accessFlags := 16409, slot := 0, constantValue := 0 }, { name := "C1", type := (.object "com/example/trust_grade/trustgrade/network/Rating"), accessFlags := 16409, slot := 1, constantValue := 0 }, { name := "C2", type := (.object "com/example/trust_grade/trustgrade/network/Rating"), accessFlags := 16409, slot := 2, constantValue := 0 }, { name := "C2_PLUS", type := (.object "com/example/trust_grade/trustgrade/network/Rating"), accessFlags := 16409, slot := 3, constantValue := 0 }, { name := "B1", type := (.object "com/example/trust_grade/trustgrade/network/Rating"), accessFlags := 16409, slot := 4, constantValue := 0 }, { name := "B2", type := (.object "com/example/trust_grade/trustgrade/network/Rating"), accessFlags := 16409, slot := 5, constantValue := 0 }, { name := "B3", type := (.object "com/example/trust_grade/trustgrade/network/Rating"), accessFlags := 16409, slot := 6, constantValue := 0 }, { name := "A1", type := (.object "com/example/trust_grade/trustgrade/network/Rating"), accessFlags := 16409, slot := 7, constantValue := 0 }, { name := "word", type := (.object "java/lang/String"), accessFlags := 18, slot := 3, constantValue := 0 }, { name := "$VALUES", type := (.array (.object "com/example/trust_grade/trustgrade/network/Rating")), accessFlags := 4122, slot := 8, constantValue := 0 }]
  methods := #[k6m0]
  instanceTypes := #[(.object "java/lang/String"), .int, .int, (.object "java/lang/String")]
  staticTypes := #[(.object "com/example/trust_grade/trustgrade/network/Rating"), (.object "com/example/trust_grade/trustgrade/network/Rating"), (.object "com/example/trust_grade/trustgrade/network/Rating"), (.object "com/example/trust_grade/trustgrade/network/Rating"), (.object "com/example/trust_grade/trustgrade/network/Rating"), (.object "com/example/trust_grade/trustgrade/network/Rating"), (.object "com/example/trust_grade/trustgrade/network/Rating"), (.object "com/example/trust_grade/trustgrade/network/Rating"), (.array (.object "com/example/trust_grade/trustgrade/network/Rating"))]
  resolved := Array.replicate 129 none
  statics := some 0 }

def pool7 : Array CpInfo := pool [(1, u "java/lang/Cloneable"), (0, .class_ 1), (0, u "java/lang/Object"), (0, .class_ 3)] 3

/-- java/lang/Cloneable -/
def k7 : Class := { plain "java/lang/Cloneable" (some 0) with
  accessFlags := 1537
  interfaces := #[]
  cf := some (fileOf pool7 2 #[] #[] 1537 4 #[] #[])
  fields := #[]
  methods := #[]
  instanceTypes := #[]
  staticTypes := #[]
  resolved := Array.replicate 8 none
  statics := none }

/-- the primitive boolean -/
def k8 : Class := { plain "boolean" none with kind := .primitive 'Z', accessFlags := 0x411 }
/-- [Z -/
def k9 : Class := { plain "[Z" (some 0) with kind := .array 8 .boolean, interfaces := #[7, 4], accessFlags := 1041 }

/-- the primitive byte -/
def k10 : Class := { plain "byte" none with kind := .primitive 'B', accessFlags := 0x411 }
/-- [B -/
def k11 : Class := { plain "[B" (some 0) with kind := .array 10 .byte, interfaces := #[7, 4], accessFlags := 1041 }

/-- the primitive int -/
def k12 : Class := { plain "int" none with kind := .primitive 'I', accessFlags := 0x411 }
/-- [I -/
def k13 : Class := { plain "[I" (some 0) with kind := .array 12 .int, interfaces := #[7, 4], accessFlags := 1041 }

/-- [Lcom/example/trust_grade/trustgrade/network/Rating; -/
def k14 : Class := { plain "[Lcom/example/trust_grade/trustgrade/network/Rating;" (some 0) with kind := .array 6 (.object "com/example/trust_grade/trustgrade/network/Rating"), interfaces := #[7, 4], accessFlags := 1041 }

def heap : Heap := #[{ cls := 6, slots := #[.ref 1, .ref 2, .ref 3, .ref 4, .ref 5, .ref 6, .ref 7, .ref 8, .null], vm := .statics 6 },
  { cls := 6, slots := #[.null, .int 0, .int 0, .null], vm := .none },
  { cls := 6, slots := #[.null, .int 1, .int 0, .null], vm := .none },
  { cls := 6, slots := #[.null, .int 2, .int 0, .null], vm := .none },
  { cls := 6, slots := #[.null, .int 3, .int 0, .null], vm := .none },
  { cls := 6, slots := #[.null, .int 4, .int 0, .null], vm := .none },
  { cls := 6, slots := #[.null, .int 5, .int 0, .null], vm := .none },
  { cls := 6, slots := #[.null, .int 6, .int 0, .null], vm := .none },
  { cls := 6, slots := #[.null, .int 7, .int 0, .null], vm := .none }]
def classes : Array Class := #[k0, k1, k2, k3, k4, k5, k6, k7, k8, k9, k10, k11, k12, k13, k14]
def interned : List (Array UInt16 × Addr) := []
def slotsUsed : Nat := 41
def theMethod : MethodId := ⟨1, 1⟩
def args0 : Array Value := #[.int 5]
def aboutOver (below : List Frame) : State where
  vm := { classes := classes, interned := interned.toArray }
  heap := heap
  slotsUsed := slotsUsed
  threads := #[{ frames := .invoking theMethod args0 :: below }]
def below0 : List Frame := [.native { method := ⟨0, 0⟩, args := #[] }]
def about1 : State := aboutOver below0
def p0 : Program := .bare "" "" ""
def e0 : Env := launch0.env 0 0 0
theorem w_frames : about1.frames = Frame.invoking theMethod args0 :: below0 := rfl
set_option maxRecDepth 65536 in
theorem w_args : argsFit about1.vm theMethod args0 = true := by decide +kernel
set_option maxRecDepth 65536 in
theorem w_heap : heapFits about1 = true := by decide +kernel
set_option maxRecDepth 65536 in
theorem w_runnable : about1.curStatus? = some .runnable := by decide +kernel
set_option maxRecDepth 65536 in
theorem w_alone : about1.alone = true := by decide +kernel
set_option maxRecDepth 65536 in
theorem w_named : about1.methodNamed? x = some theMethod := by decide +kernel
set_option maxRecDepth 65536 in
theorem w_hears : about1.hears theMethod below0 = true := by decide +kernel
set_option maxRecDepth 65536 in
theorem w_ripe : about1.ripe theMethod args0 below0 = true := by decide +kernel
theorem w_running : about1.status = .running := rfl
set_option maxRecDepth 65536 in
theorem w_room : about1.hasRoom e0.platform room_1 = true :=
  launch0.hasRoom_least _ room_1 (by decide +kernel) (by decide +kernel) (by decide +kernel) (by decide +kernel) (by decide +kernel) (by decide +kernel)
theorem allAtoms_all (ts : List Jvm.Cond) (a : Array Jvm.Value) (st : Jvm.State) : (allAtoms ts).before a st = ts.all (fun c => c.before a st) := by
  induction ts with
  | nil => rfl
  | cons c t ih =>
    show (Jvm.Cond.and c (allAtoms t)).before a st = _
    rw [Jvm.Cond.before_and, ih, List.all_cons]
def words1 : List Jvm.Cond := Jvm.Cond.code x code maxLocals ret :: tables_1
/-- a 'code' word, met by the world's own term for the bytes: nothing is compared byte by byte -/
theorem code_word {y : MethodName} {bytes : ByteArray} {mx : Nat} {rt : Option FieldType} {a : Array Value} {s : State} {m : MethodId} {meth : Method} {c : Code} (h1 : s.methodNamed? y = some m) (h2 : s.vm.method? m = some meth) (h3 : meth.code = some c) (h4 : c.code = bytes)
    (h5 : (c.maxLocals == mx && c.exceptionTable.isEmpty && decide (c.maxStack ≤ mostOperands) && decide (meth.sig.returnType = rt) && !meth.locks && decide (parseMethodDescriptor y.desc = some meth.sig)) = true) : (Jvm.Cond.code y bytes mx rt).before a s = true := by
  simp only [Bool.and_eq_true, beq_iff_eq, Bool.not_eq_true', decide_eq_true_eq] at h5
  obtain ⟨⟨⟨⟨⟨g1, g2⟩, g3⟩, g4⟩, g5⟩, g6⟩ := h5
  simp [Cond.before, Cond.holds, Cond.value, h1, h2, h3, h4, g1, g2, g3, g4, g5, g6]
def isCode : Jvm.Cond → Bool
  | .code _ _ _ _ => true
  | _ => false
theorem all_split {L : List Jvm.Cond} {P : Jvm.Cond → Bool} (h1 : L.all (fun c => isCode c || P c) = true) (h2 : ∀ c ∈ L.filter isCode, P c = true) : L.all P = true := by
  refine List.all_eq_true.mpr fun c hc => ?_
  have h := List.all_eq_true.mp h1 c hc
  rcases Bool.eq_false_or_eq_true (isCode c) with hi | hi
  · exact h2 c (List.mem_filter.mpr ⟨hc, hi⟩)
  · simpa [hi] using h
set_option maxRecDepth 65536 in
theorem w_c0 : (Jvm.Cond.code x code maxLocals ret).before args0 about1 = true := code_word (m := ⟨1, 1⟩) (meth := k1m1) (c := k1c1) (by decide +kernel) rfl rfl rfl (by decide +kernel)
set_option maxRecDepth 65536 in
theorem w_c1 : (Jvm.Cond.code ({ cls := "com/example/trust_grade/trustgrade/network/Rating", name := "ratesSystems", desc := "()Z" } : Jvm.MethodName) prog_39_method_6_code (1 : Nat) (Option.some Jvm.ClassFile.FieldType.boolean)).before args0 about1 = true := code_word (m := ⟨6, 0⟩) (meth := k6m0) (c := k6c0) (by decide +kernel) rfl rfl rfl (by decide +kernel)
def codes1 : List Jvm.Cond := [Jvm.Cond.code x code maxLocals ret, Jvm.Cond.code ({ cls := "com/example/trust_grade/trustgrade/network/Rating", name := "ratesSystems", desc := "()Z" } : Jvm.MethodName) prog_39_method_6_code (1 : Nat) (Option.some Jvm.ClassFile.FieldType.boolean)]
set_option maxRecDepth 65536 in
theorem codes_eq : words1.filter isCode = codes1 := rfl
theorem w_codes : ∀ c ∈ words1.filter isCode, c.before args0 about1 = true := by
  rw [codes_eq]
  intro c hc
  simp only [codes1, List.mem_cons, List.not_mem_nil, or_false] at hc
  rcases hc with rfl | rfl
  · exact w_c0
  · exact w_c1
set_option maxRecDepth 65536 in
theorem w_t1 : (words1.take 24).all (fun c => isCode c || c.before args0 about1) = true := by decide +kernel
set_option maxRecDepth 65536 in
theorem w_t2 : (words1.drop 24).all (fun c => isCode c || c.before args0 about1) = true := by decide +kernel
theorem w_tables : (allAtoms (Jvm.Cond.code x code maxLocals ret :: tables_1)).before args0 about1 = true := by
  rw [allAtoms_all]
  show words1.all (fun c => c.before args0 about1) = true
  refine all_split ?_ w_codes
  rw [← List.take_append_drop 24 words1, List.all_append, w_t1, w_t2]
  rfl
set_option maxRecDepth 65536 in
theorem w_case : (Jvm.Cond.and given_1 narrow_1).before args0 about1 = true := by decide +kernel
theorem w_applies : (headSpec (Jvm.Cond.code x code maxLocals ret :: tables_1) room_1).applies x e0.platform about1 = true :=
  (Spec.applies_iff w_frames).mpr ⟨w_running, w_runnable, w_alone, w_named, w_hears, w_ripe, w_room, w_tables⟩
theorem atStart : AtStart classFile x code maxLocals ret World_1 tables_1 room_1 Calls_1 rest_1 Pre_1 launch0 p0 e0 about1 theMethod args0 below0 :=
  ⟨lists_1, trivial, launch0.admits_env _ _ _, launch0.least_env, fairChoices_fair.cas, fairChoices_fair.clock, w_frames, w_args, w_heap, w_applies, trivial, trivial, w_case⟩
end start1
theorem witness_1 : WitnessClaimed_1 := ⟨start1.p0, start1.e0, start1.about1, start1.theMethod, start1.args0, start1.below0, start1.atStart⟩
end Jvm.Pilot.@@N@@
