import JvmDerived
import JvmDerived.Pilot.@@N@@Statement
import JvmDerived.Pilot.@@N@@Code
set_option linter.unusedVariables false
set_option linter.unusedSimpArgs false
namespace Jvm.RoadKit
open Sem ClassFile Op Lib Jvm.Stand Jvm.Free Jvm.LawKit
section Own
variable {p : Program} {l : Launch} {e : Env} {R : Room} {s : State} {m : MethodId} {args : Array Value} {below : List Frame} {meth : Method} {c : Code} {T : State} {locs : List Loc} {cells slots : Nat}
/-- the run from U comes to its end, and the end meets Q -/
def own_Go (p : Program) (e : Env) (below : List Frame) (args : Array Value) (s : State) (Q : Array Value → State → Outcome → State → Prop) (U : State) : Prop := ∃ s₂ o, Steps p.tables e below U s₂ ∧ s₂.status = .running ∧ Ended s₂ below o ∧ Q args s o s₂
theorem own_st {Q : Array Value → State → Outcome → State → Prop} {U V : State} (k : ∀ t, Steps p.tables e below V t → Steps p.tables e below U t) (h : own_Go p e below args s Q V) : own_Go p e below args s Q U := by
  obtain ⟨s2, o, h1, h2⟩ := h
  exact ⟨s2, o, k _ h1, h2⟩
theorem own_ret {Q : Option Value → Heap → List Loc → Prop} {rc rs : Nat} (X : Stand p l e R s m args below meth c T locs cells slots) (hx : p.tables.exec = Jvm.exec) {pc : Nat} {Ls : Array Slot} {w : Value} {t : FieldType} {i : Instr} {rest : List Value} (hlk : meth.locks = false) (hret : meth.sig.returnType = some t) (hn : narrow t w = w)
    (hi : (i = .ireturn ∧ (t = .int ∨ t = .boolean ∨ t = .byte ∨ t = .char ∨ t = .short) ∧ ∃ z, w = .int z) ∨ (i = .lreturn ∧ t = .long ∧ ∃ z, w = .long z) ∨ (i = .dreturn ∧ t = .double ∧ ∃ z, w = .double z) ∨ (i = .freturn ∧ t = .float ∧ ∃ z, w = .float z) ∨ (i = .areturn ∧ t.isReference = true ∧ w.isRef = true))
    (hd : decode c.code pc = .ok (i, 1)) (hc : cells ≤ rc) (hs : slots ≤ rs) (hQ : Q (some w) T.heap locs) :
    own_Go p e below args s (fun _ U o U' => ∃ v L, o = .returned v ∧ Q v U'.heap L ∧ FrameEnd U o U' L rc rs) (T.setTop (mkF m pc Ls (w :: rest))) := by
  obtain ⟨fs, hr, hrun, hended, hW, hsame⟩ := X.leave (v := some w) (fun h => by rw [hret] at h; cases h) hlk
  exact ⟨_, _, retOut X hx hret hn hi hd hr, hrun, hended, _, _, rfl, hQ, ⟨_, rfl⟩, hW, hsame.mono hc hs⟩
theorem own_ret0 {Q : Option Value → Heap → List Loc → Prop} {rc rs : Nat} (X : Stand p l e R s m args below meth c T locs cells slots) (hx : p.tables.exec = Jvm.exec) {pc : Nat} {Ls : Array Slot} (hlk : meth.locks = false) (hret : meth.sig.returnType = none)
    (hd : decode c.code pc = .ok (.return_, 1)) (hc : cells ≤ rc) (hs : slots ≤ rs) (hQ : Q none T.heap locs) :
    own_Go p e below args s (fun _ U o U' => ∃ v L, o = .returned v ∧ Q v U'.heap L ∧ FrameEnd U o U' L rc rs) (T.setTop (mkF m pc Ls [])) := by
  obtain ⟨fs, hr, hrun, hended, hW, hsame⟩ := X.leave (v := none) (fun _ => rfl) hlk
  exact ⟨_, _, X.returnOut hx hret hd hr, hrun, hended, _, _, rfl, hQ, ⟨_, rfl⟩, hW, hsame.mono hc hs⟩
/-- what the sheet says of a static that holds an object of its class -/
theorem own_sta {Z : State} {args : Array Value} {C n d K : String} (hx : (Jvm.Cond.exactly (.static C n d) K).value args Z none Z [] = some true) (wi : (Jvm.Cond.initialized C).before args Z = true) (wl : (Jvm.Cond.laysStatic C n d).before args Z = true) :
    ∃ a, Sta Z Z.heap C n d (.ref a) ∧ Exa Z Z.heap a K ∧ (Jvm.Term.static C n d).eval args Z none [] Z = some (.ref a) := by
  obtain ⟨a, ev⟩ := exa_v hx
  exact ⟨a, Sta.start ev (Or.inr ⟨wi, wl⟩), Exa.start ev hx, ev⟩
theorem own_eqi {Z : State} {args : Array Value} {t : Jvm.Term} {k : Int32} (h : (Jvm.Cond.eq t (.int k)).value args Z none Z [] = some true) : t.eval args Z none [] Z = some (.int k) := by
  cases hv : t.eval args Z none [] Z with
  | none => simp [Cond.value, Term.eval, hv] at h
  | some v => cases v <;> simp [Cond.value, Term.eval, hv] at h ⊢ <;> exact h
theorem own_fld {Z : State} {args : Array Value} {t : Jvm.Term} {C n d : String} {a : Addr} {k : Int32} (ev : t.eval args Z none [] Z = some (.ref a)) (h : (Jvm.Cond.eq (.field t C n d) (.int k)).value args Z none Z [] = some true) : Fld Z Z.heap a C n d (.int k) :=
  Fld.start ((fld_at ev).symm.trans (own_eqi h))
end Own
end Jvm.RoadKit
namespace Jvm.Pilot.@@N@@
open Jvm Jvm.ClassFile Sem Op Lib Jvm.Free Jvm.Stand Jvm.LawKit Jvm.RoadKit Bundle Jvm.Pilot.@@N@@.Jvm.D
def own_cs : List (Nat × String) := [(0, "GET"), (1, "POST"), (2, "DELETE"), (3, "WAIT"), (4, "ASSERT")]
def own_En (Z : State) (h : Heap) (A : Nat → Addr) : Prop := ∀ q ∈ own_cs, Sta Z h "com/example/vanth/vanth/conformance/Action" q.2 "Lcom/example/vanth/vanth/conformance/Action;" (.ref (A q.1)) ∧ Exa Z h (A q.1) "com/example/vanth/vanth/conformance/Action" ∧ Fld Z h (A q.1) "java/lang/Enum" "ordinal" "I" (.int (Int32.ofNat q.1))
theorem own_S {Z : State} {h : Heap} {A : Nat → Addr} (En : own_En Z h A) (k : Nat) {i : Nat} {n : String} (q : own_cs[k]? = some (i, n)) : Sta Z h "com/example/vanth/vanth/conformance/Action" n "Lcom/example/vanth/vanth/conformance/Action;" (.ref (A i)) := (En _ (List.mem_of_getElem? q)).1
theorem own_E {Z : State} {h : Heap} {A : Nat → Addr} (En : own_En Z h A) (k : Nat) {i : Nat} {n : String} (q : own_cs[k]? = some (i, n)) : Exa Z h (A i) "com/example/vanth/vanth/conformance/Action" := (En _ (List.mem_of_getElem? q)).2.1
theorem own_O {Z : State} {h : Heap} {A : Nat → Addr} (En : own_En Z h A) (k : Nat) {i : Nat} {n : String} (q : own_cs[k]? = some (i, n)) : Fld Z h (A i) "java/lang/Enum" "ordinal" "I" (.int (Int32.ofNat i)) := (En _ (List.mem_of_getElem? q)).2.2
theorem own_ne {Z : State} {h : Heap} {A : Nat → Addr} (En : own_En Z h A) (k k' : Nat) {i j : Nat} {n n' : String} (q : own_cs[k]? = some (i, n)) (q' : own_cs[k']? = some (j, n')) (d : Int32.ofNat i ≠ Int32.ofNat j) : A i ≠ A j := (own_O En k q).ne (own_O En k' q') fun e => d (Value.int.inj e)
theorem own_En.ext {Z : State} {h h' : Heap} {A : Nat → Addr} (En : own_En Z h A) (E : Ext h h') : own_En Z h' A := fun q hq => by
  have r := En q hq
  exact ⟨r.1.ext E, r.2.1.ext E, r.2.2.ext E⟩
theorem own_En.wr {Z : State} {h h' : Heap} {A : Nat → Addr} {a : Addr} {sl : Nat} {v : Value} (En : own_En Z h A) (W : Wr h h' a sl v) (hne : ∀ q ∈ own_cs, A q.1 ≠ a) : own_En Z h' A := fun q hq => by
  have r := En q hq
  exact ⟨r.1.wr W, r.2.1.wr W, r.2.2.other W (Or.inl (hne q hq))⟩
def Q_own_m0 (Z : State) (A : Nat → Addr) (h0 : Heap) (n0 : Nat) (v : Option Value) (h : Heap) (L : List Loc) : Prop := v = some (.int (1 : Int32)) ∧ Fr n0 L ∧ h = h0
theorem own_d1_0 : decode prog_4_method_4_code 0 = .ok (.aload_n 0, 1) := by decide +kernel
theorem own_d1_1 : decode prog_4_method_4_code 1 = .ok (.getstatic 3, 3) := by decide +kernel
theorem own_d1_4 : decode prog_4_method_4_code 4 = .ok (.if_acmp .eq 17, 3) := by decide +kernel
theorem own_d1_21 : decode prog_4_method_4_code 21 = .ok (.iconst 1, 1) := by decide +kernel
theorem own_d1_22 : decode prog_4_method_4_code 22 = .ok (.goto 4, 3) := by decide +kernel
theorem own_d1_26 : decode prog_4_method_4_code 26 = .ok (.ireturn, 1) := by decide +kernel
theorem own_pn_com_example_vanth_vanth_conformance_Action : plainName "com/example/vanth/vanth/conformance/Action" = true := by first | (simp [plainName, overriddenIn]; done) | decide +kernel
set_option maxRecDepth 65536 in
set_option maxHeartbeats 40000000 in
theorem own_m0 (l : Launch) (Z : State) (a0 : Array Value) (hw : ∀ d ∈ tables_1, d.before a0 Z = true) (ws : List Jvm.Cond) (A : Nat → Addr) (h0 : Heap) (n0 : Nat) (Z0 : n0 ≤ h0.size) (En : own_En Z h0 A) :
    MetFree l (⟨"com/example/vanth/vanth/conformance/Action", "sendsRequest", "()Z"⟩ : MethodName) (head1 (Jvm.Cond.code (⟨"com/example/vanth/vanth/conformance/Action", "sendsRequest", "()Z"⟩ : MethodName) prog_4_method_4_code 1 (some .boolean) :: ws) ({ frames := 0, cells := 0, slots := 0, locals := 0 } : Room)) (fun a U => a = #[(.ref (A 0))] ∧ Z.Warmed39 U.vm ∧ U.heap = h0) (fun _ _ _ _ _ => True) (fun _ U o U' => ∃ v L, o = .returned v ∧ Q_own_m0 Z A h0 n0 v U'.heap L ∧ FrameEnd U o U' L ({ frames := 0, cells := 0, slots := 0, locals := 0 } : Room).cells ({ frames := 0, cells := 0, slots := 0, locals := 0 } : Room).slots) := by
  refine MetFree.of_bodySF (plainFor_of_name own_pn_com_example_vanth_vanth_conformance_Action) hisR ?_
  intro p e s m args below meth c s₁ Bd hml0 hP hK
  obtain ⟨rfl, hZ, hh⟩ := hP
  have hx := Bd.exec
  have hby := Bd.bytes
  have hml : c.maxLocals = 1 := hml0
  have hown : s.vm.findClass "com/example/vanth/vanth/conformance/Action" = some m.cls := findClass_of_methodNamed Bd.named
  have hnm := (name_of_methodNamed Bd.named Bd.method).1
  have hlk : meth.locks = false := BodyLoose.notSynchronized Bd
  have X0 : Stand p l e ({ frames := 0, cells := 0, slots := 0, locals := 0 } : Room) s m #[(.ref (A 0))] below meth c s₁ [] 0 0 := Stand.of_body Bd
  have e0 : s₁.heap = h0 := by rw [← hh, Bd.state]; rfl
  have N0 := Fr.nil n0
  show own_Go p e below #[(.ref (A 0))] s (fun _ U o U' => ∃ v L, o = .returned v ∧ Q_own_m0 Z A h0 n0 v U'.heap L ∧ FrameEnd U o U' L ({ frames := 0, cells := 0, slots := 0, locals := 0 } : Room).cells ({ frames := 0, cells := 0, slots := 0, locals := 0 } : Room).slots) (s₁.setTop (entryFrame m #[(.ref (A 0))] 1))
  refine own_st (V := s₁.setTop (mkF m 0 #[.val (.ref (A 0))] [])) (fun t k => castTop (by first | (simp [entryFrame, mkF, argsToLocals, Value.category]; done) | rfl) k) ?_
  refine own_st (V := s₁.setTop (mkF m 1 #[.val (.ref (A 0))] [(.ref (A 0))])) (fun t k => XS.aloadN X0.here hx rfl (hb hby own_d1_0) rfl rfl k) ?_
  obtain ⟨T1, X1, e1, st1⟩ := getS2 X0 hx hZ hown (host := "") (Or.inl (hw _ (List.mem_of_getElem? (i := 9) rfl))) Via.refl e0 (own_S En 0 (i := 0) (n := "GET") rfl) (g := (mkF m 1 #[.val (.ref (A 0))] [(.ref (A 0))])) rfl (hb hby own_d1_1)
  refine own_st (V := T1.setTop (mkF m 4 #[.val (.ref (A 0))] [(.ref (A 0)), (.ref (A 0))])) (fun t k => st1 _ k) ?_
  refine own_st (V := T1.setTop (mkF m 21 #[.val (.ref (A 0))] [])) (fun t k => Jvm.RoadKit.acmp (g := (mkF m 4 #[.val (.ref (A 0))] [(.ref (A 0)), (.ref (A 0))])) X1 hx rfl rfl rfl (pc0 := 4) (pc' := 21) (same := true) rfl (hb hby own_d1_4) rfl (decide_eq_true rfl) (by decide) (by decide) k) ?_
  refine own_st (V := T1.setTop (mkF m 22 #[.val (.ref (A 0))] [(.int (1 : Int32))])) (fun t k => XS.iconst X1.here hx rfl (hb hby own_d1_21) k) ?_
  refine own_st (V := T1.setTop (mkF m 26 #[.val (.ref (A 0))] [(.int (1 : Int32))])) (fun t k => XS.goto X1.here hx rfl (pc0 := 22) (pc' := 26) rfl (hb hby own_d1_22) (by decide) (by decide) k) ?_
  exact own_ret X1 hx hlk Bd.returns (by decide +kernel) (Or.inl ⟨rfl, by simp, _, rfl⟩) (hb hby own_d1_26) (by decide) (by decide) (by show Q_own_m0 Z A h0 n0 _ T1.heap _; rw [e1]; exact ⟨rfl, N0, rfl⟩)
def Q_own_m1 (Z : State) (A : Nat → Addr) (h0 : Heap) (n0 : Nat) (v : Option Value) (h : Heap) (L : List Loc) : Prop := v = some (.int (1 : Int32)) ∧ Fr n0 L ∧ h = h0
theorem own_d1_7 : decode prog_4_method_4_code 7 = .ok (.aload_n 0, 1) := by decide +kernel
theorem own_d1_8 : decode prog_4_method_4_code 8 = .ok (.getstatic 7, 3) := by decide +kernel
theorem own_d1_11 : decode prog_4_method_4_code 11 = .ok (.if_acmp .eq 10, 3) := by decide +kernel
set_option maxRecDepth 65536 in
set_option maxHeartbeats 40000000 in
theorem own_m1 (l : Launch) (Z : State) (a0 : Array Value) (hw : ∀ d ∈ tables_1, d.before a0 Z = true) (ws : List Jvm.Cond) (A : Nat → Addr) (h0 : Heap) (n0 : Nat) (Z0 : n0 ≤ h0.size) (En : own_En Z h0 A) :
    MetFree l (⟨"com/example/vanth/vanth/conformance/Action", "sendsRequest", "()Z"⟩ : MethodName) (head1 (Jvm.Cond.code (⟨"com/example/vanth/vanth/conformance/Action", "sendsRequest", "()Z"⟩ : MethodName) prog_4_method_4_code 1 (some .boolean) :: ws) ({ frames := 0, cells := 0, slots := 0, locals := 0 } : Room)) (fun a U => a = #[(.ref (A 1))] ∧ Z.Warmed39 U.vm ∧ U.heap = h0) (fun _ _ _ _ _ => True) (fun _ U o U' => ∃ v L, o = .returned v ∧ Q_own_m1 Z A h0 n0 v U'.heap L ∧ FrameEnd U o U' L ({ frames := 0, cells := 0, slots := 0, locals := 0 } : Room).cells ({ frames := 0, cells := 0, slots := 0, locals := 0 } : Room).slots) := by
  refine MetFree.of_bodySF (plainFor_of_name own_pn_com_example_vanth_vanth_conformance_Action) hisR ?_
  intro p e s m args below meth c s₁ Bd hml0 hP hK
  obtain ⟨rfl, hZ, hh⟩ := hP
  have hx := Bd.exec
  have hby := Bd.bytes
  have hml : c.maxLocals = 1 := hml0
  have hown : s.vm.findClass "com/example/vanth/vanth/conformance/Action" = some m.cls := findClass_of_methodNamed Bd.named
  have hnm := (name_of_methodNamed Bd.named Bd.method).1
  have hlk : meth.locks = false := BodyLoose.notSynchronized Bd
  have X0 : Stand p l e ({ frames := 0, cells := 0, slots := 0, locals := 0 } : Room) s m #[(.ref (A 1))] below meth c s₁ [] 0 0 := Stand.of_body Bd
  have e0 : s₁.heap = h0 := by rw [← hh, Bd.state]; rfl
  have N0 := Fr.nil n0
  show own_Go p e below #[(.ref (A 1))] s (fun _ U o U' => ∃ v L, o = .returned v ∧ Q_own_m1 Z A h0 n0 v U'.heap L ∧ FrameEnd U o U' L ({ frames := 0, cells := 0, slots := 0, locals := 0 } : Room).cells ({ frames := 0, cells := 0, slots := 0, locals := 0 } : Room).slots) (s₁.setTop (entryFrame m #[(.ref (A 1))] 1))
  refine own_st (V := s₁.setTop (mkF m 0 #[.val (.ref (A 1))] [])) (fun t k => castTop (by first | (simp [entryFrame, mkF, argsToLocals, Value.category]; done) | rfl) k) ?_
  refine own_st (V := s₁.setTop (mkF m 1 #[.val (.ref (A 1))] [(.ref (A 1))])) (fun t k => XS.aloadN X0.here hx rfl (hb hby own_d1_0) rfl rfl k) ?_
  obtain ⟨T2, X2, e2, st2⟩ := getS2 X0 hx hZ hown (host := "") (Or.inl (hw _ (List.mem_of_getElem? (i := 9) rfl))) Via.refl e0 (own_S En 0 (i := 0) (n := "GET") rfl) (g := (mkF m 1 #[.val (.ref (A 1))] [(.ref (A 1))])) rfl (hb hby own_d1_1)
  refine own_st (V := T2.setTop (mkF m 4 #[.val (.ref (A 1))] [(.ref (A 0)), (.ref (A 1))])) (fun t k => st2 _ k) ?_
  refine own_st (V := T2.setTop (mkF m 7 #[.val (.ref (A 1))] [])) (fun t k => Jvm.RoadKit.acmp (g := (mkF m 4 #[.val (.ref (A 1))] [(.ref (A 0)), (.ref (A 1))])) X2 hx rfl rfl rfl (pc0 := 4) (pc' := 7) (same := false) rfl (hb hby own_d1_4) rfl (decide_eq_false fun q => own_ne En 1 0 (i := 1) (n := "POST") (j := 0) (n' := "GET") rfl rfl (by decide) (Value.ref.inj q)) (by decide) (by decide) k) ?_
  refine own_st (V := T2.setTop (mkF m 8 #[.val (.ref (A 1))] [(.ref (A 1))])) (fun t k => XS.aloadN X2.here hx rfl (hb hby own_d1_7) rfl rfl k) ?_
  obtain ⟨T3, X3, e3, st3⟩ := getS2 X2 hx hZ hown (host := "") (Or.inl (hw _ (List.mem_of_getElem? (i := 12) rfl))) Via.refl e2 (own_S En 1 (i := 1) (n := "POST") rfl) (g := (mkF m 8 #[.val (.ref (A 1))] [(.ref (A 1))])) rfl (hb hby own_d1_8)
  refine own_st (V := T3.setTop (mkF m 11 #[.val (.ref (A 1))] [(.ref (A 1)), (.ref (A 1))])) (fun t k => st3 _ k) ?_
  refine own_st (V := T3.setTop (mkF m 21 #[.val (.ref (A 1))] [])) (fun t k => Jvm.RoadKit.acmp (g := (mkF m 11 #[.val (.ref (A 1))] [(.ref (A 1)), (.ref (A 1))])) X3 hx rfl rfl rfl (pc0 := 11) (pc' := 21) (same := true) rfl (hb hby own_d1_11) rfl (decide_eq_true rfl) (by decide) (by decide) k) ?_
  refine own_st (V := T3.setTop (mkF m 22 #[.val (.ref (A 1))] [(.int (1 : Int32))])) (fun t k => XS.iconst X3.here hx rfl (hb hby own_d1_21) k) ?_
  refine own_st (V := T3.setTop (mkF m 26 #[.val (.ref (A 1))] [(.int (1 : Int32))])) (fun t k => XS.goto X3.here hx rfl (pc0 := 22) (pc' := 26) rfl (hb hby own_d1_22) (by decide) (by decide) k) ?_
  exact own_ret X3 hx hlk Bd.returns (by decide +kernel) (Or.inl ⟨rfl, by simp, _, rfl⟩) (hb hby own_d1_26) (by decide) (by decide) (by show Q_own_m1 Z A h0 n0 _ T3.heap _; rw [e3]; exact ⟨rfl, N0, rfl⟩)
def Q_own_m2 (Z : State) (A : Nat → Addr) (h0 : Heap) (n0 : Nat) (v : Option Value) (h : Heap) (L : List Loc) : Prop := v = some (.int (1 : Int32)) ∧ Fr n0 L ∧ h = h0
theorem own_d1_14 : decode prog_4_method_4_code 14 = .ok (.aload_n 0, 1) := by decide +kernel
theorem own_d1_15 : decode prog_4_method_4_code 15 = .ok (.getstatic 10, 3) := by decide +kernel
theorem own_d1_18 : decode prog_4_method_4_code 18 = .ok (.if_acmp .ne 7, 3) := by decide +kernel
set_option maxRecDepth 65536 in
set_option maxHeartbeats 40000000 in
theorem own_m2 (l : Launch) (Z : State) (a0 : Array Value) (hw : ∀ d ∈ tables_1, d.before a0 Z = true) (ws : List Jvm.Cond) (A : Nat → Addr) (h0 : Heap) (n0 : Nat) (Z0 : n0 ≤ h0.size) (En : own_En Z h0 A) :
    MetFree l (⟨"com/example/vanth/vanth/conformance/Action", "sendsRequest", "()Z"⟩ : MethodName) (head1 (Jvm.Cond.code (⟨"com/example/vanth/vanth/conformance/Action", "sendsRequest", "()Z"⟩ : MethodName) prog_4_method_4_code 1 (some .boolean) :: ws) ({ frames := 0, cells := 0, slots := 0, locals := 0 } : Room)) (fun a U => a = #[(.ref (A 2))] ∧ Z.Warmed39 U.vm ∧ U.heap = h0) (fun _ _ _ _ _ => True) (fun _ U o U' => ∃ v L, o = .returned v ∧ Q_own_m2 Z A h0 n0 v U'.heap L ∧ FrameEnd U o U' L ({ frames := 0, cells := 0, slots := 0, locals := 0 } : Room).cells ({ frames := 0, cells := 0, slots := 0, locals := 0 } : Room).slots) := by
  refine MetFree.of_bodySF (plainFor_of_name own_pn_com_example_vanth_vanth_conformance_Action) hisR ?_
  intro p e s m args below meth c s₁ Bd hml0 hP hK
  obtain ⟨rfl, hZ, hh⟩ := hP
  have hx := Bd.exec
  have hby := Bd.bytes
  have hml : c.maxLocals = 1 := hml0
  have hown : s.vm.findClass "com/example/vanth/vanth/conformance/Action" = some m.cls := findClass_of_methodNamed Bd.named
  have hnm := (name_of_methodNamed Bd.named Bd.method).1
  have hlk : meth.locks = false := BodyLoose.notSynchronized Bd
  have X0 : Stand p l e ({ frames := 0, cells := 0, slots := 0, locals := 0 } : Room) s m #[(.ref (A 2))] below meth c s₁ [] 0 0 := Stand.of_body Bd
  have e0 : s₁.heap = h0 := by rw [← hh, Bd.state]; rfl
  have N0 := Fr.nil n0
  show own_Go p e below #[(.ref (A 2))] s (fun _ U o U' => ∃ v L, o = .returned v ∧ Q_own_m2 Z A h0 n0 v U'.heap L ∧ FrameEnd U o U' L ({ frames := 0, cells := 0, slots := 0, locals := 0 } : Room).cells ({ frames := 0, cells := 0, slots := 0, locals := 0 } : Room).slots) (s₁.setTop (entryFrame m #[(.ref (A 2))] 1))
  refine own_st (V := s₁.setTop (mkF m 0 #[.val (.ref (A 2))] [])) (fun t k => castTop (by first | (simp [entryFrame, mkF, argsToLocals, Value.category]; done) | rfl) k) ?_
  refine own_st (V := s₁.setTop (mkF m 1 #[.val (.ref (A 2))] [(.ref (A 2))])) (fun t k => XS.aloadN X0.here hx rfl (hb hby own_d1_0) rfl rfl k) ?_
  obtain ⟨T4, X4, e4, st4⟩ := getS2 X0 hx hZ hown (host := "") (Or.inl (hw _ (List.mem_of_getElem? (i := 9) rfl))) Via.refl e0 (own_S En 0 (i := 0) (n := "GET") rfl) (g := (mkF m 1 #[.val (.ref (A 2))] [(.ref (A 2))])) rfl (hb hby own_d1_1)
  refine own_st (V := T4.setTop (mkF m 4 #[.val (.ref (A 2))] [(.ref (A 0)), (.ref (A 2))])) (fun t k => st4 _ k) ?_
  refine own_st (V := T4.setTop (mkF m 7 #[.val (.ref (A 2))] [])) (fun t k => Jvm.RoadKit.acmp (g := (mkF m 4 #[.val (.ref (A 2))] [(.ref (A 0)), (.ref (A 2))])) X4 hx rfl rfl rfl (pc0 := 4) (pc' := 7) (same := false) rfl (hb hby own_d1_4) rfl (decide_eq_false fun q => own_ne En 2 0 (i := 2) (n := "DELETE") (j := 0) (n' := "GET") rfl rfl (by decide) (Value.ref.inj q)) (by decide) (by decide) k) ?_
  refine own_st (V := T4.setTop (mkF m 8 #[.val (.ref (A 2))] [(.ref (A 2))])) (fun t k => XS.aloadN X4.here hx rfl (hb hby own_d1_7) rfl rfl k) ?_
  obtain ⟨T5, X5, e5, st5⟩ := getS2 X4 hx hZ hown (host := "") (Or.inl (hw _ (List.mem_of_getElem? (i := 12) rfl))) Via.refl e4 (own_S En 1 (i := 1) (n := "POST") rfl) (g := (mkF m 8 #[.val (.ref (A 2))] [(.ref (A 2))])) rfl (hb hby own_d1_8)
  refine own_st (V := T5.setTop (mkF m 11 #[.val (.ref (A 2))] [(.ref (A 1)), (.ref (A 2))])) (fun t k => st5 _ k) ?_
  refine own_st (V := T5.setTop (mkF m 14 #[.val (.ref (A 2))] [])) (fun t k => Jvm.RoadKit.acmp (g := (mkF m 11 #[.val (.ref (A 2))] [(.ref (A 1)), (.ref (A 2))])) X5 hx rfl rfl rfl (pc0 := 11) (pc' := 14) (same := false) rfl (hb hby own_d1_11) rfl (decide_eq_false fun q => own_ne En 2 1 (i := 2) (n := "DELETE") (j := 1) (n' := "POST") rfl rfl (by decide) (Value.ref.inj q)) (by decide) (by decide) k) ?_
  refine own_st (V := T5.setTop (mkF m 15 #[.val (.ref (A 2))] [(.ref (A 2))])) (fun t k => XS.aloadN X5.here hx rfl (hb hby own_d1_14) rfl rfl k) ?_
  obtain ⟨T6, X6, e6, st6⟩ := getS2 X5 hx hZ hown (host := "") (Or.inl (hw _ (List.mem_of_getElem? (i := 14) rfl))) Via.refl e5 (own_S En 2 (i := 2) (n := "DELETE") rfl) (g := (mkF m 15 #[.val (.ref (A 2))] [(.ref (A 2))])) rfl (hb hby own_d1_15)
  refine own_st (V := T6.setTop (mkF m 18 #[.val (.ref (A 2))] [(.ref (A 2)), (.ref (A 2))])) (fun t k => st6 _ k) ?_
  refine own_st (V := T6.setTop (mkF m 21 #[.val (.ref (A 2))] [])) (fun t k => Jvm.RoadKit.acmp (g := (mkF m 18 #[.val (.ref (A 2))] [(.ref (A 2)), (.ref (A 2))])) X6 hx rfl rfl rfl (pc0 := 18) (pc' := 21) (same := true) rfl (hb hby own_d1_18) rfl (decide_eq_true rfl) (by decide) (by decide) k) ?_
  refine own_st (V := T6.setTop (mkF m 22 #[.val (.ref (A 2))] [(.int (1 : Int32))])) (fun t k => XS.iconst X6.here hx rfl (hb hby own_d1_21) k) ?_
  refine own_st (V := T6.setTop (mkF m 26 #[.val (.ref (A 2))] [(.int (1 : Int32))])) (fun t k => XS.goto X6.here hx rfl (pc0 := 22) (pc' := 26) rfl (hb hby own_d1_22) (by decide) (by decide) k) ?_
  exact own_ret X6 hx hlk Bd.returns (by decide +kernel) (Or.inl ⟨rfl, by simp, _, rfl⟩) (hb hby own_d1_26) (by decide) (by decide) (by show Q_own_m2 Z A h0 n0 _ T6.heap _; rw [e6]; exact ⟨rfl, N0, rfl⟩)
def Q_own_m3 (Z : State) (A : Nat → Addr) (h0 : Heap) (n0 : Nat) (v : Option Value) (h : Heap) (L : List Loc) : Prop := v = some (.int (0 : Int32)) ∧ Fr n0 L ∧ h = h0
theorem own_d1_25 : decode prog_4_method_4_code 25 = .ok (.iconst 0, 1) := by decide +kernel
set_option maxRecDepth 65536 in
set_option maxHeartbeats 40000000 in
theorem own_m3 (l : Launch) (Z : State) (a0 : Array Value) (hw : ∀ d ∈ tables_1, d.before a0 Z = true) (ws : List Jvm.Cond) (A : Nat → Addr) (h0 : Heap) (n0 : Nat) (Z0 : n0 ≤ h0.size) (En : own_En Z h0 A) :
    MetFree l (⟨"com/example/vanth/vanth/conformance/Action", "sendsRequest", "()Z"⟩ : MethodName) (head1 (Jvm.Cond.code (⟨"com/example/vanth/vanth/conformance/Action", "sendsRequest", "()Z"⟩ : MethodName) prog_4_method_4_code 1 (some .boolean) :: ws) ({ frames := 0, cells := 0, slots := 0, locals := 0 } : Room)) (fun a U => a = #[(.ref (A 3))] ∧ Z.Warmed39 U.vm ∧ U.heap = h0) (fun _ _ _ _ _ => True) (fun _ U o U' => ∃ v L, o = .returned v ∧ Q_own_m3 Z A h0 n0 v U'.heap L ∧ FrameEnd U o U' L ({ frames := 0, cells := 0, slots := 0, locals := 0 } : Room).cells ({ frames := 0, cells := 0, slots := 0, locals := 0 } : Room).slots) := by
  refine MetFree.of_bodySF (plainFor_of_name own_pn_com_example_vanth_vanth_conformance_Action) hisR ?_
  intro p e s m args below meth c s₁ Bd hml0 hP hK
  obtain ⟨rfl, hZ, hh⟩ := hP
  have hx := Bd.exec
  have hby := Bd.bytes
  have hml : c.maxLocals = 1 := hml0
  have hown : s.vm.findClass "com/example/vanth/vanth/conformance/Action" = some m.cls := findClass_of_methodNamed Bd.named
  have hnm := (name_of_methodNamed Bd.named Bd.method).1
  have hlk : meth.locks = false := BodyLoose.notSynchronized Bd
  have X0 : Stand p l e ({ frames := 0, cells := 0, slots := 0, locals := 0 } : Room) s m #[(.ref (A 3))] below meth c s₁ [] 0 0 := Stand.of_body Bd
  have e0 : s₁.heap = h0 := by rw [← hh, Bd.state]; rfl
  have N0 := Fr.nil n0
  show own_Go p e below #[(.ref (A 3))] s (fun _ U o U' => ∃ v L, o = .returned v ∧ Q_own_m3 Z A h0 n0 v U'.heap L ∧ FrameEnd U o U' L ({ frames := 0, cells := 0, slots := 0, locals := 0 } : Room).cells ({ frames := 0, cells := 0, slots := 0, locals := 0 } : Room).slots) (s₁.setTop (entryFrame m #[(.ref (A 3))] 1))
  refine own_st (V := s₁.setTop (mkF m 0 #[.val (.ref (A 3))] [])) (fun t k => castTop (by first | (simp [entryFrame, mkF, argsToLocals, Value.category]; done) | rfl) k) ?_
  refine own_st (V := s₁.setTop (mkF m 1 #[.val (.ref (A 3))] [(.ref (A 3))])) (fun t k => XS.aloadN X0.here hx rfl (hb hby own_d1_0) rfl rfl k) ?_
  obtain ⟨T7, X7, e7, st7⟩ := getS2 X0 hx hZ hown (host := "") (Or.inl (hw _ (List.mem_of_getElem? (i := 9) rfl))) Via.refl e0 (own_S En 0 (i := 0) (n := "GET") rfl) (g := (mkF m 1 #[.val (.ref (A 3))] [(.ref (A 3))])) rfl (hb hby own_d1_1)
  refine own_st (V := T7.setTop (mkF m 4 #[.val (.ref (A 3))] [(.ref (A 0)), (.ref (A 3))])) (fun t k => st7 _ k) ?_
  refine own_st (V := T7.setTop (mkF m 7 #[.val (.ref (A 3))] [])) (fun t k => Jvm.RoadKit.acmp (g := (mkF m 4 #[.val (.ref (A 3))] [(.ref (A 0)), (.ref (A 3))])) X7 hx rfl rfl rfl (pc0 := 4) (pc' := 7) (same := false) rfl (hb hby own_d1_4) rfl (decide_eq_false fun q => own_ne En 3 0 (i := 3) (n := "WAIT") (j := 0) (n' := "GET") rfl rfl (by decide) (Value.ref.inj q)) (by decide) (by decide) k) ?_
  refine own_st (V := T7.setTop (mkF m 8 #[.val (.ref (A 3))] [(.ref (A 3))])) (fun t k => XS.aloadN X7.here hx rfl (hb hby own_d1_7) rfl rfl k) ?_
  obtain ⟨T8, X8, e8, st8⟩ := getS2 X7 hx hZ hown (host := "") (Or.inl (hw _ (List.mem_of_getElem? (i := 12) rfl))) Via.refl e7 (own_S En 1 (i := 1) (n := "POST") rfl) (g := (mkF m 8 #[.val (.ref (A 3))] [(.ref (A 3))])) rfl (hb hby own_d1_8)
  refine own_st (V := T8.setTop (mkF m 11 #[.val (.ref (A 3))] [(.ref (A 1)), (.ref (A 3))])) (fun t k => st8 _ k) ?_
  refine own_st (V := T8.setTop (mkF m 14 #[.val (.ref (A 3))] [])) (fun t k => Jvm.RoadKit.acmp (g := (mkF m 11 #[.val (.ref (A 3))] [(.ref (A 1)), (.ref (A 3))])) X8 hx rfl rfl rfl (pc0 := 11) (pc' := 14) (same := false) rfl (hb hby own_d1_11) rfl (decide_eq_false fun q => own_ne En 3 1 (i := 3) (n := "WAIT") (j := 1) (n' := "POST") rfl rfl (by decide) (Value.ref.inj q)) (by decide) (by decide) k) ?_
  refine own_st (V := T8.setTop (mkF m 15 #[.val (.ref (A 3))] [(.ref (A 3))])) (fun t k => XS.aloadN X8.here hx rfl (hb hby own_d1_14) rfl rfl k) ?_
  obtain ⟨T9, X9, e9, st9⟩ := getS2 X8 hx hZ hown (host := "") (Or.inl (hw _ (List.mem_of_getElem? (i := 14) rfl))) Via.refl e8 (own_S En 2 (i := 2) (n := "DELETE") rfl) (g := (mkF m 15 #[.val (.ref (A 3))] [(.ref (A 3))])) rfl (hb hby own_d1_15)
  refine own_st (V := T9.setTop (mkF m 18 #[.val (.ref (A 3))] [(.ref (A 2)), (.ref (A 3))])) (fun t k => st9 _ k) ?_
  refine own_st (V := T9.setTop (mkF m 25 #[.val (.ref (A 3))] [])) (fun t k => Jvm.RoadKit.acmp (g := (mkF m 18 #[.val (.ref (A 3))] [(.ref (A 2)), (.ref (A 3))])) X9 hx rfl rfl rfl (pc0 := 18) (pc' := 25) (same := false) rfl (hb hby own_d1_18) rfl (decide_eq_false fun q => own_ne En 3 2 (i := 3) (n := "WAIT") (j := 2) (n' := "DELETE") rfl rfl (by decide) (Value.ref.inj q)) (by decide) (by decide) k) ?_
  refine own_st (V := T9.setTop (mkF m 26 #[.val (.ref (A 3))] [(.int (0 : Int32))])) (fun t k => XS.iconst X9.here hx rfl (hb hby own_d1_25) k) ?_
  exact own_ret X9 hx hlk Bd.returns (by decide +kernel) (Or.inl ⟨rfl, by simp, _, rfl⟩) (hb hby own_d1_26) (by decide) (by decide) (by show Q_own_m3 Z A h0 n0 _ T9.heap _; rw [e9]; exact ⟨rfl, N0, rfl⟩)
def Q_own_m4 (Z : State) (A : Nat → Addr) (h0 : Heap) (n0 : Nat) (v : Option Value) (h : Heap) (L : List Loc) : Prop := v = some (.int (0 : Int32)) ∧ Fr n0 L ∧ h = h0
set_option maxRecDepth 65536 in
set_option maxHeartbeats 40000000 in
theorem own_m4 (l : Launch) (Z : State) (a0 : Array Value) (hw : ∀ d ∈ tables_1, d.before a0 Z = true) (ws : List Jvm.Cond) (A : Nat → Addr) (h0 : Heap) (n0 : Nat) (Z0 : n0 ≤ h0.size) (En : own_En Z h0 A) :
    MetFree l (⟨"com/example/vanth/vanth/conformance/Action", "sendsRequest", "()Z"⟩ : MethodName) (head1 (Jvm.Cond.code (⟨"com/example/vanth/vanth/conformance/Action", "sendsRequest", "()Z"⟩ : MethodName) prog_4_method_4_code 1 (some .boolean) :: ws) ({ frames := 0, cells := 0, slots := 0, locals := 0 } : Room)) (fun a U => a = #[(.ref (A 4))] ∧ Z.Warmed39 U.vm ∧ U.heap = h0) (fun _ _ _ _ _ => True) (fun _ U o U' => ∃ v L, o = .returned v ∧ Q_own_m4 Z A h0 n0 v U'.heap L ∧ FrameEnd U o U' L ({ frames := 0, cells := 0, slots := 0, locals := 0 } : Room).cells ({ frames := 0, cells := 0, slots := 0, locals := 0 } : Room).slots) := by
  refine MetFree.of_bodySF (plainFor_of_name own_pn_com_example_vanth_vanth_conformance_Action) hisR ?_
  intro p e s m args below meth c s₁ Bd hml0 hP hK
  obtain ⟨rfl, hZ, hh⟩ := hP
  have hx := Bd.exec
  have hby := Bd.bytes
  have hml : c.maxLocals = 1 := hml0
  have hown : s.vm.findClass "com/example/vanth/vanth/conformance/Action" = some m.cls := findClass_of_methodNamed Bd.named
  have hnm := (name_of_methodNamed Bd.named Bd.method).1
  have hlk : meth.locks = false := BodyLoose.notSynchronized Bd
  have X0 : Stand p l e ({ frames := 0, cells := 0, slots := 0, locals := 0 } : Room) s m #[(.ref (A 4))] below meth c s₁ [] 0 0 := Stand.of_body Bd
  have e0 : s₁.heap = h0 := by rw [← hh, Bd.state]; rfl
  have N0 := Fr.nil n0
  show own_Go p e below #[(.ref (A 4))] s (fun _ U o U' => ∃ v L, o = .returned v ∧ Q_own_m4 Z A h0 n0 v U'.heap L ∧ FrameEnd U o U' L ({ frames := 0, cells := 0, slots := 0, locals := 0 } : Room).cells ({ frames := 0, cells := 0, slots := 0, locals := 0 } : Room).slots) (s₁.setTop (entryFrame m #[(.ref (A 4))] 1))
  refine own_st (V := s₁.setTop (mkF m 0 #[.val (.ref (A 4))] [])) (fun t k => castTop (by first | (simp [entryFrame, mkF, argsToLocals, Value.category]; done) | rfl) k) ?_
  refine own_st (V := s₁.setTop (mkF m 1 #[.val (.ref (A 4))] [(.ref (A 4))])) (fun t k => XS.aloadN X0.here hx rfl (hb hby own_d1_0) rfl rfl k) ?_
  obtain ⟨T10, X10, e10, st10⟩ := getS2 X0 hx hZ hown (host := "") (Or.inl (hw _ (List.mem_of_getElem? (i := 9) rfl))) Via.refl e0 (own_S En 0 (i := 0) (n := "GET") rfl) (g := (mkF m 1 #[.val (.ref (A 4))] [(.ref (A 4))])) rfl (hb hby own_d1_1)
  refine own_st (V := T10.setTop (mkF m 4 #[.val (.ref (A 4))] [(.ref (A 0)), (.ref (A 4))])) (fun t k => st10 _ k) ?_
  refine own_st (V := T10.setTop (mkF m 7 #[.val (.ref (A 4))] [])) (fun t k => Jvm.RoadKit.acmp (g := (mkF m 4 #[.val (.ref (A 4))] [(.ref (A 0)), (.ref (A 4))])) X10 hx rfl rfl rfl (pc0 := 4) (pc' := 7) (same := false) rfl (hb hby own_d1_4) rfl (decide_eq_false fun q => own_ne En 4 0 (i := 4) (n := "ASSERT") (j := 0) (n' := "GET") rfl rfl (by decide) (Value.ref.inj q)) (by decide) (by decide) k) ?_
  refine own_st (V := T10.setTop (mkF m 8 #[.val (.ref (A 4))] [(.ref (A 4))])) (fun t k => XS.aloadN X10.here hx rfl (hb hby own_d1_7) rfl rfl k) ?_
  obtain ⟨T11, X11, e11, st11⟩ := getS2 X10 hx hZ hown (host := "") (Or.inl (hw _ (List.mem_of_getElem? (i := 12) rfl))) Via.refl e10 (own_S En 1 (i := 1) (n := "POST") rfl) (g := (mkF m 8 #[.val (.ref (A 4))] [(.ref (A 4))])) rfl (hb hby own_d1_8)
  refine own_st (V := T11.setTop (mkF m 11 #[.val (.ref (A 4))] [(.ref (A 1)), (.ref (A 4))])) (fun t k => st11 _ k) ?_
  refine own_st (V := T11.setTop (mkF m 14 #[.val (.ref (A 4))] [])) (fun t k => Jvm.RoadKit.acmp (g := (mkF m 11 #[.val (.ref (A 4))] [(.ref (A 1)), (.ref (A 4))])) X11 hx rfl rfl rfl (pc0 := 11) (pc' := 14) (same := false) rfl (hb hby own_d1_11) rfl (decide_eq_false fun q => own_ne En 4 1 (i := 4) (n := "ASSERT") (j := 1) (n' := "POST") rfl rfl (by decide) (Value.ref.inj q)) (by decide) (by decide) k) ?_
  refine own_st (V := T11.setTop (mkF m 15 #[.val (.ref (A 4))] [(.ref (A 4))])) (fun t k => XS.aloadN X11.here hx rfl (hb hby own_d1_14) rfl rfl k) ?_
  obtain ⟨T12, X12, e12, st12⟩ := getS2 X11 hx hZ hown (host := "") (Or.inl (hw _ (List.mem_of_getElem? (i := 14) rfl))) Via.refl e11 (own_S En 2 (i := 2) (n := "DELETE") rfl) (g := (mkF m 15 #[.val (.ref (A 4))] [(.ref (A 4))])) rfl (hb hby own_d1_15)
  refine own_st (V := T12.setTop (mkF m 18 #[.val (.ref (A 4))] [(.ref (A 2)), (.ref (A 4))])) (fun t k => st12 _ k) ?_
  refine own_st (V := T12.setTop (mkF m 25 #[.val (.ref (A 4))] [])) (fun t k => Jvm.RoadKit.acmp (g := (mkF m 18 #[.val (.ref (A 4))] [(.ref (A 2)), (.ref (A 4))])) X12 hx rfl rfl rfl (pc0 := 18) (pc' := 25) (same := false) rfl (hb hby own_d1_18) rfl (decide_eq_false fun q => own_ne En 4 2 (i := 4) (n := "ASSERT") (j := 2) (n' := "DELETE") rfl rfl (by decide) (Value.ref.inj q)) (by decide) (by decide) k) ?_
  refine own_st (V := T12.setTop (mkF m 26 #[.val (.ref (A 4))] [(.int (0 : Int32))])) (fun t k => XS.iconst X12.here hx rfl (hb hby own_d1_25) k) ?_
  exact own_ret X12 hx hlk Bd.returns (by decide +kernel) (Or.inl ⟨rfl, by simp, _, rfl⟩) (hb hby own_d1_26) (by decide) (by decide) (by show Q_own_m4 Z A h0 n0 _ T12.heap _; rw [e12]; exact ⟨rfl, N0, rfl⟩)
theorem own_c (x : Int32) : ((x &&& (2147483647 : Int32)) % (5 : Int32)) = (0 : Int32) ∨ ((x &&& (2147483647 : Int32)) % (5 : Int32)) = (1 : Int32) ∨ ((x &&& (2147483647 : Int32)) % (5 : Int32)) = (2 : Int32) ∨ ((x &&& (2147483647 : Int32)) % (5 : Int32)) = (3 : Int32) ∨ ((x &&& (2147483647 : Int32)) % (5 : Int32)) = (4 : Int32) := by
  have h := c_mask x 2147483647 31 (by decide) (by decide)
  have q := (c_irem (x &&& (2147483647 : Int32)) (5 : Int32) 5 (by decide)).1 (by omega)
  have e : ∀ k : Int32, ((x &&& (2147483647 : Int32)) % (5 : Int32)).toInt = k.toInt → ((x &&& (2147483647 : Int32)) % (5 : Int32)) = k := fun k q => Int32.toInt_inj.mp q
  have b : ((x &&& (2147483647 : Int32)) % (5 : Int32)).toInt = 0 ∨ ((x &&& (2147483647 : Int32)) % (5 : Int32)).toInt = 1 ∨ ((x &&& (2147483647 : Int32)) % (5 : Int32)).toInt = 2 ∨ ((x &&& (2147483647 : Int32)) % (5 : Int32)).toInt = 3 ∨ ((x &&& (2147483647 : Int32)) % (5 : Int32)).toInt = 4 := by omega
  rcases b with b | b | b | b | b
  · exact Or.inl (e 0 b)
  · exact Or.inr (Or.inl (e 1 b))
  · exact Or.inr (Or.inr (Or.inl (e 2 b)))
  · exact Or.inr (Or.inr (Or.inr (Or.inl (e 3 b))))
  · exact Or.inr (Or.inr (Or.inr (Or.inr (e 4 b))))
def own_Q0 (Z : State) (p1 : Int32) (A : Nat → Addr) (h0 : Heap) (n0 : Nat) (v : Option Value) (h : Heap) (L : List Loc) : Prop := v = some (.int (1 : Int32)) ∧ Fr n0 L
theorem own_pd0 : parseMethodDescriptor "()Z" = some ⟨[], some .boolean⟩ := by decide +kernel
theorem own_pn_com_example_vanth_vanth_conformance_ActionSendsRequestPinLaw : plainName "com/example/vanth/vanth/conformance/ActionSendsRequestPinLaw" = true := by first | (simp [plainName, overriddenIn]; done) | decide +kernel
set_option maxRecDepth 65536 in
set_option maxHeartbeats 40000000 in
theorem own_law0 (l : Launch) (Z : State) (a0 : Array Value) (hw : ∀ d ∈ tables_1, d.before a0 Z = true) (ws : List Jvm.Cond) (p1 : Int32) (A : Nat → Addr) (h0 : Heap) (n0 : Nat) (Z0 : n0 ≤ h0.size) (En : own_En Z h0 A) (hk : ((p1 &&& (2147483647 : Int32)) % (5 : Int32)) = (0 : Int32)) :
    MetFree l x (head1 (Jvm.Cond.code x code maxLocals ret :: ws) room_1) (fun a U => a = #[(.int p1)] ∧ Z.Warmed39 U.vm ∧ U.heap = h0) (fun _ _ _ _ _ => True) (fun _ U o U' => ∃ v L, o = .returned v ∧ own_Q0 Z p1 A h0 n0 v U'.heap L ∧ FrameEnd U o U' L room_1.cells room_1.slots) := by
  refine MetFree.of_bodySF (plainFor_of_name own_pn_com_example_vanth_vanth_conformance_ActionSendsRequestPinLaw) hisR ?_
  intro p e s m args below meth c s₁ Bd hml0 hP hK
  obtain ⟨rfl, hZ, hh⟩ := hP
  have hx := Bd.exec
  have hby := Bd.bytes
  have hml : c.maxLocals = 4 := hml0
  have hown : s.vm.findClass "com/example/vanth/vanth/conformance/ActionSendsRequestPinLaw" = some m.cls := findClass_of_methodNamed Bd.named
  have hnm := (name_of_methodNamed Bd.named Bd.method).1
  have hlk : meth.locks = false := BodyLoose.notSynchronized Bd
  have X0 : Stand p l e room_1 s m #[(.int p1)] below meth c s₁ [] 0 0 := Stand.of_body Bd
  have e0 : s₁.heap = h0 := by rw [← hh, Bd.state]; rfl
  have N0 := Fr.nil n0
  show own_Go p e below #[(.int p1)] s (fun _ U o U' => ∃ v L, o = .returned v ∧ own_Q0 Z p1 A h0 n0 v U'.heap L ∧ FrameEnd U o U' L room_1.cells room_1.slots) (s₁.setTop (entryFrame m #[(.int p1)] maxLocals))
  refine own_st (V := s₁.setTop (mkF m 0 #[.val (.int p1), .unset, .unset, .unset] [])) (fun t k => castTop (by first | (simp [entryFrame, mkF, argsToLocals, Value.category, maxLocals]; done) | rfl) k) ?_
  refine own_st (V := s₁.setTop (mkF m 1 #[.val (.int p1), .unset, .unset, .unset] [(.int p1)])) (fun t k => XS.iloadN X0.here hx rfl (hb hby at_0) rfl k) ?_
  refine own_st (V := s₁.setTop (mkF m 3 #[.val (.int p1), .unset, .unset, .unset] [(.int (2147483647 : Int32)), (.int p1)])) (fun t k => X0.ldcInt hx hown (mvT hZ (hw _ (List.mem_of_getElem? (i := 0) rfl))) (g := (mkF m 1 #[.val (.int p1), .unset, .unset, .unset] [(.int p1)])) rfl (hb hby at_1) t k) ?_
  refine own_st (V := s₁.setTop (mkF m 4 #[.val (.int p1), .unset, .unset, .unset] [(.int (p1 &&& (2147483647 : Int32)))])) (fun t k => XS.iand X0.here hx rfl (hb hby at_3) rfl k) ?_
  refine own_st (V := s₁.setTop (mkF m 5 #[.val (.int p1), .unset, .unset, .unset] [(.int (5 : Int32)), (.int (p1 &&& (2147483647 : Int32)))])) (fun t k => XS.iconst X0.here hx rfl (hb hby at_4) k) ?_
  refine own_st (V := s₁.setTop (mkF m 6 #[.val (.int p1), .unset, .unset, .unset] [(.int ((p1 &&& (2147483647 : Int32)) % (5 : Int32)))])) (fun t k => Jvm.RoadKit.iremM X0 hx rfl (hb hby at_5) rfl (by decide) k) ?_
  rw [hk]
  refine own_st (V := s₁.setTop (mkF m 7 #[.val (.int p1), .val (.int (0 : Int32)), .unset, .unset] [])) (fun t k => XS.istoreN X0.here hx rfl (hb hby at_6) rfl (l' := #[.val (.int p1), .val (.int (0 : Int32)), .unset, .unset]) rfl k) ?_
  refine own_st (V := s₁.setTop (mkF m 8 #[.val (.int p1), .val (.int (0 : Int32)), .unset, .unset] [(.int (0 : Int32))])) (fun t k => XS.iloadN X0.here hx rfl (hb hby at_7) rfl k) ?_
  refine own_st (V := s₁.setTop (mkF m 11 #[.val (.int p1), .val (.int (0 : Int32)), .unset, .unset] [])) (fun t k => XS.ifNo X0.here hx rfl (hb hby at_8) rfl ((if0 _ _).trans (teq (by decide : (0 : Int32) = (0 : Int32))).2) k) ?_
  obtain ⟨T13, X13, e13, st13⟩ := getS2 X0 hx hZ hown (host := "") (Or.inl (hw _ (List.mem_of_getElem? (i := 1) rfl))) Via.refl e0 (own_S En 0 (i := 0) (n := "GET") rfl) (g := (mkF m 11 #[.val (.int p1), .val (.int (0 : Int32)), .unset, .unset] [])) rfl (hb hby at_11)
  refine own_st (V := T13.setTop (mkF m 14 #[.val (.int p1), .val (.int (0 : Int32)), .unset, .unset] [(.ref (A 0))])) (fun t k => st13 _ k) ?_
  refine own_st (V := T13.setTop (mkF m 15 #[.val (.int p1), .val (.int (0 : Int32)), .val (.ref (A 0)), .unset] [])) (fun t k => XS.astoreN X13.here hx rfl (hb hby at_14) rfl rfl (l' := #[.val (.int p1), .val (.int (0 : Int32)), .val (.ref (A 0)), .unset]) rfl k) ?_
  refine own_st (V := T13.setTop (mkF m 16 #[.val (.int p1), .val (.int (0 : Int32)), .val (.ref (A 0)), .unset] [(.int (1 : Int32))])) (fun t k => XS.iconst X13.here hx rfl (hb hby at_15) k) ?_
  refine own_st (V := T13.setTop (mkF m 17 #[.val (.int p1), .val (.int (0 : Int32)), .val (.ref (A 0)), .val (.int (1 : Int32))] [])) (fun t k => XS.istoreN X13.here hx rfl (hb hby at_16) rfl (l' := #[.val (.int p1), .val (.int (0 : Int32)), .val (.ref (A 0)), .val (.int (1 : Int32))]) rfl k) ?_
  refine own_st (V := T13.setTop (mkF m 68 #[.val (.int p1), .val (.int (0 : Int32)), .val (.ref (A 0)), .val (.int (1 : Int32))] [])) (fun t k => XS.goto X13.here hx rfl (pc0 := 17) (pc' := 68) rfl (hb hby at_17) (by decide) (by decide) k) ?_
  refine own_st (V := T13.setTop (mkF m 69 #[.val (.int p1), .val (.int (0 : Int32)), .val (.ref (A 0)), .val (.int (1 : Int32))] [(.ref (A 0))])) (fun t k => XS.aloadN X13.here hx rfl (hb hby at_68) rfl rfl k) ?_
  obtain ⟨cq14, kq14, q14a, q14b, q14c⟩ := isOf hZ e13 (own_E En 0 (i := 0) (n := "GET") rfl)
  obtain ⟨_, _, ⟨T14, L14, k14, n14⟩, -, X14, ⟨Lc14, hQ14, l14, y14, z14⟩, st14⟩ := X13.virtualBack hx (y := (⟨"com/example/vanth/vanth/conformance/Action", "sendsRequest", "()Z"⟩ : MethodName)) (z := (⟨"com/example/vanth/vanth/conformance/Action", "sendsRequest", "()Z"⟩ : MethodName)) hown (mvT hZ (hw _ (List.mem_of_getElem? (i := 4) rfl))) (mvT hZ (hw _ (List.mem_of_getElem? (i := 5) rfl))) (notFace_of_selects (args := #[]) (mvT hZ (hw _ (List.mem_of_getElem? (i := 7) rfl)))) (mvT hZ (hw _ (List.mem_of_getElem? (i := 7) rfl))) (mvT hZ (hw _ (List.mem_of_getElem? (i := 6) rfl))) (by decide) (backOf (W := 0) (own_m0 l Z a0 hw [] A h0 n0 Z0 En ) hZ (hw _ (List.mem_of_getElem? (i := 8) rfl)) (hw _ (List.mem_of_getElem? (i := 2) rfl)) (by decide) (by decide)) q14a q14c (g := (mkF m 69 #[.val (.int p1), .val (.int (0 : Int32)), .val (.ref (A 0)), .val (.int (1 : Int32))] [(.ref (A 0))])) rfl (by rw [hml]; rfl) (Steps.refl _) (argsL := []) (rest := []) (lenOf own_pd0 rfl) rfl (by show 2 * 0 + _ ≤ _; exact Nat.le_of_eq rfl) (hb hby at_69) (fun _ _ => ⟨rfl, e13, (by decide : 0 + 0 ≤ _), (by decide : 0 + 0 ≤ _)⟩)
  dsimp only [Pt.U, Pt.locs, Pt.cells, Pt.slots] at X14 l14 y14 z14 st14 hQ14
  subst l14 y14 z14
  obtain ⟨rfl, N14q, e14⟩ := hQ14
  have N14 := Fr.app N0 N14q
  refine own_st (V := T14.setTop (mkF m 72 #[.val (.int p1), .val (.int (0 : Int32)), .val (.ref (A 0)), .val (.int (1 : Int32))] [(.int (1 : Int32))])) (fun t k => st14.trans k) ?_
  refine own_st (V := T14.setTop (mkF m 73 #[.val (.int p1), .val (.int (0 : Int32)), .val (.ref (A 0)), .val (.int (1 : Int32))] [(.int (1 : Int32)), (.int (1 : Int32))])) (fun t k => XS.iloadN X14.here hx rfl (hb hby at_72) rfl k) ?_
  refine own_st (V := T14.setTop (mkF m 76 #[.val (.int p1), .val (.int (0 : Int32)), .val (.ref (A 0)), .val (.int (1 : Int32))] [])) (fun t k => XS.icmpNo X14.here hx rfl (hb hby at_73) rfl (teq (by decide : (1 : Int32) = (1 : Int32))).2 k) ?_
  refine own_st (V := T14.setTop (mkF m 77 #[.val (.int p1), .val (.int (0 : Int32)), .val (.ref (A 0)), .val (.int (1 : Int32))] [(.int (1 : Int32))])) (fun t k => XS.iconst X14.here hx rfl (hb hby at_76) k) ?_
  refine own_st (V := T14.setTop (mkF m 81 #[.val (.int p1), .val (.int (0 : Int32)), .val (.ref (A 0)), .val (.int (1 : Int32))] [(.int (1 : Int32))])) (fun t k => XS.goto X14.here hx rfl (pc0 := 77) (pc' := 81) rfl (hb hby at_77) (by decide) (by decide) k) ?_
  exact own_ret X14 hx hlk Bd.returns (by decide +kernel) (Or.inl ⟨rfl, by simp, _, rfl⟩) (hb hby at_81) (by decide) (by decide) (by show own_Q0 Z p1 A h0 n0 _ T14.heap _; rw [e14]; exact ⟨rfl, N14⟩)
set_option maxRecDepth 65536 in
set_option maxHeartbeats 40000000 in
theorem own_law1 (l : Launch) (Z : State) (a0 : Array Value) (hw : ∀ d ∈ tables_1, d.before a0 Z = true) (ws : List Jvm.Cond) (p1 : Int32) (A : Nat → Addr) (h0 : Heap) (n0 : Nat) (Z0 : n0 ≤ h0.size) (En : own_En Z h0 A) (hk : ((p1 &&& (2147483647 : Int32)) % (5 : Int32)) = (1 : Int32)) :
    MetFree l x (head1 (Jvm.Cond.code x code maxLocals ret :: ws) room_1) (fun a U => a = #[(.int p1)] ∧ Z.Warmed39 U.vm ∧ U.heap = h0) (fun _ _ _ _ _ => True) (fun _ U o U' => ∃ v L, o = .returned v ∧ own_Q0 Z p1 A h0 n0 v U'.heap L ∧ FrameEnd U o U' L room_1.cells room_1.slots) := by
  refine MetFree.of_bodySF (plainFor_of_name own_pn_com_example_vanth_vanth_conformance_ActionSendsRequestPinLaw) hisR ?_
  intro p e s m args below meth c s₁ Bd hml0 hP hK
  obtain ⟨rfl, hZ, hh⟩ := hP
  have hx := Bd.exec
  have hby := Bd.bytes
  have hml : c.maxLocals = 4 := hml0
  have hown : s.vm.findClass "com/example/vanth/vanth/conformance/ActionSendsRequestPinLaw" = some m.cls := findClass_of_methodNamed Bd.named
  have hnm := (name_of_methodNamed Bd.named Bd.method).1
  have hlk : meth.locks = false := BodyLoose.notSynchronized Bd
  have X0 : Stand p l e room_1 s m #[(.int p1)] below meth c s₁ [] 0 0 := Stand.of_body Bd
  have e0 : s₁.heap = h0 := by rw [← hh, Bd.state]; rfl
  have N0 := Fr.nil n0
  show own_Go p e below #[(.int p1)] s (fun _ U o U' => ∃ v L, o = .returned v ∧ own_Q0 Z p1 A h0 n0 v U'.heap L ∧ FrameEnd U o U' L room_1.cells room_1.slots) (s₁.setTop (entryFrame m #[(.int p1)] maxLocals))
  refine own_st (V := s₁.setTop (mkF m 0 #[.val (.int p1), .unset, .unset, .unset] [])) (fun t k => castTop (by first | (simp [entryFrame, mkF, argsToLocals, Value.category, maxLocals]; done) | rfl) k) ?_
  refine own_st (V := s₁.setTop (mkF m 1 #[.val (.int p1), .unset, .unset, .unset] [(.int p1)])) (fun t k => XS.iloadN X0.here hx rfl (hb hby at_0) rfl k) ?_
  refine own_st (V := s₁.setTop (mkF m 3 #[.val (.int p1), .unset, .unset, .unset] [(.int (2147483647 : Int32)), (.int p1)])) (fun t k => X0.ldcInt hx hown (mvT hZ (hw _ (List.mem_of_getElem? (i := 0) rfl))) (g := (mkF m 1 #[.val (.int p1), .unset, .unset, .unset] [(.int p1)])) rfl (hb hby at_1) t k) ?_
  refine own_st (V := s₁.setTop (mkF m 4 #[.val (.int p1), .unset, .unset, .unset] [(.int (p1 &&& (2147483647 : Int32)))])) (fun t k => XS.iand X0.here hx rfl (hb hby at_3) rfl k) ?_
  refine own_st (V := s₁.setTop (mkF m 5 #[.val (.int p1), .unset, .unset, .unset] [(.int (5 : Int32)), (.int (p1 &&& (2147483647 : Int32)))])) (fun t k => XS.iconst X0.here hx rfl (hb hby at_4) k) ?_
  refine own_st (V := s₁.setTop (mkF m 6 #[.val (.int p1), .unset, .unset, .unset] [(.int ((p1 &&& (2147483647 : Int32)) % (5 : Int32)))])) (fun t k => Jvm.RoadKit.iremM X0 hx rfl (hb hby at_5) rfl (by decide) k) ?_
  rw [hk]
  refine own_st (V := s₁.setTop (mkF m 7 #[.val (.int p1), .val (.int (1 : Int32)), .unset, .unset] [])) (fun t k => XS.istoreN X0.here hx rfl (hb hby at_6) rfl (l' := #[.val (.int p1), .val (.int (1 : Int32)), .unset, .unset]) rfl k) ?_
  refine own_st (V := s₁.setTop (mkF m 8 #[.val (.int p1), .val (.int (1 : Int32)), .unset, .unset] [(.int (1 : Int32))])) (fun t k => XS.iloadN X0.here hx rfl (hb hby at_7) rfl k) ?_
  refine own_st (V := s₁.setTop (mkF m 20 #[.val (.int p1), .val (.int (1 : Int32)), .unset, .unset] [])) (fun t k => XS.ifYes X0.here hx rfl (pc0 := 8) (pc' := 20) rfl (hb hby at_8) rfl ((if0 _ _).trans (feq (by decide : ¬ ((1 : Int32) = (0 : Int32)))).2) (by decide) (by decide) k) ?_
  refine own_st (V := s₁.setTop (mkF m 21 #[.val (.int p1), .val (.int (1 : Int32)), .unset, .unset] [(.int (1 : Int32))])) (fun t k => XS.iloadN X0.here hx rfl (hb hby at_20) rfl k) ?_
  refine own_st (V := s₁.setTop (mkF m 22 #[.val (.int p1), .val (.int (1 : Int32)), .unset, .unset] [(.int (1 : Int32)), (.int (1 : Int32))])) (fun t k => XS.iconst X0.here hx rfl (hb hby at_21) k) ?_
  refine own_st (V := s₁.setTop (mkF m 25 #[.val (.int p1), .val (.int (1 : Int32)), .unset, .unset] [])) (fun t k => XS.icmpNo X0.here hx rfl (hb hby at_22) rfl (teq (by decide : (1 : Int32) = (1 : Int32))).2 k) ?_
  obtain ⟨T15, X15, e15, st15⟩ := getS2 X0 hx hZ hown (host := "") (Or.inl (hw _ (List.mem_of_getElem? (i := 16) rfl))) Via.refl e0 (own_S En 1 (i := 1) (n := "POST") rfl) (g := (mkF m 25 #[.val (.int p1), .val (.int (1 : Int32)), .unset, .unset] [])) rfl (hb hby at_25)
  refine own_st (V := T15.setTop (mkF m 28 #[.val (.int p1), .val (.int (1 : Int32)), .unset, .unset] [(.ref (A 1))])) (fun t k => st15 _ k) ?_
  refine own_st (V := T15.setTop (mkF m 29 #[.val (.int p1), .val (.int (1 : Int32)), .val (.ref (A 1)), .unset] [])) (fun t k => XS.astoreN X15.here hx rfl (hb hby at_28) rfl rfl (l' := #[.val (.int p1), .val (.int (1 : Int32)), .val (.ref (A 1)), .unset]) rfl k) ?_
  refine own_st (V := T15.setTop (mkF m 30 #[.val (.int p1), .val (.int (1 : Int32)), .val (.ref (A 1)), .unset] [(.int (1 : Int32))])) (fun t k => XS.iconst X15.here hx rfl (hb hby at_29) k) ?_
  refine own_st (V := T15.setTop (mkF m 31 #[.val (.int p1), .val (.int (1 : Int32)), .val (.ref (A 1)), .val (.int (1 : Int32))] [])) (fun t k => XS.istoreN X15.here hx rfl (hb hby at_30) rfl (l' := #[.val (.int p1), .val (.int (1 : Int32)), .val (.ref (A 1)), .val (.int (1 : Int32))]) rfl k) ?_
  refine own_st (V := T15.setTop (mkF m 68 #[.val (.int p1), .val (.int (1 : Int32)), .val (.ref (A 1)), .val (.int (1 : Int32))] [])) (fun t k => XS.goto X15.here hx rfl (pc0 := 31) (pc' := 68) rfl (hb hby at_31) (by decide) (by decide) k) ?_
  refine own_st (V := T15.setTop (mkF m 69 #[.val (.int p1), .val (.int (1 : Int32)), .val (.ref (A 1)), .val (.int (1 : Int32))] [(.ref (A 1))])) (fun t k => XS.aloadN X15.here hx rfl (hb hby at_68) rfl rfl k) ?_
  obtain ⟨cq16, kq16, q16a, q16b, q16c⟩ := isOf hZ e15 (own_E En 1 (i := 1) (n := "POST") rfl)
  obtain ⟨_, _, ⟨T16, L16, k16, n16⟩, -, X16, ⟨Lc16, hQ16, l16, y16, z16⟩, st16⟩ := X15.virtualBack hx (y := (⟨"com/example/vanth/vanth/conformance/Action", "sendsRequest", "()Z"⟩ : MethodName)) (z := (⟨"com/example/vanth/vanth/conformance/Action", "sendsRequest", "()Z"⟩ : MethodName)) hown (mvT hZ (hw _ (List.mem_of_getElem? (i := 4) rfl))) (mvT hZ (hw _ (List.mem_of_getElem? (i := 5) rfl))) (notFace_of_selects (args := #[]) (mvT hZ (hw _ (List.mem_of_getElem? (i := 7) rfl)))) (mvT hZ (hw _ (List.mem_of_getElem? (i := 7) rfl))) (mvT hZ (hw _ (List.mem_of_getElem? (i := 6) rfl))) (by decide) (backOf (W := 0) (own_m1 l Z a0 hw [] A h0 n0 Z0 En ) hZ (hw _ (List.mem_of_getElem? (i := 8) rfl)) (hw _ (List.mem_of_getElem? (i := 2) rfl)) (by decide) (by decide)) q16a q16c (g := (mkF m 69 #[.val (.int p1), .val (.int (1 : Int32)), .val (.ref (A 1)), .val (.int (1 : Int32))] [(.ref (A 1))])) rfl (by rw [hml]; rfl) (Steps.refl _) (argsL := []) (rest := []) (lenOf own_pd0 rfl) rfl (by show 2 * 0 + _ ≤ _; exact Nat.le_of_eq rfl) (hb hby at_69) (fun _ _ => ⟨rfl, e15, (by decide : 0 + 0 ≤ _), (by decide : 0 + 0 ≤ _)⟩)
  dsimp only [Pt.U, Pt.locs, Pt.cells, Pt.slots] at X16 l16 y16 z16 st16 hQ16
  subst l16 y16 z16
  obtain ⟨rfl, N16q, e16⟩ := hQ16
  have N16 := Fr.app N0 N16q
  refine own_st (V := T16.setTop (mkF m 72 #[.val (.int p1), .val (.int (1 : Int32)), .val (.ref (A 1)), .val (.int (1 : Int32))] [(.int (1 : Int32))])) (fun t k => st16.trans k) ?_
  refine own_st (V := T16.setTop (mkF m 73 #[.val (.int p1), .val (.int (1 : Int32)), .val (.ref (A 1)), .val (.int (1 : Int32))] [(.int (1 : Int32)), (.int (1 : Int32))])) (fun t k => XS.iloadN X16.here hx rfl (hb hby at_72) rfl k) ?_
  refine own_st (V := T16.setTop (mkF m 76 #[.val (.int p1), .val (.int (1 : Int32)), .val (.ref (A 1)), .val (.int (1 : Int32))] [])) (fun t k => XS.icmpNo X16.here hx rfl (hb hby at_73) rfl (teq (by decide : (1 : Int32) = (1 : Int32))).2 k) ?_
  refine own_st (V := T16.setTop (mkF m 77 #[.val (.int p1), .val (.int (1 : Int32)), .val (.ref (A 1)), .val (.int (1 : Int32))] [(.int (1 : Int32))])) (fun t k => XS.iconst X16.here hx rfl (hb hby at_76) k) ?_
  refine own_st (V := T16.setTop (mkF m 81 #[.val (.int p1), .val (.int (1 : Int32)), .val (.ref (A 1)), .val (.int (1 : Int32))] [(.int (1 : Int32))])) (fun t k => XS.goto X16.here hx rfl (pc0 := 77) (pc' := 81) rfl (hb hby at_77) (by decide) (by decide) k) ?_
  exact own_ret X16 hx hlk Bd.returns (by decide +kernel) (Or.inl ⟨rfl, by simp, _, rfl⟩) (hb hby at_81) (by decide) (by decide) (by show own_Q0 Z p1 A h0 n0 _ T16.heap _; rw [e16]; exact ⟨rfl, N16⟩)
set_option maxRecDepth 65536 in
set_option maxHeartbeats 40000000 in
theorem own_law2 (l : Launch) (Z : State) (a0 : Array Value) (hw : ∀ d ∈ tables_1, d.before a0 Z = true) (ws : List Jvm.Cond) (p1 : Int32) (A : Nat → Addr) (h0 : Heap) (n0 : Nat) (Z0 : n0 ≤ h0.size) (En : own_En Z h0 A) (hk : ((p1 &&& (2147483647 : Int32)) % (5 : Int32)) = (2 : Int32)) :
    MetFree l x (head1 (Jvm.Cond.code x code maxLocals ret :: ws) room_1) (fun a U => a = #[(.int p1)] ∧ Z.Warmed39 U.vm ∧ U.heap = h0) (fun _ _ _ _ _ => True) (fun _ U o U' => ∃ v L, o = .returned v ∧ own_Q0 Z p1 A h0 n0 v U'.heap L ∧ FrameEnd U o U' L room_1.cells room_1.slots) := by
  refine MetFree.of_bodySF (plainFor_of_name own_pn_com_example_vanth_vanth_conformance_ActionSendsRequestPinLaw) hisR ?_
  intro p e s m args below meth c s₁ Bd hml0 hP hK
  obtain ⟨rfl, hZ, hh⟩ := hP
  have hx := Bd.exec
  have hby := Bd.bytes
  have hml : c.maxLocals = 4 := hml0
  have hown : s.vm.findClass "com/example/vanth/vanth/conformance/ActionSendsRequestPinLaw" = some m.cls := findClass_of_methodNamed Bd.named
  have hnm := (name_of_methodNamed Bd.named Bd.method).1
  have hlk : meth.locks = false := BodyLoose.notSynchronized Bd
  have X0 : Stand p l e room_1 s m #[(.int p1)] below meth c s₁ [] 0 0 := Stand.of_body Bd
  have e0 : s₁.heap = h0 := by rw [← hh, Bd.state]; rfl
  have N0 := Fr.nil n0
  show own_Go p e below #[(.int p1)] s (fun _ U o U' => ∃ v L, o = .returned v ∧ own_Q0 Z p1 A h0 n0 v U'.heap L ∧ FrameEnd U o U' L room_1.cells room_1.slots) (s₁.setTop (entryFrame m #[(.int p1)] maxLocals))
  refine own_st (V := s₁.setTop (mkF m 0 #[.val (.int p1), .unset, .unset, .unset] [])) (fun t k => castTop (by first | (simp [entryFrame, mkF, argsToLocals, Value.category, maxLocals]; done) | rfl) k) ?_
  refine own_st (V := s₁.setTop (mkF m 1 #[.val (.int p1), .unset, .unset, .unset] [(.int p1)])) (fun t k => XS.iloadN X0.here hx rfl (hb hby at_0) rfl k) ?_
  refine own_st (V := s₁.setTop (mkF m 3 #[.val (.int p1), .unset, .unset, .unset] [(.int (2147483647 : Int32)), (.int p1)])) (fun t k => X0.ldcInt hx hown (mvT hZ (hw _ (List.mem_of_getElem? (i := 0) rfl))) (g := (mkF m 1 #[.val (.int p1), .unset, .unset, .unset] [(.int p1)])) rfl (hb hby at_1) t k) ?_
  refine own_st (V := s₁.setTop (mkF m 4 #[.val (.int p1), .unset, .unset, .unset] [(.int (p1 &&& (2147483647 : Int32)))])) (fun t k => XS.iand X0.here hx rfl (hb hby at_3) rfl k) ?_
  refine own_st (V := s₁.setTop (mkF m 5 #[.val (.int p1), .unset, .unset, .unset] [(.int (5 : Int32)), (.int (p1 &&& (2147483647 : Int32)))])) (fun t k => XS.iconst X0.here hx rfl (hb hby at_4) k) ?_
  refine own_st (V := s₁.setTop (mkF m 6 #[.val (.int p1), .unset, .unset, .unset] [(.int ((p1 &&& (2147483647 : Int32)) % (5 : Int32)))])) (fun t k => Jvm.RoadKit.iremM X0 hx rfl (hb hby at_5) rfl (by decide) k) ?_
  rw [hk]
  refine own_st (V := s₁.setTop (mkF m 7 #[.val (.int p1), .val (.int (2 : Int32)), .unset, .unset] [])) (fun t k => XS.istoreN X0.here hx rfl (hb hby at_6) rfl (l' := #[.val (.int p1), .val (.int (2 : Int32)), .unset, .unset]) rfl k) ?_
  refine own_st (V := s₁.setTop (mkF m 8 #[.val (.int p1), .val (.int (2 : Int32)), .unset, .unset] [(.int (2 : Int32))])) (fun t k => XS.iloadN X0.here hx rfl (hb hby at_7) rfl k) ?_
  refine own_st (V := s₁.setTop (mkF m 20 #[.val (.int p1), .val (.int (2 : Int32)), .unset, .unset] [])) (fun t k => XS.ifYes X0.here hx rfl (pc0 := 8) (pc' := 20) rfl (hb hby at_8) rfl ((if0 _ _).trans (feq (by decide : ¬ ((2 : Int32) = (0 : Int32)))).2) (by decide) (by decide) k) ?_
  refine own_st (V := s₁.setTop (mkF m 21 #[.val (.int p1), .val (.int (2 : Int32)), .unset, .unset] [(.int (2 : Int32))])) (fun t k => XS.iloadN X0.here hx rfl (hb hby at_20) rfl k) ?_
  refine own_st (V := s₁.setTop (mkF m 22 #[.val (.int p1), .val (.int (2 : Int32)), .unset, .unset] [(.int (1 : Int32)), (.int (2 : Int32))])) (fun t k => XS.iconst X0.here hx rfl (hb hby at_21) k) ?_
  refine own_st (V := s₁.setTop (mkF m 34 #[.val (.int p1), .val (.int (2 : Int32)), .unset, .unset] [])) (fun t k => XS.icmpYes X0.here hx rfl (pc0 := 22) (pc' := 34) rfl (hb hby at_22) rfl (feq (by decide : ¬ ((2 : Int32) = (1 : Int32)))).2 (by decide) (by decide) k) ?_
  refine own_st (V := s₁.setTop (mkF m 35 #[.val (.int p1), .val (.int (2 : Int32)), .unset, .unset] [(.int (2 : Int32))])) (fun t k => XS.iloadN X0.here hx rfl (hb hby at_34) rfl k) ?_
  refine own_st (V := s₁.setTop (mkF m 36 #[.val (.int p1), .val (.int (2 : Int32)), .unset, .unset] [(.int (2 : Int32)), (.int (2 : Int32))])) (fun t k => XS.iconst X0.here hx rfl (hb hby at_35) k) ?_
  refine own_st (V := s₁.setTop (mkF m 39 #[.val (.int p1), .val (.int (2 : Int32)), .unset, .unset] [])) (fun t k => XS.icmpNo X0.here hx rfl (hb hby at_36) rfl (teq (by decide : (2 : Int32) = (2 : Int32))).2 k) ?_
  obtain ⟨T17, X17, e17, st17⟩ := getS2 X0 hx hZ hown (host := "") (Or.inl (hw _ (List.mem_of_getElem? (i := 19) rfl))) Via.refl e0 (own_S En 2 (i := 2) (n := "DELETE") rfl) (g := (mkF m 39 #[.val (.int p1), .val (.int (2 : Int32)), .unset, .unset] [])) rfl (hb hby at_39)
  refine own_st (V := T17.setTop (mkF m 42 #[.val (.int p1), .val (.int (2 : Int32)), .unset, .unset] [(.ref (A 2))])) (fun t k => st17 _ k) ?_
  refine own_st (V := T17.setTop (mkF m 43 #[.val (.int p1), .val (.int (2 : Int32)), .val (.ref (A 2)), .unset] [])) (fun t k => XS.astoreN X17.here hx rfl (hb hby at_42) rfl rfl (l' := #[.val (.int p1), .val (.int (2 : Int32)), .val (.ref (A 2)), .unset]) rfl k) ?_
  refine own_st (V := T17.setTop (mkF m 44 #[.val (.int p1), .val (.int (2 : Int32)), .val (.ref (A 2)), .unset] [(.int (1 : Int32))])) (fun t k => XS.iconst X17.here hx rfl (hb hby at_43) k) ?_
  refine own_st (V := T17.setTop (mkF m 45 #[.val (.int p1), .val (.int (2 : Int32)), .val (.ref (A 2)), .val (.int (1 : Int32))] [])) (fun t k => XS.istoreN X17.here hx rfl (hb hby at_44) rfl (l' := #[.val (.int p1), .val (.int (2 : Int32)), .val (.ref (A 2)), .val (.int (1 : Int32))]) rfl k) ?_
  refine own_st (V := T17.setTop (mkF m 68 #[.val (.int p1), .val (.int (2 : Int32)), .val (.ref (A 2)), .val (.int (1 : Int32))] [])) (fun t k => XS.goto X17.here hx rfl (pc0 := 45) (pc' := 68) rfl (hb hby at_45) (by decide) (by decide) k) ?_
  refine own_st (V := T17.setTop (mkF m 69 #[.val (.int p1), .val (.int (2 : Int32)), .val (.ref (A 2)), .val (.int (1 : Int32))] [(.ref (A 2))])) (fun t k => XS.aloadN X17.here hx rfl (hb hby at_68) rfl rfl k) ?_
  obtain ⟨cq18, kq18, q18a, q18b, q18c⟩ := isOf hZ e17 (own_E En 2 (i := 2) (n := "DELETE") rfl)
  obtain ⟨_, _, ⟨T18, L18, k18, n18⟩, -, X18, ⟨Lc18, hQ18, l18, y18, z18⟩, st18⟩ := X17.virtualBack hx (y := (⟨"com/example/vanth/vanth/conformance/Action", "sendsRequest", "()Z"⟩ : MethodName)) (z := (⟨"com/example/vanth/vanth/conformance/Action", "sendsRequest", "()Z"⟩ : MethodName)) hown (mvT hZ (hw _ (List.mem_of_getElem? (i := 4) rfl))) (mvT hZ (hw _ (List.mem_of_getElem? (i := 5) rfl))) (notFace_of_selects (args := #[]) (mvT hZ (hw _ (List.mem_of_getElem? (i := 7) rfl)))) (mvT hZ (hw _ (List.mem_of_getElem? (i := 7) rfl))) (mvT hZ (hw _ (List.mem_of_getElem? (i := 6) rfl))) (by decide) (backOf (W := 0) (own_m2 l Z a0 hw [] A h0 n0 Z0 En ) hZ (hw _ (List.mem_of_getElem? (i := 8) rfl)) (hw _ (List.mem_of_getElem? (i := 2) rfl)) (by decide) (by decide)) q18a q18c (g := (mkF m 69 #[.val (.int p1), .val (.int (2 : Int32)), .val (.ref (A 2)), .val (.int (1 : Int32))] [(.ref (A 2))])) rfl (by rw [hml]; rfl) (Steps.refl _) (argsL := []) (rest := []) (lenOf own_pd0 rfl) rfl (by show 2 * 0 + _ ≤ _; exact Nat.le_of_eq rfl) (hb hby at_69) (fun _ _ => ⟨rfl, e17, (by decide : 0 + 0 ≤ _), (by decide : 0 + 0 ≤ _)⟩)
  dsimp only [Pt.U, Pt.locs, Pt.cells, Pt.slots] at X18 l18 y18 z18 st18 hQ18
  subst l18 y18 z18
  obtain ⟨rfl, N18q, e18⟩ := hQ18
  have N18 := Fr.app N0 N18q
  refine own_st (V := T18.setTop (mkF m 72 #[.val (.int p1), .val (.int (2 : Int32)), .val (.ref (A 2)), .val (.int (1 : Int32))] [(.int (1 : Int32))])) (fun t k => st18.trans k) ?_
  refine own_st (V := T18.setTop (mkF m 73 #[.val (.int p1), .val (.int (2 : Int32)), .val (.ref (A 2)), .val (.int (1 : Int32))] [(.int (1 : Int32)), (.int (1 : Int32))])) (fun t k => XS.iloadN X18.here hx rfl (hb hby at_72) rfl k) ?_
  refine own_st (V := T18.setTop (mkF m 76 #[.val (.int p1), .val (.int (2 : Int32)), .val (.ref (A 2)), .val (.int (1 : Int32))] [])) (fun t k => XS.icmpNo X18.here hx rfl (hb hby at_73) rfl (teq (by decide : (1 : Int32) = (1 : Int32))).2 k) ?_
  refine own_st (V := T18.setTop (mkF m 77 #[.val (.int p1), .val (.int (2 : Int32)), .val (.ref (A 2)), .val (.int (1 : Int32))] [(.int (1 : Int32))])) (fun t k => XS.iconst X18.here hx rfl (hb hby at_76) k) ?_
  refine own_st (V := T18.setTop (mkF m 81 #[.val (.int p1), .val (.int (2 : Int32)), .val (.ref (A 2)), .val (.int (1 : Int32))] [(.int (1 : Int32))])) (fun t k => XS.goto X18.here hx rfl (pc0 := 77) (pc' := 81) rfl (hb hby at_77) (by decide) (by decide) k) ?_
  exact own_ret X18 hx hlk Bd.returns (by decide +kernel) (Or.inl ⟨rfl, by simp, _, rfl⟩) (hb hby at_81) (by decide) (by decide) (by show own_Q0 Z p1 A h0 n0 _ T18.heap _; rw [e18]; exact ⟨rfl, N18⟩)
set_option maxRecDepth 65536 in
set_option maxHeartbeats 40000000 in
theorem own_law3 (l : Launch) (Z : State) (a0 : Array Value) (hw : ∀ d ∈ tables_1, d.before a0 Z = true) (ws : List Jvm.Cond) (p1 : Int32) (A : Nat → Addr) (h0 : Heap) (n0 : Nat) (Z0 : n0 ≤ h0.size) (En : own_En Z h0 A) (hk : ((p1 &&& (2147483647 : Int32)) % (5 : Int32)) = (3 : Int32)) :
    MetFree l x (head1 (Jvm.Cond.code x code maxLocals ret :: ws) room_1) (fun a U => a = #[(.int p1)] ∧ Z.Warmed39 U.vm ∧ U.heap = h0) (fun _ _ _ _ _ => True) (fun _ U o U' => ∃ v L, o = .returned v ∧ own_Q0 Z p1 A h0 n0 v U'.heap L ∧ FrameEnd U o U' L room_1.cells room_1.slots) := by
  refine MetFree.of_bodySF (plainFor_of_name own_pn_com_example_vanth_vanth_conformance_ActionSendsRequestPinLaw) hisR ?_
  intro p e s m args below meth c s₁ Bd hml0 hP hK
  obtain ⟨rfl, hZ, hh⟩ := hP
  have hx := Bd.exec
  have hby := Bd.bytes
  have hml : c.maxLocals = 4 := hml0
  have hown : s.vm.findClass "com/example/vanth/vanth/conformance/ActionSendsRequestPinLaw" = some m.cls := findClass_of_methodNamed Bd.named
  have hnm := (name_of_methodNamed Bd.named Bd.method).1
  have hlk : meth.locks = false := BodyLoose.notSynchronized Bd
  have X0 : Stand p l e room_1 s m #[(.int p1)] below meth c s₁ [] 0 0 := Stand.of_body Bd
  have e0 : s₁.heap = h0 := by rw [← hh, Bd.state]; rfl
  have N0 := Fr.nil n0
  show own_Go p e below #[(.int p1)] s (fun _ U o U' => ∃ v L, o = .returned v ∧ own_Q0 Z p1 A h0 n0 v U'.heap L ∧ FrameEnd U o U' L room_1.cells room_1.slots) (s₁.setTop (entryFrame m #[(.int p1)] maxLocals))
  refine own_st (V := s₁.setTop (mkF m 0 #[.val (.int p1), .unset, .unset, .unset] [])) (fun t k => castTop (by first | (simp [entryFrame, mkF, argsToLocals, Value.category, maxLocals]; done) | rfl) k) ?_
  refine own_st (V := s₁.setTop (mkF m 1 #[.val (.int p1), .unset, .unset, .unset] [(.int p1)])) (fun t k => XS.iloadN X0.here hx rfl (hb hby at_0) rfl k) ?_
  refine own_st (V := s₁.setTop (mkF m 3 #[.val (.int p1), .unset, .unset, .unset] [(.int (2147483647 : Int32)), (.int p1)])) (fun t k => X0.ldcInt hx hown (mvT hZ (hw _ (List.mem_of_getElem? (i := 0) rfl))) (g := (mkF m 1 #[.val (.int p1), .unset, .unset, .unset] [(.int p1)])) rfl (hb hby at_1) t k) ?_
  refine own_st (V := s₁.setTop (mkF m 4 #[.val (.int p1), .unset, .unset, .unset] [(.int (p1 &&& (2147483647 : Int32)))])) (fun t k => XS.iand X0.here hx rfl (hb hby at_3) rfl k) ?_
  refine own_st (V := s₁.setTop (mkF m 5 #[.val (.int p1), .unset, .unset, .unset] [(.int (5 : Int32)), (.int (p1 &&& (2147483647 : Int32)))])) (fun t k => XS.iconst X0.here hx rfl (hb hby at_4) k) ?_
  refine own_st (V := s₁.setTop (mkF m 6 #[.val (.int p1), .unset, .unset, .unset] [(.int ((p1 &&& (2147483647 : Int32)) % (5 : Int32)))])) (fun t k => Jvm.RoadKit.iremM X0 hx rfl (hb hby at_5) rfl (by decide) k) ?_
  rw [hk]
  refine own_st (V := s₁.setTop (mkF m 7 #[.val (.int p1), .val (.int (3 : Int32)), .unset, .unset] [])) (fun t k => XS.istoreN X0.here hx rfl (hb hby at_6) rfl (l' := #[.val (.int p1), .val (.int (3 : Int32)), .unset, .unset]) rfl k) ?_
  refine own_st (V := s₁.setTop (mkF m 8 #[.val (.int p1), .val (.int (3 : Int32)), .unset, .unset] [(.int (3 : Int32))])) (fun t k => XS.iloadN X0.here hx rfl (hb hby at_7) rfl k) ?_
  refine own_st (V := s₁.setTop (mkF m 20 #[.val (.int p1), .val (.int (3 : Int32)), .unset, .unset] [])) (fun t k => XS.ifYes X0.here hx rfl (pc0 := 8) (pc' := 20) rfl (hb hby at_8) rfl ((if0 _ _).trans (feq (by decide : ¬ ((3 : Int32) = (0 : Int32)))).2) (by decide) (by decide) k) ?_
  refine own_st (V := s₁.setTop (mkF m 21 #[.val (.int p1), .val (.int (3 : Int32)), .unset, .unset] [(.int (3 : Int32))])) (fun t k => XS.iloadN X0.here hx rfl (hb hby at_20) rfl k) ?_
  refine own_st (V := s₁.setTop (mkF m 22 #[.val (.int p1), .val (.int (3 : Int32)), .unset, .unset] [(.int (1 : Int32)), (.int (3 : Int32))])) (fun t k => XS.iconst X0.here hx rfl (hb hby at_21) k) ?_
  refine own_st (V := s₁.setTop (mkF m 34 #[.val (.int p1), .val (.int (3 : Int32)), .unset, .unset] [])) (fun t k => XS.icmpYes X0.here hx rfl (pc0 := 22) (pc' := 34) rfl (hb hby at_22) rfl (feq (by decide : ¬ ((3 : Int32) = (1 : Int32)))).2 (by decide) (by decide) k) ?_
  refine own_st (V := s₁.setTop (mkF m 35 #[.val (.int p1), .val (.int (3 : Int32)), .unset, .unset] [(.int (3 : Int32))])) (fun t k => XS.iloadN X0.here hx rfl (hb hby at_34) rfl k) ?_
  refine own_st (V := s₁.setTop (mkF m 36 #[.val (.int p1), .val (.int (3 : Int32)), .unset, .unset] [(.int (2 : Int32)), (.int (3 : Int32))])) (fun t k => XS.iconst X0.here hx rfl (hb hby at_35) k) ?_
  refine own_st (V := s₁.setTop (mkF m 48 #[.val (.int p1), .val (.int (3 : Int32)), .unset, .unset] [])) (fun t k => XS.icmpYes X0.here hx rfl (pc0 := 36) (pc' := 48) rfl (hb hby at_36) rfl (feq (by decide : ¬ ((3 : Int32) = (2 : Int32)))).2 (by decide) (by decide) k) ?_
  refine own_st (V := s₁.setTop (mkF m 49 #[.val (.int p1), .val (.int (3 : Int32)), .unset, .unset] [(.int (3 : Int32))])) (fun t k => XS.iloadN X0.here hx rfl (hb hby at_48) rfl k) ?_
  refine own_st (V := s₁.setTop (mkF m 50 #[.val (.int p1), .val (.int (3 : Int32)), .unset, .unset] [(.int (3 : Int32)), (.int (3 : Int32))])) (fun t k => XS.iconst X0.here hx rfl (hb hby at_49) k) ?_
  refine own_st (V := s₁.setTop (mkF m 53 #[.val (.int p1), .val (.int (3 : Int32)), .unset, .unset] [])) (fun t k => XS.icmpNo X0.here hx rfl (hb hby at_50) rfl (teq (by decide : (3 : Int32) = (3 : Int32))).2 k) ?_
  obtain ⟨T19, X19, e19, st19⟩ := getS2 X0 hx hZ hown (host := "") (Or.inl (hw _ (List.mem_of_getElem? (i := 10) rfl))) Via.refl e0 (own_S En 3 (i := 3) (n := "WAIT") rfl) (g := (mkF m 53 #[.val (.int p1), .val (.int (3 : Int32)), .unset, .unset] [])) rfl (hb hby at_53)
  refine own_st (V := T19.setTop (mkF m 56 #[.val (.int p1), .val (.int (3 : Int32)), .unset, .unset] [(.ref (A 3))])) (fun t k => st19 _ k) ?_
  refine own_st (V := T19.setTop (mkF m 57 #[.val (.int p1), .val (.int (3 : Int32)), .val (.ref (A 3)), .unset] [])) (fun t k => XS.astoreN X19.here hx rfl (hb hby at_56) rfl rfl (l' := #[.val (.int p1), .val (.int (3 : Int32)), .val (.ref (A 3)), .unset]) rfl k) ?_
  refine own_st (V := T19.setTop (mkF m 58 #[.val (.int p1), .val (.int (3 : Int32)), .val (.ref (A 3)), .unset] [(.int (0 : Int32))])) (fun t k => XS.iconst X19.here hx rfl (hb hby at_57) k) ?_
  refine own_st (V := T19.setTop (mkF m 59 #[.val (.int p1), .val (.int (3 : Int32)), .val (.ref (A 3)), .val (.int (0 : Int32))] [])) (fun t k => XS.istoreN X19.here hx rfl (hb hby at_58) rfl (l' := #[.val (.int p1), .val (.int (3 : Int32)), .val (.ref (A 3)), .val (.int (0 : Int32))]) rfl k) ?_
  refine own_st (V := T19.setTop (mkF m 68 #[.val (.int p1), .val (.int (3 : Int32)), .val (.ref (A 3)), .val (.int (0 : Int32))] [])) (fun t k => XS.goto X19.here hx rfl (pc0 := 59) (pc' := 68) rfl (hb hby at_59) (by decide) (by decide) k) ?_
  refine own_st (V := T19.setTop (mkF m 69 #[.val (.int p1), .val (.int (3 : Int32)), .val (.ref (A 3)), .val (.int (0 : Int32))] [(.ref (A 3))])) (fun t k => XS.aloadN X19.here hx rfl (hb hby at_68) rfl rfl k) ?_
  obtain ⟨cq20, kq20, q20a, q20b, q20c⟩ := isOf hZ e19 (own_E En 3 (i := 3) (n := "WAIT") rfl)
  obtain ⟨_, _, ⟨T20, L20, k20, n20⟩, -, X20, ⟨Lc20, hQ20, l20, y20, z20⟩, st20⟩ := X19.virtualBack hx (y := (⟨"com/example/vanth/vanth/conformance/Action", "sendsRequest", "()Z"⟩ : MethodName)) (z := (⟨"com/example/vanth/vanth/conformance/Action", "sendsRequest", "()Z"⟩ : MethodName)) hown (mvT hZ (hw _ (List.mem_of_getElem? (i := 4) rfl))) (mvT hZ (hw _ (List.mem_of_getElem? (i := 5) rfl))) (notFace_of_selects (args := #[]) (mvT hZ (hw _ (List.mem_of_getElem? (i := 7) rfl)))) (mvT hZ (hw _ (List.mem_of_getElem? (i := 7) rfl))) (mvT hZ (hw _ (List.mem_of_getElem? (i := 6) rfl))) (by decide) (backOf (W := 0) (own_m3 l Z a0 hw [] A h0 n0 Z0 En ) hZ (hw _ (List.mem_of_getElem? (i := 8) rfl)) (hw _ (List.mem_of_getElem? (i := 2) rfl)) (by decide) (by decide)) q20a q20c (g := (mkF m 69 #[.val (.int p1), .val (.int (3 : Int32)), .val (.ref (A 3)), .val (.int (0 : Int32))] [(.ref (A 3))])) rfl (by rw [hml]; rfl) (Steps.refl _) (argsL := []) (rest := []) (lenOf own_pd0 rfl) rfl (by show 2 * 0 + _ ≤ _; exact Nat.le_of_eq rfl) (hb hby at_69) (fun _ _ => ⟨rfl, e19, (by decide : 0 + 0 ≤ _), (by decide : 0 + 0 ≤ _)⟩)
  dsimp only [Pt.U, Pt.locs, Pt.cells, Pt.slots] at X20 l20 y20 z20 st20 hQ20
  subst l20 y20 z20
  obtain ⟨rfl, N20q, e20⟩ := hQ20
  have N20 := Fr.app N0 N20q
  refine own_st (V := T20.setTop (mkF m 72 #[.val (.int p1), .val (.int (3 : Int32)), .val (.ref (A 3)), .val (.int (0 : Int32))] [(.int (0 : Int32))])) (fun t k => st20.trans k) ?_
  refine own_st (V := T20.setTop (mkF m 73 #[.val (.int p1), .val (.int (3 : Int32)), .val (.ref (A 3)), .val (.int (0 : Int32))] [(.int (0 : Int32)), (.int (0 : Int32))])) (fun t k => XS.iloadN X20.here hx rfl (hb hby at_72) rfl k) ?_
  refine own_st (V := T20.setTop (mkF m 76 #[.val (.int p1), .val (.int (3 : Int32)), .val (.ref (A 3)), .val (.int (0 : Int32))] [])) (fun t k => XS.icmpNo X20.here hx rfl (hb hby at_73) rfl (teq (by decide : (0 : Int32) = (0 : Int32))).2 k) ?_
  refine own_st (V := T20.setTop (mkF m 77 #[.val (.int p1), .val (.int (3 : Int32)), .val (.ref (A 3)), .val (.int (0 : Int32))] [(.int (1 : Int32))])) (fun t k => XS.iconst X20.here hx rfl (hb hby at_76) k) ?_
  refine own_st (V := T20.setTop (mkF m 81 #[.val (.int p1), .val (.int (3 : Int32)), .val (.ref (A 3)), .val (.int (0 : Int32))] [(.int (1 : Int32))])) (fun t k => XS.goto X20.here hx rfl (pc0 := 77) (pc' := 81) rfl (hb hby at_77) (by decide) (by decide) k) ?_
  exact own_ret X20 hx hlk Bd.returns (by decide +kernel) (Or.inl ⟨rfl, by simp, _, rfl⟩) (hb hby at_81) (by decide) (by decide) (by show own_Q0 Z p1 A h0 n0 _ T20.heap _; rw [e20]; exact ⟨rfl, N20⟩)
set_option maxRecDepth 65536 in
set_option maxHeartbeats 40000000 in
theorem own_law4 (l : Launch) (Z : State) (a0 : Array Value) (hw : ∀ d ∈ tables_1, d.before a0 Z = true) (ws : List Jvm.Cond) (p1 : Int32) (A : Nat → Addr) (h0 : Heap) (n0 : Nat) (Z0 : n0 ≤ h0.size) (En : own_En Z h0 A) (hk : ((p1 &&& (2147483647 : Int32)) % (5 : Int32)) = (4 : Int32)) :
    MetFree l x (head1 (Jvm.Cond.code x code maxLocals ret :: ws) room_1) (fun a U => a = #[(.int p1)] ∧ Z.Warmed39 U.vm ∧ U.heap = h0) (fun _ _ _ _ _ => True) (fun _ U o U' => ∃ v L, o = .returned v ∧ own_Q0 Z p1 A h0 n0 v U'.heap L ∧ FrameEnd U o U' L room_1.cells room_1.slots) := by
  refine MetFree.of_bodySF (plainFor_of_name own_pn_com_example_vanth_vanth_conformance_ActionSendsRequestPinLaw) hisR ?_
  intro p e s m args below meth c s₁ Bd hml0 hP hK
  obtain ⟨rfl, hZ, hh⟩ := hP
  have hx := Bd.exec
  have hby := Bd.bytes
  have hml : c.maxLocals = 4 := hml0
  have hown : s.vm.findClass "com/example/vanth/vanth/conformance/ActionSendsRequestPinLaw" = some m.cls := findClass_of_methodNamed Bd.named
  have hnm := (name_of_methodNamed Bd.named Bd.method).1
  have hlk : meth.locks = false := BodyLoose.notSynchronized Bd
  have X0 : Stand p l e room_1 s m #[(.int p1)] below meth c s₁ [] 0 0 := Stand.of_body Bd
  have e0 : s₁.heap = h0 := by rw [← hh, Bd.state]; rfl
  have N0 := Fr.nil n0
  show own_Go p e below #[(.int p1)] s (fun _ U o U' => ∃ v L, o = .returned v ∧ own_Q0 Z p1 A h0 n0 v U'.heap L ∧ FrameEnd U o U' L room_1.cells room_1.slots) (s₁.setTop (entryFrame m #[(.int p1)] maxLocals))
  refine own_st (V := s₁.setTop (mkF m 0 #[.val (.int p1), .unset, .unset, .unset] [])) (fun t k => castTop (by first | (simp [entryFrame, mkF, argsToLocals, Value.category, maxLocals]; done) | rfl) k) ?_
  refine own_st (V := s₁.setTop (mkF m 1 #[.val (.int p1), .unset, .unset, .unset] [(.int p1)])) (fun t k => XS.iloadN X0.here hx rfl (hb hby at_0) rfl k) ?_
  refine own_st (V := s₁.setTop (mkF m 3 #[.val (.int p1), .unset, .unset, .unset] [(.int (2147483647 : Int32)), (.int p1)])) (fun t k => X0.ldcInt hx hown (mvT hZ (hw _ (List.mem_of_getElem? (i := 0) rfl))) (g := (mkF m 1 #[.val (.int p1), .unset, .unset, .unset] [(.int p1)])) rfl (hb hby at_1) t k) ?_
  refine own_st (V := s₁.setTop (mkF m 4 #[.val (.int p1), .unset, .unset, .unset] [(.int (p1 &&& (2147483647 : Int32)))])) (fun t k => XS.iand X0.here hx rfl (hb hby at_3) rfl k) ?_
  refine own_st (V := s₁.setTop (mkF m 5 #[.val (.int p1), .unset, .unset, .unset] [(.int (5 : Int32)), (.int (p1 &&& (2147483647 : Int32)))])) (fun t k => XS.iconst X0.here hx rfl (hb hby at_4) k) ?_
  refine own_st (V := s₁.setTop (mkF m 6 #[.val (.int p1), .unset, .unset, .unset] [(.int ((p1 &&& (2147483647 : Int32)) % (5 : Int32)))])) (fun t k => Jvm.RoadKit.iremM X0 hx rfl (hb hby at_5) rfl (by decide) k) ?_
  rw [hk]
  refine own_st (V := s₁.setTop (mkF m 7 #[.val (.int p1), .val (.int (4 : Int32)), .unset, .unset] [])) (fun t k => XS.istoreN X0.here hx rfl (hb hby at_6) rfl (l' := #[.val (.int p1), .val (.int (4 : Int32)), .unset, .unset]) rfl k) ?_
  refine own_st (V := s₁.setTop (mkF m 8 #[.val (.int p1), .val (.int (4 : Int32)), .unset, .unset] [(.int (4 : Int32))])) (fun t k => XS.iloadN X0.here hx rfl (hb hby at_7) rfl k) ?_
  refine own_st (V := s₁.setTop (mkF m 20 #[.val (.int p1), .val (.int (4 : Int32)), .unset, .unset] [])) (fun t k => XS.ifYes X0.here hx rfl (pc0 := 8) (pc' := 20) rfl (hb hby at_8) rfl ((if0 _ _).trans (feq (by decide : ¬ ((4 : Int32) = (0 : Int32)))).2) (by decide) (by decide) k) ?_
  refine own_st (V := s₁.setTop (mkF m 21 #[.val (.int p1), .val (.int (4 : Int32)), .unset, .unset] [(.int (4 : Int32))])) (fun t k => XS.iloadN X0.here hx rfl (hb hby at_20) rfl k) ?_
  refine own_st (V := s₁.setTop (mkF m 22 #[.val (.int p1), .val (.int (4 : Int32)), .unset, .unset] [(.int (1 : Int32)), (.int (4 : Int32))])) (fun t k => XS.iconst X0.here hx rfl (hb hby at_21) k) ?_
  refine own_st (V := s₁.setTop (mkF m 34 #[.val (.int p1), .val (.int (4 : Int32)), .unset, .unset] [])) (fun t k => XS.icmpYes X0.here hx rfl (pc0 := 22) (pc' := 34) rfl (hb hby at_22) rfl (feq (by decide : ¬ ((4 : Int32) = (1 : Int32)))).2 (by decide) (by decide) k) ?_
  refine own_st (V := s₁.setTop (mkF m 35 #[.val (.int p1), .val (.int (4 : Int32)), .unset, .unset] [(.int (4 : Int32))])) (fun t k => XS.iloadN X0.here hx rfl (hb hby at_34) rfl k) ?_
  refine own_st (V := s₁.setTop (mkF m 36 #[.val (.int p1), .val (.int (4 : Int32)), .unset, .unset] [(.int (2 : Int32)), (.int (4 : Int32))])) (fun t k => XS.iconst X0.here hx rfl (hb hby at_35) k) ?_
  refine own_st (V := s₁.setTop (mkF m 48 #[.val (.int p1), .val (.int (4 : Int32)), .unset, .unset] [])) (fun t k => XS.icmpYes X0.here hx rfl (pc0 := 36) (pc' := 48) rfl (hb hby at_36) rfl (feq (by decide : ¬ ((4 : Int32) = (2 : Int32)))).2 (by decide) (by decide) k) ?_
  refine own_st (V := s₁.setTop (mkF m 49 #[.val (.int p1), .val (.int (4 : Int32)), .unset, .unset] [(.int (4 : Int32))])) (fun t k => XS.iloadN X0.here hx rfl (hb hby at_48) rfl k) ?_
  refine own_st (V := s₁.setTop (mkF m 50 #[.val (.int p1), .val (.int (4 : Int32)), .unset, .unset] [(.int (3 : Int32)), (.int (4 : Int32))])) (fun t k => XS.iconst X0.here hx rfl (hb hby at_49) k) ?_
  refine own_st (V := s₁.setTop (mkF m 62 #[.val (.int p1), .val (.int (4 : Int32)), .unset, .unset] [])) (fun t k => XS.icmpYes X0.here hx rfl (pc0 := 50) (pc' := 62) rfl (hb hby at_50) rfl (feq (by decide : ¬ ((4 : Int32) = (3 : Int32)))).2 (by decide) (by decide) k) ?_
  obtain ⟨T21, X21, e21, st21⟩ := getS2 X0 hx hZ hown (host := "") (Or.inl (hw _ (List.mem_of_getElem? (i := 17) rfl))) Via.refl e0 (own_S En 4 (i := 4) (n := "ASSERT") rfl) (g := (mkF m 62 #[.val (.int p1), .val (.int (4 : Int32)), .unset, .unset] [])) rfl (hb hby at_62)
  refine own_st (V := T21.setTop (mkF m 65 #[.val (.int p1), .val (.int (4 : Int32)), .unset, .unset] [(.ref (A 4))])) (fun t k => st21 _ k) ?_
  refine own_st (V := T21.setTop (mkF m 66 #[.val (.int p1), .val (.int (4 : Int32)), .val (.ref (A 4)), .unset] [])) (fun t k => XS.astoreN X21.here hx rfl (hb hby at_65) rfl rfl (l' := #[.val (.int p1), .val (.int (4 : Int32)), .val (.ref (A 4)), .unset]) rfl k) ?_
  refine own_st (V := T21.setTop (mkF m 67 #[.val (.int p1), .val (.int (4 : Int32)), .val (.ref (A 4)), .unset] [(.int (0 : Int32))])) (fun t k => XS.iconst X21.here hx rfl (hb hby at_66) k) ?_
  refine own_st (V := T21.setTop (mkF m 68 #[.val (.int p1), .val (.int (4 : Int32)), .val (.ref (A 4)), .val (.int (0 : Int32))] [])) (fun t k => XS.istoreN X21.here hx rfl (hb hby at_67) rfl (l' := #[.val (.int p1), .val (.int (4 : Int32)), .val (.ref (A 4)), .val (.int (0 : Int32))]) rfl k) ?_
  refine own_st (V := T21.setTop (mkF m 69 #[.val (.int p1), .val (.int (4 : Int32)), .val (.ref (A 4)), .val (.int (0 : Int32))] [(.ref (A 4))])) (fun t k => XS.aloadN X21.here hx rfl (hb hby at_68) rfl rfl k) ?_
  obtain ⟨cq22, kq22, q22a, q22b, q22c⟩ := isOf hZ e21 (own_E En 4 (i := 4) (n := "ASSERT") rfl)
  obtain ⟨_, _, ⟨T22, L22, k22, n22⟩, -, X22, ⟨Lc22, hQ22, l22, y22, z22⟩, st22⟩ := X21.virtualBack hx (y := (⟨"com/example/vanth/vanth/conformance/Action", "sendsRequest", "()Z"⟩ : MethodName)) (z := (⟨"com/example/vanth/vanth/conformance/Action", "sendsRequest", "()Z"⟩ : MethodName)) hown (mvT hZ (hw _ (List.mem_of_getElem? (i := 4) rfl))) (mvT hZ (hw _ (List.mem_of_getElem? (i := 5) rfl))) (notFace_of_selects (args := #[]) (mvT hZ (hw _ (List.mem_of_getElem? (i := 7) rfl)))) (mvT hZ (hw _ (List.mem_of_getElem? (i := 7) rfl))) (mvT hZ (hw _ (List.mem_of_getElem? (i := 6) rfl))) (by decide) (backOf (W := 0) (own_m4 l Z a0 hw [] A h0 n0 Z0 En ) hZ (hw _ (List.mem_of_getElem? (i := 8) rfl)) (hw _ (List.mem_of_getElem? (i := 2) rfl)) (by decide) (by decide)) q22a q22c (g := (mkF m 69 #[.val (.int p1), .val (.int (4 : Int32)), .val (.ref (A 4)), .val (.int (0 : Int32))] [(.ref (A 4))])) rfl (by rw [hml]; rfl) (Steps.refl _) (argsL := []) (rest := []) (lenOf own_pd0 rfl) rfl (by show 2 * 0 + _ ≤ _; exact Nat.le_of_eq rfl) (hb hby at_69) (fun _ _ => ⟨rfl, e21, (by decide : 0 + 0 ≤ _), (by decide : 0 + 0 ≤ _)⟩)
  dsimp only [Pt.U, Pt.locs, Pt.cells, Pt.slots] at X22 l22 y22 z22 st22 hQ22
  subst l22 y22 z22
  obtain ⟨rfl, N22q, e22⟩ := hQ22
  have N22 := Fr.app N0 N22q
  refine own_st (V := T22.setTop (mkF m 72 #[.val (.int p1), .val (.int (4 : Int32)), .val (.ref (A 4)), .val (.int (0 : Int32))] [(.int (0 : Int32))])) (fun t k => st22.trans k) ?_
  refine own_st (V := T22.setTop (mkF m 73 #[.val (.int p1), .val (.int (4 : Int32)), .val (.ref (A 4)), .val (.int (0 : Int32))] [(.int (0 : Int32)), (.int (0 : Int32))])) (fun t k => XS.iloadN X22.here hx rfl (hb hby at_72) rfl k) ?_
  refine own_st (V := T22.setTop (mkF m 76 #[.val (.int p1), .val (.int (4 : Int32)), .val (.ref (A 4)), .val (.int (0 : Int32))] [])) (fun t k => XS.icmpNo X22.here hx rfl (hb hby at_73) rfl (teq (by decide : (0 : Int32) = (0 : Int32))).2 k) ?_
  refine own_st (V := T22.setTop (mkF m 77 #[.val (.int p1), .val (.int (4 : Int32)), .val (.ref (A 4)), .val (.int (0 : Int32))] [(.int (1 : Int32))])) (fun t k => XS.iconst X22.here hx rfl (hb hby at_76) k) ?_
  refine own_st (V := T22.setTop (mkF m 81 #[.val (.int p1), .val (.int (4 : Int32)), .val (.ref (A 4)), .val (.int (0 : Int32))] [(.int (1 : Int32))])) (fun t k => XS.goto X22.here hx rfl (pc0 := 77) (pc' := 81) rfl (hb hby at_77) (by decide) (by decide) k) ?_
  exact own_ret X22 hx hlk Bd.returns (by decide +kernel) (Or.inl ⟨rfl, by simp, _, rfl⟩) (hb hby at_81) (by decide) (by decide) (by show own_Q0 Z p1 A h0 n0 _ T22.heap _; rw [e22]; exact ⟨rfl, N22⟩)
theorem own_law (l : Launch) (Z : State) (a0 : Array Value) (hw : ∀ d ∈ tables_1, d.before a0 Z = true) (ws : List Jvm.Cond) (p1 : Int32) (A : Nat → Addr) (h0 : Heap) (n0 : Nat) (Z0 : n0 ≤ h0.size) (En : own_En Z h0 A) :
    MetFree l x (head1 (Jvm.Cond.code x code maxLocals ret :: ws) room_1) (fun a U => a = #[(.int p1)] ∧ Z.Warmed39 U.vm ∧ U.heap = h0) (fun _ _ _ _ _ => True) (fun _ U o U' => ∃ v L, o = .returned v ∧ own_Q0 Z p1 A h0 n0 v U'.heap L ∧ FrameEnd U o U' L room_1.cells room_1.slots) := by
  rcases own_c p1 with h | h | h | h | h
  · exact own_law0 l Z a0 hw ws p1 A h0 n0 Z0 En h
  · exact own_law1 l Z a0 hw ws p1 A h0 n0 Z0 En h
  · exact own_law2 l Z a0 hw ws p1 A h0 n0 Z0 En h
  · exact own_law3 l Z a0 hw ws p1 A h0 n0 Z0 En h
  · exact own_law4 l Z a0 hw ws p1 A h0 n0 Z0 En h
set_option maxRecDepth 65536 in
set_option maxHeartbeats 40000000 in
theorem comes_1 {Post : Tables → Env → Array Value → State → Outcome → State → Prop} (hpost : ∀ tb e args s v u, (limb_1_1.after args s (.returned v) u = true ∧ limb_1_2.after args s (.returned v) u = true ∧ True) → FrameEnd s (.returned v) u (Jvm.fieldLocs frame_1_writes args s ++ Jvm.arrayLocs frame_1_arrays args s ++ Jvm.staticLocs frame_1_statics s) 0 0 → Post tb e args s (.returned v) u) :
    ArmFor flags0 classFile x code maxLocals ret World_1 tables_1 room_1 Calls_1 rest_1 Pre_1 Post := by
  intro l hfl _ _ p e ha hc hk s m args below hf hA hF happ hP
  obtain ⟨hcalls, hrest, hpre⟩ := hP
  obtain ⟨-, -, -, hnamed, -, -, -, hat⟩ := (Spec.applies_iff hf).mp happ
  obtain ⟨hg, hn⟩ := and_e (Cond.before_iff.mp (show (Jvm.Cond.and given_1 narrow_1).before args s = true from hpre))
  obtain ⟨g0, g1⟩ := and_e hg
  obtain ⟨w0, rfl⟩ : ∃ w0 : Value, args = #[w0] := by
    have hs : args.size = 1 := by simpa [Cond.value, given_1] using g0
    obtain ⟨L⟩ := args
    match L, hs with
    | [w0], _ => exact ⟨w0, rfl⟩
  have hw := fun d (hd : d ∈ tables_1) => atoms_spec (ws := Jvm.Cond.code x code maxLocals ret :: tables_1) hat d (List.mem_cons_of_mem _ hd)
  have hfit : Fit s := fun {y c} hc i hi => by
    obtain ⟨ha, rfl⟩ := Array.getElem?_eq_some_iff.mp hc
    have q := List.all_eq_true.mp ((Array.all_eq_true_iff_forall_mem.mp hF) _ (Array.getElem_mem ha)) i (List.mem_range.mpr hi)
    simpa [Array.getElem?_eq_getElem hi] using q
  obtain ⟨i0, ei0⟩ := is_v g1
  obtain rfl : w0 = (.int i0) := Option.some.inj ei0
  obtain ⟨nz0, nr0⟩ := and_e hn
  obtain ⟨nz1, nr1⟩ := and_e nr0
  obtain ⟨nz2, nr2⟩ := and_e nr1
  obtain ⟨nz3, nr3⟩ := and_e nr2
  obtain ⟨nz4, nr4⟩ := and_e nr3
  obtain ⟨nz5, nr5⟩ := and_e nr4
  obtain ⟨nz6, nr6⟩ := and_e nr5
  obtain ⟨nz7, nr7⟩ := and_e nr6
  obtain ⟨nz8, nr8⟩ := and_e nr7
  have nz9 := nr8
  obtain ⟨a0, S0, E0, v0⟩ := own_sta nz0 (hw _ (List.mem_of_getElem? (i := 2) rfl)) (hw _ (List.mem_of_getElem? (i := 3) rfl))
  obtain ⟨a1, S1, E1, v1⟩ := own_sta nz4 (hw _ (List.mem_of_getElem? (i := 2) rfl)) (hw _ (List.mem_of_getElem? (i := 13) rfl))
  obtain ⟨a2, S2, E2, v2⟩ := own_sta nz6 (hw _ (List.mem_of_getElem? (i := 2) rfl)) (hw _ (List.mem_of_getElem? (i := 15) rfl))
  obtain ⟨a3, S3, E3, v3⟩ := own_sta nz1 (hw _ (List.mem_of_getElem? (i := 2) rfl)) (hw _ (List.mem_of_getElem? (i := 11) rfl))
  obtain ⟨a4, S4, E4, v4⟩ := own_sta nz8 (hw _ (List.mem_of_getElem? (i := 2) rfl)) (hw _ (List.mem_of_getElem? (i := 18) rfl))
  let A : Nat → Addr := fun i => [a0, a1, a2, a3, a4].getD i 0
  have En : own_En s s.heap A := by
    intro q hq
    simp only [own_cs, List.mem_cons, List.not_mem_nil, or_false] at hq
    rcases hq with rfl | rfl | rfl | rfl | rfl
    · exact ⟨S0, E0, own_fld v0 nz3⟩
    · exact ⟨S1, E1, own_fld v1 nz5⟩
    · exact ⟨S2, E2, own_fld v2 nz7⟩
    · exact ⟨S3, E3, own_fld v3 nz2⟩
    · exact ⟨S4, E4, own_fld v4 nz9⟩
  obtain ⟨n, o, h1, h2, h3, _, L, rfl, ⟨rfl, N⟩, hq⟩ := own_law l s _ hw tables_1 i0 A s.heap s.heap.size (Nat.le_refl _) En p e ha hc hk s m _ below hf ((Spec.applies_iff_loose hf).mp happ).1 ⟨rfl, State.Warmed39.refl s, rfl⟩ trivial
  refine ⟨n, _, h1, h2, h3, hpost _ _ _ _ _ _ ⟨Cond.after_iff.mpr rfl, Cond.after_iff.mpr (eq_i res_at (Term.int_eval (1)) rfl), trivial⟩ ⟨hq.1, hq.2.1, (hq.2.2.sift fun y hy => Or.inr (N y hy)).mono (by decide) (by decide)⟩⟩
theorem main_1_1 : Claimed_1_1 := comes_1 fun _ _ _ _ _ _ h hF => ⟨h.1, hF⟩
theorem main_1_2 : Claimed_1_2 := comes_1 fun _ _ _ _ _ _ h hF => ⟨h.2.1, hF⟩
end Jvm.Pilot.@@N@@
namespace Jvm.Pilot.@@N@@
open Jvm Jvm.ClassFile Sem Op Lib Jvm.Free Jvm.Stand Jvm.Pilot.@@N@@.Jvm.D
/-! MADE BY PROGRAM (witnessworld.py) out of the Statement's table words and the real class files: 12 classes; the members and pool entries that the words name. The judged class is class 1, her method 1. -/
namespace start1
open Jvm.ClassFile
def u (s : String) : CpInfo := .utf8 (stringToUtf16 s)
/-- a pool by its gaps: so many unusable entries, then the entry; so many at the end -/
def gap : Nat → List CpInfo → List CpInfo
  | 0, r => r
  | n + 1, r => .unusable :: gap n r
def poolList (es : List (Nat × CpInfo)) (last : Nat) : List CpInfo := es.foldr (fun e r => gap e.1 (e.2 :: r)) (gap last [])
def pool (es : List (Nat × CpInfo)) (last : Nat) : Array CpInfo := ⟨poolList es last⟩
def fileOf (pool : Array CpInfo) (this : Nat) (attrs : Array Attribute := #[]) (ms : Array MethodInfo := #[]) (fl : Nat := 33) (sup : Nat := 0) (ifs : Array Nat := #[]) (fds : Array FieldInfo := #[]) : ClassFile where
  minorVersion := 0
  majorVersion := 65
  constantPool := pool
  accessFlags := fl
  thisClass := this
  superClass := sup
  interfaces := ifs
  fields := fds
  methods := ms
  attributes := attrs
def plain (name : String) (sup : Option ClassId) : Class where
  name := name
  kind := .ordinary
  loader := none
  accessFlags := 33
  super := sup
  interfaces := #[]
  cf := none
  fields := #[]
  methods := #[]
  instanceTypes := #[]
  staticTypes := #[]
  resolved := #[]
  callSites := []
  init := .initialized
  statics := none
  mirror := none

def pool0 : Array CpInfo := pool [(5, u "<init>"), (0, u "()V"), (1, .class_ 10), (1, u "java/lang/Object")] 113

def k0m0 : Method := { name := "<init>", desc := "()V", sig := { parameters := [], returnType := none }, accessFlags := 1, code := none }
/-- java/lang/Object -/
def k0 : Class := { plain "java/lang/Object" none with
  accessFlags := 33
  interfaces := #[]
  cf := some (fileOf pool0 8 #[] #[{ accessFlags := 1, nameIndex := 5, descriptorIndex := 6, attributes := #[] }] 33 0 #[] #[])
  fields := #[]
  methods := #[k0m0]
  instanceTypes := #[]
  staticTypes := #[]
  resolved := Array.replicate 124 none
  statics := none }

def pool1 : Array CpInfo := pool [(2, .class_ 4), (1, u "java/lang/Object"), (0, u "<init>"), (0, u "()V"), (0, .integer 2147483647), (0, .fieldref 9 10), (0, .class_ 11), (0, .nameAndType 12 13), (0, u "com/example/vanth/vanth/conformance/Action"), (0, u "GET"), (0, u "Lcom/example/vanth/vanth/conformance/Action;"), (0, .fieldref 9 15), (0, .nameAndType 16 13), (0, u "POST"), (0, .fieldref 9 18), (0, .nameAndType 19 13), (0, u "DELETE"), (0, .fieldref 9 21), (0, .nameAndType 22 13), (0, u "WAIT"), (0, .fieldref 9 24), (0, .nameAndType 25 13), (0, u "ASSERT"), (0, .methodref 9 27), (0, .nameAndType 28 29), (0, u "sendsRequest"), (0, u "()Z"), (0, .class_ 31), (0, u "com/example/vanth/vanth/conformance/ActionSendsRequestPinLaw"), (2, u "law"), (0, u "(I)Z")] 3

def k1m0 : Method := { name := "<init>", desc := "()V", sig := { parameters := [], returnType := none }, accessFlags := 1, code := none }
def k1c1 : Code := { maxStack := 2, maxLocals := 4, code := code, exceptionTable := #[], attributes := #[] }
def k1m1 : Method := { name := "law", desc := "(I)Z", sig := { parameters := [.int], returnType := some .boolean }, accessFlags := 9, code := some k1c1 }
/-- com/example/vanth/vanth/conformance/ActionSendsRequestPinLaw -/
def k1 : Class := { plain "com/example/vanth/vanth/conformance/ActionSendsRequestPinLaw" (some 0) with
  accessFlags := 49
  interfaces := #[]
  cf := some (fileOf pool1 30 #[] #[{ accessFlags := 1, nameIndex := 5, descriptorIndex := 6, attributes := #[] }, { accessFlags := 9, nameIndex := 34, descriptorIndex := 35, attributes := #[] }] 49 2 #[] #[])
  fields := #[]
  methods := #[k1m0, k1m1]
  instanceTypes := #[]
  staticTypes := #[]
  resolved := Array.replicate 39 none
  statics := none }

def pool2 : Array CpInfo := pool [(1, .class_ 2), (0, u "java/lang/constant/Constable"), (0, .class_ 4), (0, u "java/lang/Object")] 6

/-- java/lang/constant/Constable -/
def k2 : Class := { plain "java/lang/constant/Constable" (some 0) with
  accessFlags := 1537
  interfaces := #[]
  cf := some (fileOf pool2 1 #[] #[] 1537 3 #[] #[])
  fields := #[]
  methods := #[]
  instanceTypes := #[]
  staticTypes := #[]
  resolved := Array.replicate 11 none
  statics := none }

def pool3 : Array CpInfo := pool [(1, .class_ 2), (0, u "java/lang/Comparable"), (0, .class_ 4), (0, u "java/lang/Object")] 7

/-- java/lang/Comparable -/
def k3 : Class := { plain "java/lang/Comparable" (some 0) with
  accessFlags := 1537
  interfaces := #[]
  cf := some (fileOf pool3 1 #[] #[] 1537 3 #[] #[])
  fields := #[]
  methods := #[]
  instanceTypes := #[]
  staticTypes := #[]
  resolved := Array.replicate 12 none
  statics := none }

def pool4 : Array CpInfo := pool [(1, .class_ 2), (0, u "java/io/Serializable"), (0, .class_ 4), (0, u "java/lang/Object")] 2

/-- java/io/Serializable -/
def k4 : Class := { plain "java/io/Serializable" (some 0) with
  accessFlags := 1537
  interfaces := #[]
  cf := some (fileOf pool4 1 #[] #[] 1537 3 #[] #[])
  fields := #[]
  methods := #[]
  instanceTypes := #[]
  staticTypes := #[]
  resolved := Array.replicate 7 none
  statics := none }

def pool5 : Array CpInfo := pool [(2, .class_ 4), (1, u "java/lang/Enum"), (0, u "name"), (0, u "Ljava/lang/String;"), (2, u "ordinal"), (0, u "I"), (1, .class_ 14), (1, u "java/lang/Object"), (4, u "hash"), (86, .class_ 108), (1, u "java/lang/Enum$EnumDesc"), (2, .class_ 112), (0, u "java/lang/constant/Constable"), (0, .class_ 114), (0, u "java/lang/Comparable"), (0, .class_ 116), (0, u "java/io/Serializable")] 87

/-- java/lang/Enum -/
def k5 : Class := { plain "java/lang/Enum" (some 0) with
  accessFlags := 1057
  interfaces := #[2, 3, 4]
  cf := some (fileOf pool5 2 #[.nestMembers #[106]] #[] 1057 12 #[111, 113, 115] #[{ accessFlags := 18, nameIndex := 5, descriptorIndex := 6, attributes := #[] }, { accessFlags := 18, nameIndex := 9, descriptorIndex := 10, attributes := #[] }, { accessFlags := 2, nameIndex := 19, descriptorIndex := 10, attributes := #[] }])
  fields := #[{ name := "name", type := (.object "java/lang/String"), accessFlags := 18, slot := 0, constantValue := 0 }, { name := "ordinal", type := .int, accessFlags := 18, slot := 1, constantValue := 0 }, { name := "hash", type := .int, accessFlags := 2, slot := 2, constantValue := 0 }]
  methods := #[]
  instanceTypes := #[(.object "java/lang/String"), .int, .int]
  staticTypes := #[]
  resolved := Array.replicate 204 none
  statics := none }

def pool6 : Array CpInfo := pool [(1, .class_ 2), (0, u "com/example/vanth/vanth/conformance/Action"), (0, .fieldref 1 4), (0, .nameAndType 5 6), (0, u "GET"), (0, u "Lcom/example/vanth/vanth/conformance/Action;"), (0, .fieldref 1 8), (0, .nameAndType 9 6), (0, u "POST"), (0, .fieldref 1 11), (0, .nameAndType 12 6), (0, u "DELETE"), (2, u "WAIT"), (2, u "ASSERT"), (2, u "$VALUES"), (0, u "[Lcom/example/vanth/vanth/conformance/Action;"), (6, .class_ 31), (1, u "java/lang/Enum"), (23, u "sendsRequest"), (0, u "()Z")] 5

def k6c0 : Code := { maxStack := 2, maxLocals := 1, code := prog_4_method_4_code, exceptionTable := #[], attributes := #[] }
def k6m0 : Method := { name := "sendsRequest", desc := "()Z", sig := { parameters := [], returnType := some .boolean }, accessFlags := 0, code := some k6c0 }
/-- com/example/vanth/vanth/conformance/Action -/
def k6 : Class := { plain "com/example/vanth/vanth/conformance/Action" (some 5) with
  accessFlags := 16432
  interfaces := #[]
  cf := some (fileOf pool6 1 #[] #[{ accessFlags := 0, nameIndex := 55, descriptorIndex := 56, attributes := #[] }] 16432 29 #[] #[{ accessFlags := 16409, nameIndex := 5, descriptorIndex := 6, attributes := #[] }, { accessFlags := 16409, nameIndex := 9, descriptorIndex := 6, attributes := #[] }, { accessFlags := 16409, nameIndex := 12, descriptorIndex := 6, attributes := #[] }, { accessFlags := 16409, nameIndex := 15, descriptorIndex := 6, attributes := #[] }, { accessFlags := 16409, nameIndex := 18, descriptorIndex := 6, attributes := #[] }, { accessFlags := 4122, nameIndex := 21, descriptorIndex := 22, attributes := #[] }])
  fields := #[{ name := "GET", type := (.object "com/example/vanth/vanth/conformance/Action"), accessFlags := 16409, slot := 0, constantValue := 0 }, { name := "POST", type := (.object "com/example/vanth/vanth/conformance/Action"), accessFlags := 16409, slot := 1, constantValue := 0 }, { name := "DELETE", type := (.object "com/example/vanth/vanth/conformance/Action"), accessFlags := 16409, slot := 2, constantValue := 0 }, { name := "WAIT", type := (.object "com/example/vanth/vanth/conformance/Action"), accessFlags := 16409, slot := 3, constantValue := 0 }, { name := "ASSERT", type := (.object "com/example/vanth/vanth/conformance/Action"), accessFlags := 16409, slot := 4, constantValue := 0 }, { name := "$VALUES", type := (.array (.object "com/example/vanth/vanth/conformance/Action")), accessFlags := 4122, slot := 5, constantValue := 0 }]
  methods := #[k6m0]
  instanceTypes := #[(.object "java/lang/String"), .int, .int]
  staticTypes := #[(.object "com/example/vanth/vanth/conformance/Action"), (.object "com/example/vanth/vanth/conformance/Action"), (.object "com/example/vanth/vanth/conformance/Action"), (.object "com/example/vanth/vanth/conformance/Action"), (.object "com/example/vanth/vanth/conformance/Action"), (.array (.object "com/example/vanth/vanth/conformance/Action"))]
  resolved := Array.replicate 62 none
  statics := some 0 }

def pool7 : Array CpInfo := pool [(1, u "java/lang/Cloneable"), (0, .class_ 1), (0, u "java/lang/Object"), (0, .class_ 3)] 3

/-- java/lang/Cloneable -/
def k7 : Class := { plain "java/lang/Cloneable" (some 0) with
  accessFlags := 1537
  interfaces := #[]
  cf := some (fileOf pool7 2 #[] #[] 1537 4 #[] #[])
  fields := #[]
  methods := #[]
  instanceTypes := #[]
  staticTypes := #[]
  resolved := Array.replicate 8 none
  statics := none }

/-- the primitive byte -/
def k8 : Class := { plain "byte" none with kind := .primitive 'B', accessFlags := 0x411 }
/-- [B -/
def k9 : Class := { plain "[B" (some 0) with kind := .array 8 .byte, interfaces := #[7, 4], accessFlags := 1041 }

/-- the primitive int -/
def k10 : Class := { plain "int" none with kind := .primitive 'I', accessFlags := 0x411 }
/-- [I -/
def k11 : Class := { plain "[I" (some 0) with kind := .array 10 .int, interfaces := #[7, 4], accessFlags := 1041 }

def heap : Heap := #[{ cls := 6, slots := #[.ref 1, .ref 2, .ref 3, .ref 4, .ref 5, .null], vm := .statics 6 },
  { cls := 6, slots := #[.null, .int 0, .int 0], vm := .none },
  { cls := 6, slots := #[.null, .int 1, .int 0], vm := .none },
  { cls := 6, slots := #[.null, .int 2, .int 0], vm := .none },
  { cls := 6, slots := #[.null, .int 3, .int 0], vm := .none },
  { cls := 6, slots := #[.null, .int 4, .int 0], vm := .none }]
def classes : Array Class := #[k0, k1, k2, k3, k4, k5, k6, k7, k8, k9, k10, k11]
def interned : List (Array UInt16 × Addr) := []
def slotsUsed : Nat := 21
def theMethod : MethodId := ⟨1, 1⟩
def args0 : Array Value := #[.int 5]
def aboutOver (below : List Frame) : State where
  vm := { classes := classes, interned := interned.toArray }
  heap := heap
  slotsUsed := slotsUsed
  threads := #[{ frames := .invoking theMethod args0 :: below }]
def below0 : List Frame := [.native { method := ⟨0, 0⟩, args := #[] }]
def about1 : State := aboutOver below0
def p0 : Program := .bare "" "" ""
def e0 : Env := launch0.env 0 0 0
theorem w_frames : about1.frames = Frame.invoking theMethod args0 :: below0 := rfl
set_option maxRecDepth 65536 in
theorem w_args : argsFit about1.vm theMethod args0 = true := by decide +kernel
set_option maxRecDepth 65536 in
theorem w_heap : heapFits about1 = true := by decide +kernel
set_option maxRecDepth 65536 in
theorem w_runnable : about1.curStatus? = some .runnable := by decide +kernel
set_option maxRecDepth 65536 in
theorem w_alone : about1.alone = true := by decide +kernel
set_option maxRecDepth 65536 in
theorem w_named : about1.methodNamed? x = some theMethod := by decide +kernel
set_option maxRecDepth 65536 in
theorem w_hears : about1.hears theMethod below0 = true := by decide +kernel
set_option maxRecDepth 65536 in
theorem w_ripe : about1.ripe theMethod args0 below0 = true := by decide +kernel
theorem w_running : about1.status = .running := rfl
set_option maxRecDepth 65536 in
theorem w_room : about1.hasRoom e0.platform room_1 = true :=
  launch0.hasRoom_least _ room_1 (by decide +kernel) (by decide +kernel) (by decide +kernel) (by decide +kernel) (by decide +kernel) (by decide +kernel)
theorem allAtoms_all (ts : List Jvm.Cond) (a : Array Jvm.Value) (st : Jvm.State) : (allAtoms ts).before a st = ts.all (fun c => c.before a st) := by
  induction ts with
  | nil => rfl
  | cons c t ih =>
    show (Jvm.Cond.and c (allAtoms t)).before a st = _
    rw [Jvm.Cond.before_and, ih, List.all_cons]
def words1 : List Jvm.Cond := Jvm.Cond.code x code maxLocals ret :: tables_1
/-- a 'code' word, met by the world's own term for the bytes: nothing is compared byte by byte -/
theorem code_word {y : MethodName} {bytes : ByteArray} {mx : Nat} {rt : Option FieldType} {a : Array Value} {s : State} {m : MethodId} {meth : Method} {c : Code} (h1 : s.methodNamed? y = some m) (h2 : s.vm.method? m = some meth) (h3 : meth.code = some c) (h4 : c.code = bytes)
    (h5 : (c.maxLocals == mx && c.exceptionTable.isEmpty && decide (c.maxStack ≤ mostOperands) && decide (meth.sig.returnType = rt) && !meth.locks && decide (parseMethodDescriptor y.desc = some meth.sig)) = true) : (Jvm.Cond.code y bytes mx rt).before a s = true := by
  simp only [Bool.and_eq_true, beq_iff_eq, Bool.not_eq_true', decide_eq_true_eq] at h5
  obtain ⟨⟨⟨⟨⟨g1, g2⟩, g3⟩, g4⟩, g5⟩, g6⟩ := h5
  simp [Cond.before, Cond.holds, Cond.value, h1, h2, h3, h4, g1, g2, g3, g4, g5, g6]
def isCode : Jvm.Cond → Bool
  | .code _ _ _ _ => true
  | _ => false
theorem all_split {L : List Jvm.Cond} {P : Jvm.Cond → Bool} (h1 : L.all (fun c => isCode c || P c) = true) (h2 : ∀ c ∈ L.filter isCode, P c = true) : L.all P = true := by
  refine List.all_eq_true.mpr fun c hc => ?_
  have h := List.all_eq_true.mp h1 c hc
  rcases Bool.eq_false_or_eq_true (isCode c) with hi | hi
  · exact h2 c (List.mem_filter.mpr ⟨hc, hi⟩)
  · simpa [hi] using h
set_option maxRecDepth 65536 in
theorem w_c0 : (Jvm.Cond.code x code maxLocals ret).before args0 about1 = true := code_word (m := ⟨1, 1⟩) (meth := k1m1) (c := k1c1) (by decide +kernel) rfl rfl rfl (by decide +kernel)
set_option maxRecDepth 65536 in
theorem w_c1 : (Jvm.Cond.code ({ cls := "com/example/vanth/vanth/conformance/Action", name := "sendsRequest", desc := "()Z" } : Jvm.MethodName) prog_4_method_4_code (1 : Nat) (Option.some Jvm.ClassFile.FieldType.boolean)).before args0 about1 = true := code_word (m := ⟨6, 0⟩) (meth := k6m0) (c := k6c0) (by decide +kernel) rfl rfl rfl (by decide +kernel)
def codes1 : List Jvm.Cond := [Jvm.Cond.code x code maxLocals ret, Jvm.Cond.code ({ cls := "com/example/vanth/vanth/conformance/Action", name := "sendsRequest", desc := "()Z" } : Jvm.MethodName) prog_4_method_4_code (1 : Nat) (Option.some Jvm.ClassFile.FieldType.boolean)]
set_option maxRecDepth 65536 in
theorem codes_eq : words1.filter isCode = codes1 := rfl
theorem w_codes : ∀ c ∈ words1.filter isCode, c.before args0 about1 = true := by
  rw [codes_eq]
  intro c hc
  simp only [codes1, List.mem_cons, List.not_mem_nil, or_false] at hc
  rcases hc with rfl | rfl
  · exact w_c0
  · exact w_c1
set_option maxRecDepth 65536 in
theorem w_t1 : words1.all (fun c => isCode c || c.before args0 about1) = true := by decide +kernel
theorem w_tables : (allAtoms (Jvm.Cond.code x code maxLocals ret :: tables_1)).before args0 about1 = true := by
  rw [allAtoms_all]
  show words1.all (fun c => c.before args0 about1) = true
  refine all_split ?_ w_codes
  rw [w_t1]
set_option maxRecDepth 65536 in
theorem w_case : (Jvm.Cond.and given_1 narrow_1).before args0 about1 = true := by decide +kernel
theorem w_applies : (headSpec (Jvm.Cond.code x code maxLocals ret :: tables_1) room_1).applies x e0.platform about1 = true :=
  (Spec.applies_iff w_frames).mpr ⟨w_running, w_runnable, w_alone, w_named, w_hears, w_ripe, w_room, w_tables⟩
theorem atStart : AtStart classFile x code maxLocals ret World_1 tables_1 room_1 Calls_1 rest_1 Pre_1 launch0 p0 e0 about1 theMethod args0 below0 :=
  ⟨lists_1, trivial, launch0.admits_env _ _ _, launch0.least_env, fairChoices_fair.cas, fairChoices_fair.clock, w_frames, w_args, w_heap, w_applies, trivial, trivial, w_case⟩
end start1
theorem witness_1 : WitnessClaimed_1 := ⟨start1.p0, start1.e0, start1.about1, start1.theMethod, start1.args0, start1.below0, start1.atStart⟩
end Jvm.Pilot.@@N@@
