import JvmDerived
import JvmDerived.Pilot.@@N@@Statement
import JvmDerived.Pilot.@@N@@Code
set_option linter.unusedVariables false
set_option linter.unusedSimpArgs false
namespace Jvm.RoadKit
open Sem ClassFile Op Lib Jvm.Stand Jvm.Free Jvm.LawKit
section Own
variable {p : Program} {l : Launch} {e : Env} {R : Room} {s : State} {m : MethodId} {args : Array Value} {below : List Frame} {meth : Method} {c : Code} {T : State} {locs : List Loc} {cells slots : Nat}
/-- the run from U comes to its end, and the end meets Q -/
def own_Go (p : Program) (e : Env) (below : List Frame) (args : Array Value) (s : State) (Q : Array Value → State → Outcome → State → Prop) (U : State) : Prop := ∃ s₂ o, Steps p.tables e below U s₂ ∧ s₂.status = .running ∧ Ended s₂ below o ∧ Q args s o s₂
theorem own_st {Q : Array Value → State → Outcome → State → Prop} {U V : State} (k : ∀ t, Steps p.tables e below V t → Steps p.tables e below U t) (h : own_Go p e below args s Q V) : own_Go p e below args s Q U := by
  obtain ⟨s2, o, h1, h2⟩ := h
  exact ⟨s2, o, k _ h1, h2⟩
theorem own_ret {Q : Option Value → Heap → List Loc → Prop} {rc rs : Nat} (X : Stand p l e R s m args below meth c T locs cells slots) (hx : p.tables.exec = Jvm.exec) {pc : Nat} {Ls : Array Slot} {w : Value} {t : FieldType} {i : Instr} {rest : List Value} (hlk : meth.locks = false) (hret : meth.sig.returnType = some t) (hn : narrow t w = w)
    (hi : (i = .ireturn ∧ (t = .int ∨ t = .boolean ∨ t = .byte ∨ t = .char ∨ t = .short) ∧ ∃ z, w = .int z) ∨ (i = .lreturn ∧ t = .long ∧ ∃ z, w = .long z) ∨ (i = .dreturn ∧ t = .double ∧ ∃ z, w = .double z) ∨ (i = .freturn ∧ t = .float ∧ ∃ z, w = .float z) ∨ (i = .areturn ∧ t.isReference = true ∧ w.isRef = true))
    (hd : decode c.code pc = .ok (i, 1)) (hc : cells ≤ rc) (hs : slots ≤ rs) (hQ : Q (some w) T.heap locs) :
    own_Go p e below args s (fun _ U o U' => ∃ v L, o = .returned v ∧ Q v U'.heap L ∧ FrameEnd U o U' L rc rs) (T.setTop (mkF m pc Ls (w :: rest))) := by
  obtain ⟨fs, hr, hrun, hended, hW, hsame⟩ := X.leave (v := some w) (fun h => by rw [hret] at h; cases h) hlk
  exact ⟨_, _, retOut X hx hret hn hi hd hr, hrun, hended, _, _, rfl, hQ, ⟨_, rfl⟩, hW, hsame.mono hc hs⟩
theorem own_ret0 {Q : Option Value → Heap → List Loc → Prop} {rc rs : Nat} (X : Stand p l e R s m args below meth c T locs cells slots) (hx : p.tables.exec = Jvm.exec) {pc : Nat} {Ls : Array Slot} (hlk : meth.locks = false) (hret : meth.sig.returnType = none)
    (hd : decode c.code pc = .ok (.return_, 1)) (hc : cells ≤ rc) (hs : slots ≤ rs) (hQ : Q none T.heap locs) :
    own_Go p e below args s (fun _ U o U' => ∃ v L, o = .returned v ∧ Q v U'.heap L ∧ FrameEnd U o U' L rc rs) (T.setTop (mkF m pc Ls [])) := by
  obtain ⟨fs, hr, hrun, hended, hW, hsame⟩ := X.leave (v := none) (fun _ => rfl) hlk
  exact ⟨_, _, X.returnOut hx hret hd hr, hrun, hended, _, _, rfl, hQ, ⟨_, rfl⟩, hW, hsame.mono hc hs⟩
/-- what the sheet says of a static that holds an object of its class -/
theorem own_sta {Z : State} {args : Array Value} {C n d K : String} (hx : (Jvm.Cond.exactly (.static C n d) K).value args Z none Z [] = some true) (wi : (Jvm.Cond.initialized C).before args Z = true) (wl : (Jvm.Cond.laysStatic C n d).before args Z = true) :
    ∃ a, Sta Z Z.heap C n d (.ref a) ∧ Exa Z Z.heap a K ∧ (Jvm.Term.static C n d).eval args Z none [] Z = some (.ref a) := by
  obtain ⟨a, ev⟩ := exa_v hx
  exact ⟨a, Sta.start ev (Or.inr ⟨wi, wl⟩), Exa.start ev hx, ev⟩
theorem own_eqi {Z : State} {args : Array Value} {t : Jvm.Term} {k : Int32} (h : (Jvm.Cond.eq t (.int k)).value args Z none Z [] = some true) : t.eval args Z none [] Z = some (.int k) := by
  cases hv : t.eval args Z none [] Z with
  | none => simp [Cond.value, Term.eval, hv] at h
  | some v => cases v <;> simp [Cond.value, Term.eval, hv] at h ⊢ <;> exact h
theorem own_fld {Z : State} {args : Array Value} {t : Jvm.Term} {C n d : String} {a : Addr} {k : Int32} (ev : t.eval args Z none [] Z = some (.ref a)) (h : (Jvm.Cond.eq (.field t C n d) (.int k)).value args Z none Z [] = some true) : Fld Z Z.heap a C n d (.int k) :=
  Fld.start ((fld_at ev).symm.trans (own_eqi h))
end Own
end Jvm.RoadKit
namespace Jvm.Pilot.@@N@@
open Jvm Jvm.ClassFile Sem Op Lib Jvm.Free Jvm.Stand Jvm.LawKit Jvm.RoadKit Bundle Jvm.Pilot.@@N@@.Jvm.D
def own_cs : List (Nat × String) := [(0, "SCHEDULED"), (1, "AVAILABLE"), (2, "PENDING"), (3, "ACTIVE"), (4, "COMPLETED"), (5, "RETRYABLE"), (6, "CANCELLED"), (7, "DISCARDED")]
def own_En (Z : State) (h : Heap) (A : Nat → Addr) : Prop := ∀ q ∈ own_cs, Sta Z h "com/example/vanth/vanth/job/JobState" q.2 "Lcom/example/vanth/vanth/job/JobState;" (.ref (A q.1)) ∧ Exa Z h (A q.1) "com/example/vanth/vanth/job/JobState" ∧ Fld Z h (A q.1) "java/lang/Enum" "ordinal" "I" (.int (Int32.ofNat q.1))
theorem own_S {Z : State} {h : Heap} {A : Nat → Addr} (En : own_En Z h A) (k : Nat) {i : Nat} {n : String} (q : own_cs[k]? = some (i, n)) : Sta Z h "com/example/vanth/vanth/job/JobState" n "Lcom/example/vanth/vanth/job/JobState;" (.ref (A i)) := (En _ (List.mem_of_getElem? q)).1
theorem own_E {Z : State} {h : Heap} {A : Nat → Addr} (En : own_En Z h A) (k : Nat) {i : Nat} {n : String} (q : own_cs[k]? = some (i, n)) : Exa Z h (A i) "com/example/vanth/vanth/job/JobState" := (En _ (List.mem_of_getElem? q)).2.1
theorem own_O {Z : State} {h : Heap} {A : Nat → Addr} (En : own_En Z h A) (k : Nat) {i : Nat} {n : String} (q : own_cs[k]? = some (i, n)) : Fld Z h (A i) "java/lang/Enum" "ordinal" "I" (.int (Int32.ofNat i)) := (En _ (List.mem_of_getElem? q)).2.2
theorem own_ne {Z : State} {h : Heap} {A : Nat → Addr} (En : own_En Z h A) (k k' : Nat) {i j : Nat} {n n' : String} (q : own_cs[k]? = some (i, n)) (q' : own_cs[k']? = some (j, n')) (d : Int32.ofNat i ≠ Int32.ofNat j) : A i ≠ A j := (own_O En k q).ne (own_O En k' q') fun e => d (Value.int.inj e)
theorem own_En.ext {Z : State} {h h' : Heap} {A : Nat → Addr} (En : own_En Z h A) (E : Ext h h') : own_En Z h' A := fun q hq => by
  have r := En q hq
  exact ⟨r.1.ext E, r.2.1.ext E, r.2.2.ext E⟩
theorem own_En.wr {Z : State} {h h' : Heap} {A : Nat → Addr} {a : Addr} {sl : Nat} {v : Value} (En : own_En Z h A) (W : Wr h h' a sl v) (hne : ∀ q ∈ own_cs, A q.1 ≠ a) : own_En Z h' A := fun q hq => by
  have r := En q hq
  exact ⟨r.1.wr W, r.2.1.wr W, r.2.2.other W (Or.inl (hne q hq))⟩
def Q_own_m0 (Z : State) (A : Nat → Addr) (h0 : Heap) (n0 : Nat) (v : Option Value) (h : Heap) (L : List Loc) : Prop := v = some (.int (1 : Int32)) ∧ Fr n0 L ∧ h = h0
theorem own_d1_0 : decode prog_12_method_5_code 0 = .ok (.aload_n 0, 1) := by decide +kernel
theorem own_d1_1 : decode prog_12_method_5_code 1 = .ok (.getstatic 3, 3) := by decide +kernel
theorem own_d1_4 : decode prog_12_method_5_code 4 = .ok (.if_acmp .eq 10, 3) := by decide +kernel
theorem own_d1_14 : decode prog_12_method_5_code 14 = .ok (.iconst 1, 1) := by decide +kernel
theorem own_d1_15 : decode prog_12_method_5_code 15 = .ok (.goto 4, 3) := by decide +kernel
theorem own_d1_19 : decode prog_12_method_5_code 19 = .ok (.ireturn, 1) := by decide +kernel
theorem own_pn_com_example_vanth_vanth_job_JobState : plainName "com/example/vanth/vanth/job/JobState" = true := by first | (simp [plainName, overriddenIn]; done) | decide +kernel
set_option maxRecDepth 65536 in
set_option maxHeartbeats 40000000 in
theorem own_m0 (l : Launch) (Z : State) (a0 : Array Value) (hw : ∀ d ∈ tables_1, d.before a0 Z = true) (ws : List Jvm.Cond) (A : Nat → Addr) (h0 : Heap) (n0 : Nat) (Z0 : n0 ≤ h0.size) (En : own_En Z h0 A) :
    MetFree l (⟨"com/example/vanth/vanth/job/JobState", "isWaiting", "()Z"⟩ : MethodName) (head1 (Jvm.Cond.code (⟨"com/example/vanth/vanth/job/JobState", "isWaiting", "()Z"⟩ : MethodName) prog_12_method_5_code 1 (some .boolean) :: ws) ({ frames := 0, cells := 0, slots := 0, locals := 0 } : Room)) (fun a U => a = #[(.ref (A 0))] ∧ Z.Warmed39 U.vm ∧ U.heap = h0) (fun _ _ _ _ _ => True) (fun _ U o U' => ∃ v L, o = .returned v ∧ Q_own_m0 Z A h0 n0 v U'.heap L ∧ FrameEnd U o U' L ({ frames := 0, cells := 0, slots := 0, locals := 0 } : Room).cells ({ frames := 0, cells := 0, slots := 0, locals := 0 } : Room).slots) := by
  refine MetFree.of_bodySF (plainFor_of_name own_pn_com_example_vanth_vanth_job_JobState) hisR ?_
  intro p e s m args below meth c s₁ Bd hml0 hP hK
  obtain ⟨rfl, hZ, hh⟩ := hP
  have hx := Bd.exec
  have hby := Bd.bytes
  have hml : c.maxLocals = 1 := hml0
  have hown : s.vm.findClass "com/example/vanth/vanth/job/JobState" = some m.cls := findClass_of_methodNamed Bd.named
  have hnm := (name_of_methodNamed Bd.named Bd.method).1
  have hlk : meth.locks = false := BodyLoose.notSynchronized Bd
  have X0 : Stand p l e ({ frames := 0, cells := 0, slots := 0, locals := 0 } : Room) s m #[(.ref (A 0))] below meth c s₁ [] 0 0 := Stand.of_body Bd
  have e0 : s₁.heap = h0 := by rw [← hh, Bd.state]; rfl
  have N0 := Fr.nil n0
  show own_Go p e below #[(.ref (A 0))] s (fun _ U o U' => ∃ v L, o = .returned v ∧ Q_own_m0 Z A h0 n0 v U'.heap L ∧ FrameEnd U o U' L ({ frames := 0, cells := 0, slots := 0, locals := 0 } : Room).cells ({ frames := 0, cells := 0, slots := 0, locals := 0 } : Room).slots) (s₁.setTop (entryFrame m #[(.ref (A 0))] 1))
  refine own_st (V := s₁.setTop (mkF m 0 #[.val (.ref (A 0))] [])) (fun t k => castTop (by first | (simp [entryFrame, mkF, argsToLocals, Value.category]; done) | rfl) k) ?_
  refine own_st (V := s₁.setTop (mkF m 1 #[.val (.ref (A 0))] [(.ref (A 0))])) (fun t k => XS.aloadN X0.here hx rfl (hb hby own_d1_0) rfl rfl k) ?_
  obtain ⟨T1, X1, e1, st1⟩ := getS2 X0 hx hZ hown (host := "") (Or.inl (hw _ (List.mem_of_getElem? (i := 8) rfl))) Via.refl e0 (own_S En 0 (i := 0) (n := "SCHEDULED") rfl) (g := (mkF m 1 #[.val (.ref (A 0))] [(.ref (A 0))])) rfl (hb hby own_d1_1)
  refine own_st (V := T1.setTop (mkF m 4 #[.val (.ref (A 0))] [(.ref (A 0)), (.ref (A 0))])) (fun t k => st1 _ k) ?_
  refine own_st (V := T1.setTop (mkF m 14 #[.val (.ref (A 0))] [])) (fun t k => Jvm.RoadKit.acmp (g := (mkF m 4 #[.val (.ref (A 0))] [(.ref (A 0)), (.ref (A 0))])) X1 hx rfl rfl rfl (pc0 := 4) (pc' := 14) (same := true) rfl (hb hby own_d1_4) rfl (decide_eq_true rfl) (by decide) (by decide) k) ?_
  refine own_st (V := T1.setTop (mkF m 15 #[.val (.ref (A 0))] [(.int (1 : Int32))])) (fun t k => XS.iconst X1.here hx rfl (hb hby own_d1_14) k) ?_
  refine own_st (V := T1.setTop (mkF m 19 #[.val (.ref (A 0))] [(.int (1 : Int32))])) (fun t k => XS.goto X1.here hx rfl (pc0 := 15) (pc' := 19) rfl (hb hby own_d1_15) (by decide) (by decide) k) ?_
  exact own_ret X1 hx hlk Bd.returns (by decide +kernel) (Or.inl ⟨rfl, by simp, _, rfl⟩) (hb hby own_d1_19) (by decide) (by decide) (by show Q_own_m0 Z A h0 n0 _ T1.heap _; rw [e1]; exact ⟨rfl, N0, rfl⟩)
def Q_own_m1 (Z : State) (A : Nat → Addr) (h0 : Heap) (n0 : Nat) (v : Option Value) (h : Heap) (L : List Loc) : Prop := v = some (.int (0 : Int32)) ∧ Fr n0 L ∧ h = h0
theorem own_d1_7 : decode prog_12_method_5_code 7 = .ok (.aload_n 0, 1) := by decide +kernel
theorem own_d1_8 : decode prog_12_method_5_code 8 = .ok (.getstatic 19, 3) := by decide +kernel
theorem own_d1_11 : decode prog_12_method_5_code 11 = .ok (.if_acmp .ne 7, 3) := by decide +kernel
theorem own_d1_18 : decode prog_12_method_5_code 18 = .ok (.iconst 0, 1) := by decide +kernel
set_option maxRecDepth 65536 in
set_option maxHeartbeats 40000000 in
theorem own_m1 (l : Launch) (Z : State) (a0 : Array Value) (hw : ∀ d ∈ tables_1, d.before a0 Z = true) (ws : List Jvm.Cond) (A : Nat → Addr) (h0 : Heap) (n0 : Nat) (Z0 : n0 ≤ h0.size) (En : own_En Z h0 A) :
    MetFree l (⟨"com/example/vanth/vanth/job/JobState", "isWaiting", "()Z"⟩ : MethodName) (head1 (Jvm.Cond.code (⟨"com/example/vanth/vanth/job/JobState", "isWaiting", "()Z"⟩ : MethodName) prog_12_method_5_code 1 (some .boolean) :: ws) ({ frames := 0, cells := 0, slots := 0, locals := 0 } : Room)) (fun a U => a = #[(.ref (A 1))] ∧ Z.Warmed39 U.vm ∧ U.heap = h0) (fun _ _ _ _ _ => True) (fun _ U o U' => ∃ v L, o = .returned v ∧ Q_own_m1 Z A h0 n0 v U'.heap L ∧ FrameEnd U o U' L ({ frames := 0, cells := 0, slots := 0, locals := 0 } : Room).cells ({ frames := 0, cells := 0, slots := 0, locals := 0 } : Room).slots) := by
  refine MetFree.of_bodySF (plainFor_of_name own_pn_com_example_vanth_vanth_job_JobState) hisR ?_
  intro p e s m args below meth c s₁ Bd hml0 hP hK
  obtain ⟨rfl, hZ, hh⟩ := hP
  have hx := Bd.exec
  have hby := Bd.bytes
  have hml : c.maxLocals = 1 := hml0
  have hown : s.vm.findClass "com/example/vanth/vanth/job/JobState" = some m.cls := findClass_of_methodNamed Bd.named
  have hnm := (name_of_methodNamed Bd.named Bd.method).1
  have hlk : meth.locks = false := BodyLoose.notSynchronized Bd
  have X0 : Stand p l e ({ frames := 0, cells := 0, slots := 0, locals := 0 } : Room) s m #[(.ref (A 1))] below meth c s₁ [] 0 0 := Stand.of_body Bd
  have e0 : s₁.heap = h0 := by rw [← hh, Bd.state]; rfl
  have N0 := Fr.nil n0
  show own_Go p e below #[(.ref (A 1))] s (fun _ U o U' => ∃ v L, o = .returned v ∧ Q_own_m1 Z A h0 n0 v U'.heap L ∧ FrameEnd U o U' L ({ frames := 0, cells := 0, slots := 0, locals := 0 } : Room).cells ({ frames := 0, cells := 0, slots := 0, locals := 0 } : Room).slots) (s₁.setTop (entryFrame m #[(.ref (A 1))] 1))
  refine own_st (V := s₁.setTop (mkF m 0 #[.val (.ref (A 1))] [])) (fun t k => castTop (by first | (simp [entryFrame, mkF, argsToLocals, Value.category]; done) | rfl) k) ?_
  refine own_st (V := s₁.setTop (mkF m 1 #[.val (.ref (A 1))] [(.ref (A 1))])) (fun t k => XS.aloadN X0.here hx rfl (hb hby own_d1_0) rfl rfl k) ?_
  obtain ⟨T2, X2, e2, st2⟩ := getS2 X0 hx hZ hown (host := "") (Or.inl (hw _ (List.mem_of_getElem? (i := 8) rfl))) Via.refl e0 (own_S En 0 (i := 0) (n := "SCHEDULED") rfl) (g := (mkF m 1 #[.val (.ref (A 1))] [(.ref (A 1))])) rfl (hb hby own_d1_1)
  refine own_st (V := T2.setTop (mkF m 4 #[.val (.ref (A 1))] [(.ref (A 0)), (.ref (A 1))])) (fun t k => st2 _ k) ?_
  refine own_st (V := T2.setTop (mkF m 7 #[.val (.ref (A 1))] [])) (fun t k => Jvm.RoadKit.acmp (g := (mkF m 4 #[.val (.ref (A 1))] [(.ref (A 0)), (.ref (A 1))])) X2 hx rfl rfl rfl (pc0 := 4) (pc' := 7) (same := false) rfl (hb hby own_d1_4) rfl (decide_eq_false fun q => own_ne En 1 0 (i := 1) (n := "AVAILABLE") (j := 0) (n' := "SCHEDULED") rfl rfl (by decide) (Value.ref.inj q)) (by decide) (by decide) k) ?_
  refine own_st (V := T2.setTop (mkF m 8 #[.val (.ref (A 1))] [(.ref (A 1))])) (fun t k => XS.aloadN X2.here hx rfl (hb hby own_d1_7) rfl rfl k) ?_
  obtain ⟨T3, X3, e3, st3⟩ := getS2 X2 hx hZ hown (host := "") (Or.inl (hw _ (List.mem_of_getElem? (i := 11) rfl))) Via.refl e2 (own_S En 5 (i := 5) (n := "RETRYABLE") rfl) (g := (mkF m 8 #[.val (.ref (A 1))] [(.ref (A 1))])) rfl (hb hby own_d1_8)
  refine own_st (V := T3.setTop (mkF m 11 #[.val (.ref (A 1))] [(.ref (A 5)), (.ref (A 1))])) (fun t k => st3 _ k) ?_
  refine own_st (V := T3.setTop (mkF m 18 #[.val (.ref (A 1))] [])) (fun t k => Jvm.RoadKit.acmp (g := (mkF m 11 #[.val (.ref (A 1))] [(.ref (A 5)), (.ref (A 1))])) X3 hx rfl rfl rfl (pc0 := 11) (pc' := 18) (same := false) rfl (hb hby own_d1_11) rfl (decide_eq_false fun q => own_ne En 1 5 (i := 1) (n := "AVAILABLE") (j := 5) (n' := "RETRYABLE") rfl rfl (by decide) (Value.ref.inj q)) (by decide) (by decide) k) ?_
  refine own_st (V := T3.setTop (mkF m 19 #[.val (.ref (A 1))] [(.int (0 : Int32))])) (fun t k => XS.iconst X3.here hx rfl (hb hby own_d1_18) k) ?_
  exact own_ret X3 hx hlk Bd.returns (by decide +kernel) (Or.inl ⟨rfl, by simp, _, rfl⟩) (hb hby own_d1_19) (by decide) (by decide) (by show Q_own_m1 Z A h0 n0 _ T3.heap _; rw [e3]; exact ⟨rfl, N0, rfl⟩)
def Q_own_m2 (Z : State) (A : Nat → Addr) (h0 : Heap) (n0 : Nat) (v : Option Value) (h : Heap) (L : List Loc) : Prop := v = some (.int (0 : Int32)) ∧ Fr n0 L ∧ h = h0
set_option maxRecDepth 65536 in
set_option maxHeartbeats 40000000 in
theorem own_m2 (l : Launch) (Z : State) (a0 : Array Value) (hw : ∀ d ∈ tables_1, d.before a0 Z = true) (ws : List Jvm.Cond) (A : Nat → Addr) (h0 : Heap) (n0 : Nat) (Z0 : n0 ≤ h0.size) (En : own_En Z h0 A) :
    MetFree l (⟨"com/example/vanth/vanth/job/JobState", "isWaiting", "()Z"⟩ : MethodName) (head1 (Jvm.Cond.code (⟨"com/example/vanth/vanth/job/JobState", "isWaiting", "()Z"⟩ : MethodName) prog_12_method_5_code 1 (some .boolean) :: ws) ({ frames := 0, cells := 0, slots := 0, locals := 0 } : Room)) (fun a U => a = #[(.ref (A 2))] ∧ Z.Warmed39 U.vm ∧ U.heap = h0) (fun _ _ _ _ _ => True) (fun _ U o U' => ∃ v L, o = .returned v ∧ Q_own_m2 Z A h0 n0 v U'.heap L ∧ FrameEnd U o U' L ({ frames := 0, cells := 0, slots := 0, locals := 0 } : Room).cells ({ frames := 0, cells := 0, slots := 0, locals := 0 } : Room).slots) := by
  refine MetFree.of_bodySF (plainFor_of_name own_pn_com_example_vanth_vanth_job_JobState) hisR ?_
  intro p e s m args below meth c s₁ Bd hml0 hP hK
  obtain ⟨rfl, hZ, hh⟩ := hP
  have hx := Bd.exec
  have hby := Bd.bytes
  have hml : c.maxLocals = 1 := hml0
  have hown : s.vm.findClass "com/example/vanth/vanth/job/JobState" = some m.cls := findClass_of_methodNamed Bd.named
  have hnm := (name_of_methodNamed Bd.named Bd.method).1
  have hlk : meth.locks = false := BodyLoose.notSynchronized Bd
  have X0 : Stand p l e ({ frames := 0, cells := 0, slots := 0, locals := 0 } : Room) s m #[(.ref (A 2))] below meth c s₁ [] 0 0 := Stand.of_body Bd
  have e0 : s₁.heap = h0 := by rw [← hh, Bd.state]; rfl
  have N0 := Fr.nil n0
  show own_Go p e below #[(.ref (A 2))] s (fun _ U o U' => ∃ v L, o = .returned v ∧ Q_own_m2 Z A h0 n0 v U'.heap L ∧ FrameEnd U o U' L ({ frames := 0, cells := 0, slots := 0, locals := 0 } : Room).cells ({ frames := 0, cells := 0, slots := 0, locals := 0 } : Room).slots) (s₁.setTop (entryFrame m #[(.ref (A 2))] 1))
  refine own_st (V := s₁.setTop (mkF m 0 #[.val (.ref (A 2))] [])) (fun t k => castTop (by first | (simp [entryFrame, mkF, argsToLocals, Value.category]; done) | rfl) k) ?_
  refine own_st (V := s₁.setTop (mkF m 1 #[.val (.ref (A 2))] [(.ref (A 2))])) (fun t k => XS.aloadN X0.here hx rfl (hb hby own_d1_0) rfl rfl k) ?_
  obtain ⟨T4, X4, e4, st4⟩ := getS2 X0 hx hZ hown (host := "") (Or.inl (hw _ (List.mem_of_getElem? (i := 8) rfl))) Via.refl e0 (own_S En 0 (i := 0) (n := "SCHEDULED") rfl) (g := (mkF m 1 #[.val (.ref (A 2))] [(.ref (A 2))])) rfl (hb hby own_d1_1)
  refine own_st (V := T4.setTop (mkF m 4 #[.val (.ref (A 2))] [(.ref (A 0)), (.ref (A 2))])) (fun t k => st4 _ k) ?_
  refine own_st (V := T4.setTop (mkF m 7 #[.val (.ref (A 2))] [])) (fun t k => Jvm.RoadKit.acmp (g := (mkF m 4 #[.val (.ref (A 2))] [(.ref (A 0)), (.ref (A 2))])) X4 hx rfl rfl rfl (pc0 := 4) (pc' := 7) (same := false) rfl (hb hby own_d1_4) rfl (decide_eq_false fun q => own_ne En 2 0 (i := 2) (n := "PENDING") (j := 0) (n' := "SCHEDULED") rfl rfl (by decide) (Value.ref.inj q)) (by decide) (by decide) k) ?_
  refine own_st (V := T4.setTop (mkF m 8 #[.val (.ref (A 2))] [(.ref (A 2))])) (fun t k => XS.aloadN X4.here hx rfl (hb hby own_d1_7) rfl rfl k) ?_
  obtain ⟨T5, X5, e5, st5⟩ := getS2 X4 hx hZ hown (host := "") (Or.inl (hw _ (List.mem_of_getElem? (i := 11) rfl))) Via.refl e4 (own_S En 5 (i := 5) (n := "RETRYABLE") rfl) (g := (mkF m 8 #[.val (.ref (A 2))] [(.ref (A 2))])) rfl (hb hby own_d1_8)
  refine own_st (V := T5.setTop (mkF m 11 #[.val (.ref (A 2))] [(.ref (A 5)), (.ref (A 2))])) (fun t k => st5 _ k) ?_
  refine own_st (V := T5.setTop (mkF m 18 #[.val (.ref (A 2))] [])) (fun t k => Jvm.RoadKit.acmp (g := (mkF m 11 #[.val (.ref (A 2))] [(.ref (A 5)), (.ref (A 2))])) X5 hx rfl rfl rfl (pc0 := 11) (pc' := 18) (same := false) rfl (hb hby own_d1_11) rfl (decide_eq_false fun q => own_ne En 2 5 (i := 2) (n := "PENDING") (j := 5) (n' := "RETRYABLE") rfl rfl (by decide) (Value.ref.inj q)) (by decide) (by decide) k) ?_
  refine own_st (V := T5.setTop (mkF m 19 #[.val (.ref (A 2))] [(.int (0 : Int32))])) (fun t k => XS.iconst X5.here hx rfl (hb hby own_d1_18) k) ?_
  exact own_ret X5 hx hlk Bd.returns (by decide +kernel) (Or.inl ⟨rfl, by simp, _, rfl⟩) (hb hby own_d1_19) (by decide) (by decide) (by show Q_own_m2 Z A h0 n0 _ T5.heap _; rw [e5]; exact ⟨rfl, N0, rfl⟩)
def Q_own_m3 (Z : State) (A : Nat → Addr) (h0 : Heap) (n0 : Nat) (v : Option Value) (h : Heap) (L : List Loc) : Prop := v = some (.int (0 : Int32)) ∧ Fr n0 L ∧ h = h0
set_option maxRecDepth 65536 in
set_option maxHeartbeats 40000000 in
theorem own_m3 (l : Launch) (Z : State) (a0 : Array Value) (hw : ∀ d ∈ tables_1, d.before a0 Z = true) (ws : List Jvm.Cond) (A : Nat → Addr) (h0 : Heap) (n0 : Nat) (Z0 : n0 ≤ h0.size) (En : own_En Z h0 A) :
    MetFree l (⟨"com/example/vanth/vanth/job/JobState", "isWaiting", "()Z"⟩ : MethodName) (head1 (Jvm.Cond.code (⟨"com/example/vanth/vanth/job/JobState", "isWaiting", "()Z"⟩ : MethodName) prog_12_method_5_code 1 (some .boolean) :: ws) ({ frames := 0, cells := 0, slots := 0, locals := 0 } : Room)) (fun a U => a = #[(.ref (A 3))] ∧ Z.Warmed39 U.vm ∧ U.heap = h0) (fun _ _ _ _ _ => True) (fun _ U o U' => ∃ v L, o = .returned v ∧ Q_own_m3 Z A h0 n0 v U'.heap L ∧ FrameEnd U o U' L ({ frames := 0, cells := 0, slots := 0, locals := 0 } : Room).cells ({ frames := 0, cells := 0, slots := 0, locals := 0 } : Room).slots) := by
  refine MetFree.of_bodySF (plainFor_of_name own_pn_com_example_vanth_vanth_job_JobState) hisR ?_
  intro p e s m args below meth c s₁ Bd hml0 hP hK
  obtain ⟨rfl, hZ, hh⟩ := hP
  have hx := Bd.exec
  have hby := Bd.bytes
  have hml : c.maxLocals = 1 := hml0
  have hown : s.vm.findClass "com/example/vanth/vanth/job/JobState" = some m.cls := findClass_of_methodNamed Bd.named
  have hnm := (name_of_methodNamed Bd.named Bd.method).1
  have hlk : meth.locks = false := BodyLoose.notSynchronized Bd
  have X0 : Stand p l e ({ frames := 0, cells := 0, slots := 0, locals := 0 } : Room) s m #[(.ref (A 3))] below meth c s₁ [] 0 0 := Stand.of_body Bd
  have e0 : s₁.heap = h0 := by rw [← hh, Bd.state]; rfl
  have N0 := Fr.nil n0
  show own_Go p e below #[(.ref (A 3))] s (fun _ U o U' => ∃ v L, o = .returned v ∧ Q_own_m3 Z A h0 n0 v U'.heap L ∧ FrameEnd U o U' L ({ frames := 0, cells := 0, slots := 0, locals := 0 } : Room).cells ({ frames := 0, cells := 0, slots := 0, locals := 0 } : Room).slots) (s₁.setTop (entryFrame m #[(.ref (A 3))] 1))
  refine own_st (V := s₁.setTop (mkF m 0 #[.val (.ref (A 3))] [])) (fun t k => castTop (by first | (simp [entryFrame, mkF, argsToLocals, Value.category]; done) | rfl) k) ?_
  refine own_st (V := s₁.setTop (mkF m 1 #[.val (.ref (A 3))] [(.ref (A 3))])) (fun t k => XS.aloadN X0.here hx rfl (hb hby own_d1_0) rfl rfl k) ?_
  obtain ⟨T6, X6, e6, st6⟩ := getS2 X0 hx hZ hown (host := "") (Or.inl (hw _ (List.mem_of_getElem? (i := 8) rfl))) Via.refl e0 (own_S En 0 (i := 0) (n := "SCHEDULED") rfl) (g := (mkF m 1 #[.val (.ref (A 3))] [(.ref (A 3))])) rfl (hb hby own_d1_1)
  refine own_st (V := T6.setTop (mkF m 4 #[.val (.ref (A 3))] [(.ref (A 0)), (.ref (A 3))])) (fun t k => st6 _ k) ?_
  refine own_st (V := T6.setTop (mkF m 7 #[.val (.ref (A 3))] [])) (fun t k => Jvm.RoadKit.acmp (g := (mkF m 4 #[.val (.ref (A 3))] [(.ref (A 0)), (.ref (A 3))])) X6 hx rfl rfl rfl (pc0 := 4) (pc' := 7) (same := false) rfl (hb hby own_d1_4) rfl (decide_eq_false fun q => own_ne En 3 0 (i := 3) (n := "ACTIVE") (j := 0) (n' := "SCHEDULED") rfl rfl (by decide) (Value.ref.inj q)) (by decide) (by decide) k) ?_
  refine own_st (V := T6.setTop (mkF m 8 #[.val (.ref (A 3))] [(.ref (A 3))])) (fun t k => XS.aloadN X6.here hx rfl (hb hby own_d1_7) rfl rfl k) ?_
  obtain ⟨T7, X7, e7, st7⟩ := getS2 X6 hx hZ hown (host := "") (Or.inl (hw _ (List.mem_of_getElem? (i := 11) rfl))) Via.refl e6 (own_S En 5 (i := 5) (n := "RETRYABLE") rfl) (g := (mkF m 8 #[.val (.ref (A 3))] [(.ref (A 3))])) rfl (hb hby own_d1_8)
  refine own_st (V := T7.setTop (mkF m 11 #[.val (.ref (A 3))] [(.ref (A 5)), (.ref (A 3))])) (fun t k => st7 _ k) ?_
  refine own_st (V := T7.setTop (mkF m 18 #[.val (.ref (A 3))] [])) (fun t k => Jvm.RoadKit.acmp (g := (mkF m 11 #[.val (.ref (A 3))] [(.ref (A 5)), (.ref (A 3))])) X7 hx rfl rfl rfl (pc0 := 11) (pc' := 18) (same := false) rfl (hb hby own_d1_11) rfl (decide_eq_false fun q => own_ne En 3 5 (i := 3) (n := "ACTIVE") (j := 5) (n' := "RETRYABLE") rfl rfl (by decide) (Value.ref.inj q)) (by decide) (by decide) k) ?_
  refine own_st (V := T7.setTop (mkF m 19 #[.val (.ref (A 3))] [(.int (0 : Int32))])) (fun t k => XS.iconst X7.here hx rfl (hb hby own_d1_18) k) ?_
  exact own_ret X7 hx hlk Bd.returns (by decide +kernel) (Or.inl ⟨rfl, by simp, _, rfl⟩) (hb hby own_d1_19) (by decide) (by decide) (by show Q_own_m3 Z A h0 n0 _ T7.heap _; rw [e7]; exact ⟨rfl, N0, rfl⟩)
def Q_own_m4 (Z : State) (A : Nat → Addr) (h0 : Heap) (n0 : Nat) (v : Option Value) (h : Heap) (L : List Loc) : Prop := v = some (.int (0 : Int32)) ∧ Fr n0 L ∧ h = h0
set_option maxRecDepth 65536 in
set_option maxHeartbeats 40000000 in
theorem own_m4 (l : Launch) (Z : State) (a0 : Array Value) (hw : ∀ d ∈ tables_1, d.before a0 Z = true) (ws : List Jvm.Cond) (A : Nat → Addr) (h0 : Heap) (n0 : Nat) (Z0 : n0 ≤ h0.size) (En : own_En Z h0 A) :
    MetFree l (⟨"com/example/vanth/vanth/job/JobState", "isWaiting", "()Z"⟩ : MethodName) (head1 (Jvm.Cond.code (⟨"com/example/vanth/vanth/job/JobState", "isWaiting", "()Z"⟩ : MethodName) prog_12_method_5_code 1 (some .boolean) :: ws) ({ frames := 0, cells := 0, slots := 0, locals := 0 } : Room)) (fun a U => a = #[(.ref (A 4))] ∧ Z.Warmed39 U.vm ∧ U.heap = h0) (fun _ _ _ _ _ => True) (fun _ U o U' => ∃ v L, o = .returned v ∧ Q_own_m4 Z A h0 n0 v U'.heap L ∧ FrameEnd U o U' L ({ frames := 0, cells := 0, slots := 0, locals := 0 } : Room).cells ({ frames := 0, cells := 0, slots := 0, locals := 0 } : Room).slots) := by
  refine MetFree.of_bodySF (plainFor_of_name own_pn_com_example_vanth_vanth_job_JobState) hisR ?_
  intro p e s m args below meth c s₁ Bd hml0 hP hK
  obtain ⟨rfl, hZ, hh⟩ := hP
  have hx := Bd.exec
  have hby := Bd.bytes
  have hml : c.maxLocals = 1 := hml0
  have hown : s.vm.findClass "com/example/vanth/vanth/job/JobState" = some m.cls := findClass_of_methodNamed Bd.named
  have hnm := (name_of_methodNamed Bd.named Bd.method).1
  have hlk : meth.locks = false := BodyLoose.notSynchronized Bd
  have X0 : Stand p l e ({ frames := 0, cells := 0, slots := 0, locals := 0 } : Room) s m #[(.ref (A 4))] below meth c s₁ [] 0 0 := Stand.of_body Bd
  have e0 : s₁.heap = h0 := by rw [← hh, Bd.state]; rfl
  have N0 := Fr.nil n0
  show own_Go p e below #[(.ref (A 4))] s (fun _ U o U' => ∃ v L, o = .returned v ∧ Q_own_m4 Z A h0 n0 v U'.heap L ∧ FrameEnd U o U' L ({ frames := 0, cells := 0, slots := 0, locals := 0 } : Room).cells ({ frames := 0, cells := 0, slots := 0, locals := 0 } : Room).slots) (s₁.setTop (entryFrame m #[(.ref (A 4))] 1))
  refine own_st (V := s₁.setTop (mkF m 0 #[.val (.ref (A 4))] [])) (fun t k => castTop (by first | (simp [entryFrame, mkF, argsToLocals, Value.category]; done) | rfl) k) ?_
  refine own_st (V := s₁.setTop (mkF m 1 #[.val (.ref (A 4))] [(.ref (A 4))])) (fun t k => XS.aloadN X0.here hx rfl (hb hby own_d1_0) rfl rfl k) ?_
  obtain ⟨T8, X8, e8, st8⟩ := getS2 X0 hx hZ hown (host := "") (Or.inl (hw _ (List.mem_of_getElem? (i := 8) rfl))) Via.refl e0 (own_S En 0 (i := 0) (n := "SCHEDULED") rfl) (g := (mkF m 1 #[.val (.ref (A 4))] [(.ref (A 4))])) rfl (hb hby own_d1_1)
  refine own_st (V := T8.setTop (mkF m 4 #[.val (.ref (A 4))] [(.ref (A 0)), (.ref (A 4))])) (fun t k => st8 _ k) ?_
  refine own_st (V := T8.setTop (mkF m 7 #[.val (.ref (A 4))] [])) (fun t k => Jvm.RoadKit.acmp (g := (mkF m 4 #[.val (.ref (A 4))] [(.ref (A 0)), (.ref (A 4))])) X8 hx rfl rfl rfl (pc0 := 4) (pc' := 7) (same := false) rfl (hb hby own_d1_4) rfl (decide_eq_false fun q => own_ne En 4 0 (i := 4) (n := "COMPLETED") (j := 0) (n' := "SCHEDULED") rfl rfl (by decide) (Value.ref.inj q)) (by decide) (by decide) k) ?_
  refine own_st (V := T8.setTop (mkF m 8 #[.val (.ref (A 4))] [(.ref (A 4))])) (fun t k => XS.aloadN X8.here hx rfl (hb hby own_d1_7) rfl rfl k) ?_
  obtain ⟨T9, X9, e9, st9⟩ := getS2 X8 hx hZ hown (host := "") (Or.inl (hw _ (List.mem_of_getElem? (i := 11) rfl))) Via.refl e8 (own_S En 5 (i := 5) (n := "RETRYABLE") rfl) (g := (mkF m 8 #[.val (.ref (A 4))] [(.ref (A 4))])) rfl (hb hby own_d1_8)
  refine own_st (V := T9.setTop (mkF m 11 #[.val (.ref (A 4))] [(.ref (A 5)), (.ref (A 4))])) (fun t k => st9 _ k) ?_
  refine own_st (V := T9.setTop (mkF m 18 #[.val (.ref (A 4))] [])) (fun t k => Jvm.RoadKit.acmp (g := (mkF m 11 #[.val (.ref (A 4))] [(.ref (A 5)), (.ref (A 4))])) X9 hx rfl rfl rfl (pc0 := 11) (pc' := 18) (same := false) rfl (hb hby own_d1_11) rfl (decide_eq_false fun q => own_ne En 4 5 (i := 4) (n := "COMPLETED") (j := 5) (n' := "RETRYABLE") rfl rfl (by decide) (Value.ref.inj q)) (by decide) (by decide) k) ?_
  refine own_st (V := T9.setTop (mkF m 19 #[.val (.ref (A 4))] [(.int (0 : Int32))])) (fun t k => XS.iconst X9.here hx rfl (hb hby own_d1_18) k) ?_
  exact own_ret X9 hx hlk Bd.returns (by decide +kernel) (Or.inl ⟨rfl, by simp, _, rfl⟩) (hb hby own_d1_19) (by decide) (by decide) (by show Q_own_m4 Z A h0 n0 _ T9.heap _; rw [e9]; exact ⟨rfl, N0, rfl⟩)
def Q_own_m5 (Z : State) (A : Nat → Addr) (h0 : Heap) (n0 : Nat) (v : Option Value) (h : Heap) (L : List Loc) : Prop := v = some (.int (1 : Int32)) ∧ Fr n0 L ∧ h = h0
set_option maxRecDepth 65536 in
set_option maxHeartbeats 40000000 in
theorem own_m5 (l : Launch) (Z : State) (a0 : Array Value) (hw : ∀ d ∈ tables_1, d.before a0 Z = true) (ws : List Jvm.Cond) (A : Nat → Addr) (h0 : Heap) (n0 : Nat) (Z0 : n0 ≤ h0.size) (En : own_En Z h0 A) :
    MetFree l (⟨"com/example/vanth/vanth/job/JobState", "isWaiting", "()Z"⟩ : MethodName) (head1 (Jvm.Cond.code (⟨"com/example/vanth/vanth/job/JobState", "isWaiting", "()Z"⟩ : MethodName) prog_12_method_5_code 1 (some .boolean) :: ws) ({ frames := 0, cells := 0, slots := 0, locals := 0 } : Room)) (fun a U => a = #[(.ref (A 5))] ∧ Z.Warmed39 U.vm ∧ U.heap = h0) (fun _ _ _ _ _ => True) (fun _ U o U' => ∃ v L, o = .returned v ∧ Q_own_m5 Z A h0 n0 v U'.heap L ∧ FrameEnd U o U' L ({ frames := 0, cells := 0, slots := 0, locals := 0 } : Room).cells ({ frames := 0, cells := 0, slots := 0, locals := 0 } : Room).slots) := by
  refine MetFree.of_bodySF (plainFor_of_name own_pn_com_example_vanth_vanth_job_JobState) hisR ?_
  intro p e s m args below meth c s₁ Bd hml0 hP hK
  obtain ⟨rfl, hZ, hh⟩ := hP
  have hx := Bd.exec
  have hby := Bd.bytes
  have hml : c.maxLocals = 1 := hml0
  have hown : s.vm.findClass "com/example/vanth/vanth/job/JobState" = some m.cls := findClass_of_methodNamed Bd.named
  have hnm := (name_of_methodNamed Bd.named Bd.method).1
  have hlk : meth.locks = false := BodyLoose.notSynchronized Bd
  have X0 : Stand p l e ({ frames := 0, cells := 0, slots := 0, locals := 0 } : Room) s m #[(.ref (A 5))] below meth c s₁ [] 0 0 := Stand.of_body Bd
  have e0 : s₁.heap = h0 := by rw [← hh, Bd.state]; rfl
  have N0 := Fr.nil n0
  show own_Go p e below #[(.ref (A 5))] s (fun _ U o U' => ∃ v L, o = .returned v ∧ Q_own_m5 Z A h0 n0 v U'.heap L ∧ FrameEnd U o U' L ({ frames := 0, cells := 0, slots := 0, locals := 0 } : Room).cells ({ frames := 0, cells := 0, slots := 0, locals := 0 } : Room).slots) (s₁.setTop (entryFrame m #[(.ref (A 5))] 1))
  refine own_st (V := s₁.setTop (mkF m 0 #[.val (.ref (A 5))] [])) (fun t k => castTop (by first | (simp [entryFrame, mkF, argsToLocals, Value.category]; done) | rfl) k) ?_
  refine own_st (V := s₁.setTop (mkF m 1 #[.val (.ref (A 5))] [(.ref (A 5))])) (fun t k => XS.aloadN X0.here hx rfl (hb hby own_d1_0) rfl rfl k) ?_
  obtain ⟨T10, X10, e10, st10⟩ := getS2 X0 hx hZ hown (host := "") (Or.inl (hw _ (List.mem_of_getElem? (i := 8) rfl))) Via.refl e0 (own_S En 0 (i := 0) (n := "SCHEDULED") rfl) (g := (mkF m 1 #[.val (.ref (A 5))] [(.ref (A 5))])) rfl (hb hby own_d1_1)
  refine own_st (V := T10.setTop (mkF m 4 #[.val (.ref (A 5))] [(.ref (A 0)), (.ref (A 5))])) (fun t k => st10 _ k) ?_
  refine own_st (V := T10.setTop (mkF m 7 #[.val (.ref (A 5))] [])) (fun t k => Jvm.RoadKit.acmp (g := (mkF m 4 #[.val (.ref (A 5))] [(.ref (A 0)), (.ref (A 5))])) X10 hx rfl rfl rfl (pc0 := 4) (pc' := 7) (same := false) rfl (hb hby own_d1_4) rfl (decide_eq_false fun q => own_ne En 5 0 (i := 5) (n := "RETRYABLE") (j := 0) (n' := "SCHEDULED") rfl rfl (by decide) (Value.ref.inj q)) (by decide) (by decide) k) ?_
  refine own_st (V := T10.setTop (mkF m 8 #[.val (.ref (A 5))] [(.ref (A 5))])) (fun t k => XS.aloadN X10.here hx rfl (hb hby own_d1_7) rfl rfl k) ?_
  obtain ⟨T11, X11, e11, st11⟩ := getS2 X10 hx hZ hown (host := "") (Or.inl (hw _ (List.mem_of_getElem? (i := 11) rfl))) Via.refl e10 (own_S En 5 (i := 5) (n := "RETRYABLE") rfl) (g := (mkF m 8 #[.val (.ref (A 5))] [(.ref (A 5))])) rfl (hb hby own_d1_8)
  refine own_st (V := T11.setTop (mkF m 11 #[.val (.ref (A 5))] [(.ref (A 5)), (.ref (A 5))])) (fun t k => st11 _ k) ?_
  refine own_st (V := T11.setTop (mkF m 14 #[.val (.ref (A 5))] [])) (fun t k => Jvm.RoadKit.acmp (g := (mkF m 11 #[.val (.ref (A 5))] [(.ref (A 5)), (.ref (A 5))])) X11 hx rfl rfl rfl (pc0 := 11) (pc' := 14) (same := true) rfl (hb hby own_d1_11) rfl (decide_eq_true rfl) (by decide) (by decide) k) ?_
  refine own_st (V := T11.setTop (mkF m 15 #[.val (.ref (A 5))] [(.int (1 : Int32))])) (fun t k => XS.iconst X11.here hx rfl (hb hby own_d1_14) k) ?_
  refine own_st (V := T11.setTop (mkF m 19 #[.val (.ref (A 5))] [(.int (1 : Int32))])) (fun t k => XS.goto X11.here hx rfl (pc0 := 15) (pc' := 19) rfl (hb hby own_d1_15) (by decide) (by decide) k) ?_
  exact own_ret X11 hx hlk Bd.returns (by decide +kernel) (Or.inl ⟨rfl, by simp, _, rfl⟩) (hb hby own_d1_19) (by decide) (by decide) (by show Q_own_m5 Z A h0 n0 _ T11.heap _; rw [e11]; exact ⟨rfl, N0, rfl⟩)
def Q_own_m6 (Z : State) (A : Nat → Addr) (h0 : Heap) (n0 : Nat) (v : Option Value) (h : Heap) (L : List Loc) : Prop := v = some (.int (0 : Int32)) ∧ Fr n0 L ∧ h = h0
set_option maxRecDepth 65536 in
set_option maxHeartbeats 40000000 in
theorem own_m6 (l : Launch) (Z : State) (a0 : Array Value) (hw : ∀ d ∈ tables_1, d.before a0 Z = true) (ws : List Jvm.Cond) (A : Nat → Addr) (h0 : Heap) (n0 : Nat) (Z0 : n0 ≤ h0.size) (En : own_En Z h0 A) :
    MetFree l (⟨"com/example/vanth/vanth/job/JobState", "isWaiting", "()Z"⟩ : MethodName) (head1 (Jvm.Cond.code (⟨"com/example/vanth/vanth/job/JobState", "isWaiting", "()Z"⟩ : MethodName) prog_12_method_5_code 1 (some .boolean) :: ws) ({ frames := 0, cells := 0, slots := 0, locals := 0 } : Room)) (fun a U => a = #[(.ref (A 6))] ∧ Z.Warmed39 U.vm ∧ U.heap = h0) (fun _ _ _ _ _ => True) (fun _ U o U' => ∃ v L, o = .returned v ∧ Q_own_m6 Z A h0 n0 v U'.heap L ∧ FrameEnd U o U' L ({ frames := 0, cells := 0, slots := 0, locals := 0 } : Room).cells ({ frames := 0, cells := 0, slots := 0, locals := 0 } : Room).slots) := by
  refine MetFree.of_bodySF (plainFor_of_name own_pn_com_example_vanth_vanth_job_JobState) hisR ?_
  intro p e s m args below meth c s₁ Bd hml0 hP hK
  obtain ⟨rfl, hZ, hh⟩ := hP
  have hx := Bd.exec
  have hby := Bd.bytes
  have hml : c.maxLocals = 1 := hml0
  have hown : s.vm.findClass "com/example/vanth/vanth/job/JobState" = some m.cls := findClass_of_methodNamed Bd.named
  have hnm := (name_of_methodNamed Bd.named Bd.method).1
  have hlk : meth.locks = false := BodyLoose.notSynchronized Bd
  have X0 : Stand p l e ({ frames := 0, cells := 0, slots := 0, locals := 0 } : Room) s m #[(.ref (A 6))] below meth c s₁ [] 0 0 := Stand.of_body Bd
  have e0 : s₁.heap = h0 := by rw [← hh, Bd.state]; rfl
  have N0 := Fr.nil n0
  show own_Go p e below #[(.ref (A 6))] s (fun _ U o U' => ∃ v L, o = .returned v ∧ Q_own_m6 Z A h0 n0 v U'.heap L ∧ FrameEnd U o U' L ({ frames := 0, cells := 0, slots := 0, locals := 0 } : Room).cells ({ frames := 0, cells := 0, slots := 0, locals := 0 } : Room).slots) (s₁.setTop (entryFrame m #[(.ref (A 6))] 1))
  refine own_st (V := s₁.setTop (mkF m 0 #[.val (.ref (A 6))] [])) (fun t k => castTop (by first | (simp [entryFrame, mkF, argsToLocals, Value.category]; done) | rfl) k) ?_
  refine own_st (V := s₁.setTop (mkF m 1 #[.val (.ref (A 6))] [(.ref (A 6))])) (fun t k => XS.aloadN X0.here hx rfl (hb hby own_d1_0) rfl rfl k) ?_
  obtain ⟨T12, X12, e12, st12⟩ := getS2 X0 hx hZ hown (host := "") (Or.inl (hw _ (List.mem_of_getElem? (i := 8) rfl))) Via.refl e0 (own_S En 0 (i := 0) (n := "SCHEDULED") rfl) (g := (mkF m 1 #[.val (.ref (A 6))] [(.ref (A 6))])) rfl (hb hby own_d1_1)
  refine own_st (V := T12.setTop (mkF m 4 #[.val (.ref (A 6))] [(.ref (A 0)), (.ref (A 6))])) (fun t k => st12 _ k) ?_
  refine own_st (V := T12.setTop (mkF m 7 #[.val (.ref (A 6))] [])) (fun t k => Jvm.RoadKit.acmp (g := (mkF m 4 #[.val (.ref (A 6))] [(.ref (A 0)), (.ref (A 6))])) X12 hx rfl rfl rfl (pc0 := 4) (pc' := 7) (same := false) rfl (hb hby own_d1_4) rfl (decide_eq_false fun q => own_ne En 6 0 (i := 6) (n := "CANCELLED") (j := 0) (n' := "SCHEDULED") rfl rfl (by decide) (Value.ref.inj q)) (by decide) (by decide) k) ?_
  refine own_st (V := T12.setTop (mkF m 8 #[.val (.ref (A 6))] [(.ref (A 6))])) (fun t k => XS.aloadN X12.here hx rfl (hb hby own_d1_7) rfl rfl k) ?_
  obtain ⟨T13, X13, e13, st13⟩ := getS2 X12 hx hZ hown (host := "") (Or.inl (hw _ (List.mem_of_getElem? (i := 11) rfl))) Via.refl e12 (own_S En 5 (i := 5) (n := "RETRYABLE") rfl) (g := (mkF m 8 #[.val (.ref (A 6))] [(.ref (A 6))])) rfl (hb hby own_d1_8)
  refine own_st (V := T13.setTop (mkF m 11 #[.val (.ref (A 6))] [(.ref (A 5)), (.ref (A 6))])) (fun t k => st13 _ k) ?_
  refine own_st (V := T13.setTop (mkF m 18 #[.val (.ref (A 6))] [])) (fun t k => Jvm.RoadKit.acmp (g := (mkF m 11 #[.val (.ref (A 6))] [(.ref (A 5)), (.ref (A 6))])) X13 hx rfl rfl rfl (pc0 := 11) (pc' := 18) (same := false) rfl (hb hby own_d1_11) rfl (decide_eq_false fun q => own_ne En 6 5 (i := 6) (n := "CANCELLED") (j := 5) (n' := "RETRYABLE") rfl rfl (by decide) (Value.ref.inj q)) (by decide) (by decide) k) ?_
  refine own_st (V := T13.setTop (mkF m 19 #[.val (.ref (A 6))] [(.int (0 : Int32))])) (fun t k => XS.iconst X13.here hx rfl (hb hby own_d1_18) k) ?_
  exact own_ret X13 hx hlk Bd.returns (by decide +kernel) (Or.inl ⟨rfl, by simp, _, rfl⟩) (hb hby own_d1_19) (by decide) (by decide) (by show Q_own_m6 Z A h0 n0 _ T13.heap _; rw [e13]; exact ⟨rfl, N0, rfl⟩)
def Q_own_m7 (Z : State) (A : Nat → Addr) (h0 : Heap) (n0 : Nat) (v : Option Value) (h : Heap) (L : List Loc) : Prop := v = some (.int (0 : Int32)) ∧ Fr n0 L ∧ h = h0
set_option maxRecDepth 65536 in
set_option maxHeartbeats 40000000 in
theorem own_m7 (l : Launch) (Z : State) (a0 : Array Value) (hw : ∀ d ∈ tables_1, d.before a0 Z = true) (ws : List Jvm.Cond) (A : Nat → Addr) (h0 : Heap) (n0 : Nat) (Z0 : n0 ≤ h0.size) (En : own_En Z h0 A) :
    MetFree l (⟨"com/example/vanth/vanth/job/JobState", "isWaiting", "()Z"⟩ : MethodName) (head1 (Jvm.Cond.code (⟨"com/example/vanth/vanth/job/JobState", "isWaiting", "()Z"⟩ : MethodName) prog_12_method_5_code 1 (some .boolean) :: ws) ({ frames := 0, cells := 0, slots := 0, locals := 0 } : Room)) (fun a U => a = #[(.ref (A 7))] ∧ Z.Warmed39 U.vm ∧ U.heap = h0) (fun _ _ _ _ _ => True) (fun _ U o U' => ∃ v L, o = .returned v ∧ Q_own_m7 Z A h0 n0 v U'.heap L ∧ FrameEnd U o U' L ({ frames := 0, cells := 0, slots := 0, locals := 0 } : Room).cells ({ frames := 0, cells := 0, slots := 0, locals := 0 } : Room).slots) := by
  refine MetFree.of_bodySF (plainFor_of_name own_pn_com_example_vanth_vanth_job_JobState) hisR ?_
  intro p e s m args below meth c s₁ Bd hml0 hP hK
  obtain ⟨rfl, hZ, hh⟩ := hP
  have hx := Bd.exec
  have hby := Bd.bytes
  have hml : c.maxLocals = 1 := hml0
  have hown : s.vm.findClass "com/example/vanth/vanth/job/JobState" = some m.cls := findClass_of_methodNamed Bd.named
  have hnm := (name_of_methodNamed Bd.named Bd.method).1
  have hlk : meth.locks = false := BodyLoose.notSynchronized Bd
  have X0 : Stand p l e ({ frames := 0, cells := 0, slots := 0, locals := 0 } : Room) s m #[(.ref (A 7))] below meth c s₁ [] 0 0 := Stand.of_body Bd
  have e0 : s₁.heap = h0 := by rw [← hh, Bd.state]; rfl
  have N0 := Fr.nil n0
  show own_Go p e below #[(.ref (A 7))] s (fun _ U o U' => ∃ v L, o = .returned v ∧ Q_own_m7 Z A h0 n0 v U'.heap L ∧ FrameEnd U o U' L ({ frames := 0, cells := 0, slots := 0, locals := 0 } : Room).cells ({ frames := 0, cells := 0, slots := 0, locals := 0 } : Room).slots) (s₁.setTop (entryFrame m #[(.ref (A 7))] 1))
  refine own_st (V := s₁.setTop (mkF m 0 #[.val (.ref (A 7))] [])) (fun t k => castTop (by first | (simp [entryFrame, mkF, argsToLocals, Value.category]; done) | rfl) k) ?_
  refine own_st (V := s₁.setTop (mkF m 1 #[.val (.ref (A 7))] [(.ref (A 7))])) (fun t k => XS.aloadN X0.here hx rfl (hb hby own_d1_0) rfl rfl k) ?_
  obtain ⟨T14, X14, e14, st14⟩ := getS2 X0 hx hZ hown (host := "") (Or.inl (hw _ (List.mem_of_getElem? (i := 8) rfl))) Via.refl e0 (own_S En 0 (i := 0) (n := "SCHEDULED") rfl) (g := (mkF m 1 #[.val (.ref (A 7))] [(.ref (A 7))])) rfl (hb hby own_d1_1)
  refine own_st (V := T14.setTop (mkF m 4 #[.val (.ref (A 7))] [(.ref (A 0)), (.ref (A 7))])) (fun t k => st14 _ k) ?_
  refine own_st (V := T14.setTop (mkF m 7 #[.val (.ref (A 7))] [])) (fun t k => Jvm.RoadKit.acmp (g := (mkF m 4 #[.val (.ref (A 7))] [(.ref (A 0)), (.ref (A 7))])) X14 hx rfl rfl rfl (pc0 := 4) (pc' := 7) (same := false) rfl (hb hby own_d1_4) rfl (decide_eq_false fun q => own_ne En 7 0 (i := 7) (n := "DISCARDED") (j := 0) (n' := "SCHEDULED") rfl rfl (by decide) (Value.ref.inj q)) (by decide) (by decide) k) ?_
  refine own_st (V := T14.setTop (mkF m 8 #[.val (.ref (A 7))] [(.ref (A 7))])) (fun t k => XS.aloadN X14.here hx rfl (hb hby own_d1_7) rfl rfl k) ?_
  obtain ⟨T15, X15, e15, st15⟩ := getS2 X14 hx hZ hown (host := "") (Or.inl (hw _ (List.mem_of_getElem? (i := 11) rfl))) Via.refl e14 (own_S En 5 (i := 5) (n := "RETRYABLE") rfl) (g := (mkF m 8 #[.val (.ref (A 7))] [(.ref (A 7))])) rfl (hb hby own_d1_8)
  refine own_st (V := T15.setTop (mkF m 11 #[.val (.ref (A 7))] [(.ref (A 5)), (.ref (A 7))])) (fun t k => st15 _ k) ?_
  refine own_st (V := T15.setTop (mkF m 18 #[.val (.ref (A 7))] [])) (fun t k => Jvm.RoadKit.acmp (g := (mkF m 11 #[.val (.ref (A 7))] [(.ref (A 5)), (.ref (A 7))])) X15 hx rfl rfl rfl (pc0 := 11) (pc' := 18) (same := false) rfl (hb hby own_d1_11) rfl (decide_eq_false fun q => own_ne En 7 5 (i := 7) (n := "DISCARDED") (j := 5) (n' := "RETRYABLE") rfl rfl (by decide) (Value.ref.inj q)) (by decide) (by decide) k) ?_
  refine own_st (V := T15.setTop (mkF m 19 #[.val (.ref (A 7))] [(.int (0 : Int32))])) (fun t k => XS.iconst X15.here hx rfl (hb hby own_d1_18) k) ?_
  exact own_ret X15 hx hlk Bd.returns (by decide +kernel) (Or.inl ⟨rfl, by simp, _, rfl⟩) (hb hby own_d1_19) (by decide) (by decide) (by show Q_own_m7 Z A h0 n0 _ T15.heap _; rw [e15]; exact ⟨rfl, N0, rfl⟩)
theorem own_c (x : Int32) : (x &&& (7 : Int32)) = (0 : Int32) ∨ (x &&& (7 : Int32)) = (1 : Int32) ∨ (x &&& (7 : Int32)) = (2 : Int32) ∨ (x &&& (7 : Int32)) = (3 : Int32) ∨ (x &&& (7 : Int32)) = (4 : Int32) ∨ (x &&& (7 : Int32)) = (5 : Int32) ∨ (x &&& (7 : Int32)) = (6 : Int32) ∨ (x &&& (7 : Int32)) = (7 : Int32) := by
  have h := c_mask x 7 3 (by decide) (by decide)
  have e : ∀ k : Int32, (x &&& (7 : Int32)).toInt = k.toInt → (x &&& (7 : Int32)) = k := fun k q => Int32.toInt_inj.mp q
  have b : (x &&& (7 : Int32)).toInt = 0 ∨ (x &&& (7 : Int32)).toInt = 1 ∨ (x &&& (7 : Int32)).toInt = 2 ∨ (x &&& (7 : Int32)).toInt = 3 ∨ (x &&& (7 : Int32)).toInt = 4 ∨ (x &&& (7 : Int32)).toInt = 5 ∨ (x &&& (7 : Int32)).toInt = 6 ∨ (x &&& (7 : Int32)).toInt = 7 := by omega
  rcases b with b | b | b | b | b | b | b | b
  · exact Or.inl (e 0 b)
  · exact Or.inr (Or.inl (e 1 b))
  · exact Or.inr (Or.inr (Or.inl (e 2 b)))
  · exact Or.inr (Or.inr (Or.inr (Or.inl (e 3 b))))
  · exact Or.inr (Or.inr (Or.inr (Or.inr (Or.inl (e 4 b)))))
  · exact Or.inr (Or.inr (Or.inr (Or.inr (Or.inr (Or.inl (e 5 b))))))
  · exact Or.inr (Or.inr (Or.inr (Or.inr (Or.inr (Or.inr (Or.inl (e 6 b)))))))
  · exact Or.inr (Or.inr (Or.inr (Or.inr (Or.inr (Or.inr (Or.inr (e 7 b)))))))
def own_Q0 (Z : State) (p1 : Int32) (A : Nat → Addr) (h0 : Heap) (n0 : Nat) (v : Option Value) (h : Heap) (L : List Loc) : Prop := v = some (.int (1 : Int32)) ∧ Fr n0 L
theorem own_pd0 : parseMethodDescriptor "()Z" = some ⟨[], some .boolean⟩ := by decide +kernel
theorem own_pn_com_example_vanth_vanth_job_JobStateIsWaitingPinLaw : plainName "com/example/vanth/vanth/job/JobStateIsWaitingPinLaw" = true := by first | (simp [plainName, overriddenIn]; done) | decide +kernel
set_option maxRecDepth 65536 in
set_option maxHeartbeats 40000000 in
theorem own_law0 (l : Launch) (Z : State) (a0 : Array Value) (hw : ∀ d ∈ tables_1, d.before a0 Z = true) (ws : List Jvm.Cond) (p1 : Int32) (A : Nat → Addr) (h0 : Heap) (n0 : Nat) (Z0 : n0 ≤ h0.size) (En : own_En Z h0 A) (hk : (p1 &&& (7 : Int32)) = (0 : Int32)) :
    MetFree l x (head1 (Jvm.Cond.code x code maxLocals ret :: ws) room_1) (fun a U => a = #[(.int p1)] ∧ Z.Warmed39 U.vm ∧ U.heap = h0) (fun _ _ _ _ _ => True) (fun _ U o U' => ∃ v L, o = .returned v ∧ own_Q0 Z p1 A h0 n0 v U'.heap L ∧ FrameEnd U o U' L room_1.cells room_1.slots) := by
  refine MetFree.of_bodySF (plainFor_of_name own_pn_com_example_vanth_vanth_job_JobStateIsWaitingPinLaw) hisR ?_
  intro p e s m args below meth c s₁ Bd hml0 hP hK
  obtain ⟨rfl, hZ, hh⟩ := hP
  have hx := Bd.exec
  have hby := Bd.bytes
  have hml : c.maxLocals = 4 := hml0
  have hown : s.vm.findClass "com/example/vanth/vanth/job/JobStateIsWaitingPinLaw" = some m.cls := findClass_of_methodNamed Bd.named
  have hnm := (name_of_methodNamed Bd.named Bd.method).1
  have hlk : meth.locks = false := BodyLoose.notSynchronized Bd
  have X0 : Stand p l e room_1 s m #[(.int p1)] below meth c s₁ [] 0 0 := Stand.of_body Bd
  have e0 : s₁.heap = h0 := by rw [← hh, Bd.state]; rfl
  have N0 := Fr.nil n0
  show own_Go p e below #[(.int p1)] s (fun _ U o U' => ∃ v L, o = .returned v ∧ own_Q0 Z p1 A h0 n0 v U'.heap L ∧ FrameEnd U o U' L room_1.cells room_1.slots) (s₁.setTop (entryFrame m #[(.int p1)] maxLocals))
  refine own_st (V := s₁.setTop (mkF m 0 #[.val (.int p1), .unset, .unset, .unset] [])) (fun t k => castTop (by first | (simp [entryFrame, mkF, argsToLocals, Value.category, maxLocals]; done) | rfl) k) ?_
  refine own_st (V := s₁.setTop (mkF m 1 #[.val (.int p1), .unset, .unset, .unset] [(.int p1)])) (fun t k => XS.iloadN X0.here hx rfl (hb hby at_0) rfl k) ?_
  refine own_st (V := s₁.setTop (mkF m 3 #[.val (.int p1), .unset, .unset, .unset] [(.int (7 : Int32)), (.int p1)])) (fun t k => XS.bipush X0.here hx rfl (hb hby at_1) k) ?_
  refine own_st (V := s₁.setTop (mkF m 4 #[.val (.int p1), .unset, .unset, .unset] [(.int (p1 &&& (7 : Int32)))])) (fun t k => XS.iand X0.here hx rfl (hb hby at_3) rfl k) ?_
  rw [hk]
  refine own_st (V := s₁.setTop (mkF m 5 #[.val (.int p1), .val (.int (0 : Int32)), .unset, .unset] [])) (fun t k => XS.istoreN X0.here hx rfl (hb hby at_4) rfl (l' := #[.val (.int p1), .val (.int (0 : Int32)), .unset, .unset]) rfl k) ?_
  refine own_st (V := s₁.setTop (mkF m 6 #[.val (.int p1), .val (.int (0 : Int32)), .unset, .unset] [(.int (0 : Int32))])) (fun t k => XS.iloadN X0.here hx rfl (hb hby at_5) rfl k) ?_
  refine own_st (V := s₁.setTop (mkF m 9 #[.val (.int p1), .val (.int (0 : Int32)), .unset, .unset] [])) (fun t k => XS.ifNo X0.here hx rfl (hb hby at_6) rfl ((if0 _ _).trans (teq (by decide : (0 : Int32) = (0 : Int32))).2) k) ?_
  obtain ⟨T16, X16, e16, st16⟩ := getS2 X0 hx hZ hown (host := "") (Or.inl (hw _ (List.mem_of_getElem? (i := 0) rfl))) Via.refl e0 (own_S En 0 (i := 0) (n := "SCHEDULED") rfl) (g := (mkF m 9 #[.val (.int p1), .val (.int (0 : Int32)), .unset, .unset] [])) rfl (hb hby at_9)
  refine own_st (V := T16.setTop (mkF m 12 #[.val (.int p1), .val (.int (0 : Int32)), .unset, .unset] [(.ref (A 0))])) (fun t k => st16 _ k) ?_
  refine own_st (V := T16.setTop (mkF m 13 #[.val (.int p1), .val (.int (0 : Int32)), .val (.ref (A 0)), .unset] [])) (fun t k => XS.astoreN X16.here hx rfl (hb hby at_12) rfl rfl (l' := #[.val (.int p1), .val (.int (0 : Int32)), .val (.ref (A 0)), .unset]) rfl k) ?_
  refine own_st (V := T16.setTop (mkF m 14 #[.val (.int p1), .val (.int (0 : Int32)), .val (.ref (A 0)), .unset] [(.int (1 : Int32))])) (fun t k => XS.iconst X16.here hx rfl (hb hby at_13) k) ?_
  refine own_st (V := T16.setTop (mkF m 15 #[.val (.int p1), .val (.int (0 : Int32)), .val (.ref (A 0)), .val (.int (1 : Int32))] [])) (fun t k => XS.istoreN X16.here hx rfl (hb hby at_14) rfl (l' := #[.val (.int p1), .val (.int (0 : Int32)), .val (.ref (A 0)), .val (.int (1 : Int32))]) rfl k) ?_
  refine own_st (V := T16.setTop (mkF m 109 #[.val (.int p1), .val (.int (0 : Int32)), .val (.ref (A 0)), .val (.int (1 : Int32))] [])) (fun t k => XS.goto X16.here hx rfl (pc0 := 15) (pc' := 109) rfl (hb hby at_15) (by decide) (by decide) k) ?_
  refine own_st (V := T16.setTop (mkF m 110 #[.val (.int p1), .val (.int (0 : Int32)), .val (.ref (A 0)), .val (.int (1 : Int32))] [(.ref (A 0))])) (fun t k => XS.aloadN X16.here hx rfl (hb hby at_109) rfl rfl k) ?_
  obtain ⟨cq17, kq17, q17a, q17b, q17c⟩ := isOf hZ e16 (own_E En 0 (i := 0) (n := "SCHEDULED") rfl)
  obtain ⟨_, _, ⟨T17, L17, k17, n17⟩, -, X17, ⟨Lc17, hQ17, l17, y17, z17⟩, st17⟩ := X16.virtualBack hx (y := (⟨"com/example/vanth/vanth/job/JobState", "isWaiting", "()Z"⟩ : MethodName)) (z := (⟨"com/example/vanth/vanth/job/JobState", "isWaiting", "()Z"⟩ : MethodName)) hown (mvT hZ (hw _ (List.mem_of_getElem? (i := 3) rfl))) (mvT hZ (hw _ (List.mem_of_getElem? (i := 4) rfl))) (notFace_of_selects (args := #[]) (mvT hZ (hw _ (List.mem_of_getElem? (i := 6) rfl)))) (mvT hZ (hw _ (List.mem_of_getElem? (i := 6) rfl))) (mvT hZ (hw _ (List.mem_of_getElem? (i := 5) rfl))) (by decide) (backOf (W := 0) (own_m0 l Z a0 hw [] A h0 n0 Z0 En ) hZ (hw _ (List.mem_of_getElem? (i := 7) rfl)) (hw _ (List.mem_of_getElem? (i := 1) rfl)) (by decide) (by decide)) q17a q17c (g := (mkF m 110 #[.val (.int p1), .val (.int (0 : Int32)), .val (.ref (A 0)), .val (.int (1 : Int32))] [(.ref (A 0))])) rfl (by rw [hml]; rfl) (Steps.refl _) (argsL := []) (rest := []) (lenOf own_pd0 rfl) rfl (by show 2 * 0 + _ ≤ _; exact Nat.le_of_eq rfl) (hb hby at_110) (fun _ _ => ⟨rfl, e16, (by decide : 0 + 0 ≤ _), (by decide : 0 + 0 ≤ _)⟩)
  dsimp only [Pt.U, Pt.locs, Pt.cells, Pt.slots] at X17 l17 y17 z17 st17 hQ17
  subst l17 y17 z17
  obtain ⟨rfl, N17q, e17⟩ := hQ17
  have N17 := Fr.app N0 N17q
  refine own_st (V := T17.setTop (mkF m 113 #[.val (.int p1), .val (.int (0 : Int32)), .val (.ref (A 0)), .val (.int (1 : Int32))] [(.int (1 : Int32))])) (fun t k => st17.trans k) ?_
  refine own_st (V := T17.setTop (mkF m 114 #[.val (.int p1), .val (.int (0 : Int32)), .val (.ref (A 0)), .val (.int (1 : Int32))] [(.int (1 : Int32)), (.int (1 : Int32))])) (fun t k => XS.iloadN X17.here hx rfl (hb hby at_113) rfl k) ?_
  refine own_st (V := T17.setTop (mkF m 117 #[.val (.int p1), .val (.int (0 : Int32)), .val (.ref (A 0)), .val (.int (1 : Int32))] [])) (fun t k => XS.icmpNo X17.here hx rfl (hb hby at_114) rfl (teq (by decide : (1 : Int32) = (1 : Int32))).2 k) ?_
  refine own_st (V := T17.setTop (mkF m 118 #[.val (.int p1), .val (.int (0 : Int32)), .val (.ref (A 0)), .val (.int (1 : Int32))] [(.int (1 : Int32))])) (fun t k => XS.iconst X17.here hx rfl (hb hby at_117) k) ?_
  refine own_st (V := T17.setTop (mkF m 122 #[.val (.int p1), .val (.int (0 : Int32)), .val (.ref (A 0)), .val (.int (1 : Int32))] [(.int (1 : Int32))])) (fun t k => XS.goto X17.here hx rfl (pc0 := 118) (pc' := 122) rfl (hb hby at_118) (by decide) (by decide) k) ?_
  exact own_ret X17 hx hlk Bd.returns (by decide +kernel) (Or.inl ⟨rfl, by simp, _, rfl⟩) (hb hby at_122) (by decide) (by decide) (by show own_Q0 Z p1 A h0 n0 _ T17.heap _; rw [e17]; exact ⟨rfl, N17⟩)
set_option maxRecDepth 65536 in
set_option maxHeartbeats 40000000 in
theorem own_law1 (l : Launch) (Z : State) (a0 : Array Value) (hw : ∀ d ∈ tables_1, d.before a0 Z = true) (ws : List Jvm.Cond) (p1 : Int32) (A : Nat → Addr) (h0 : Heap) (n0 : Nat) (Z0 : n0 ≤ h0.size) (En : own_En Z h0 A) (hk : (p1 &&& (7 : Int32)) = (1 : Int32)) :
    MetFree l x (head1 (Jvm.Cond.code x code maxLocals ret :: ws) room_1) (fun a U => a = #[(.int p1)] ∧ Z.Warmed39 U.vm ∧ U.heap = h0) (fun _ _ _ _ _ => True) (fun _ U o U' => ∃ v L, o = .returned v ∧ own_Q0 Z p1 A h0 n0 v U'.heap L ∧ FrameEnd U o U' L room_1.cells room_1.slots) := by
  refine MetFree.of_bodySF (plainFor_of_name own_pn_com_example_vanth_vanth_job_JobStateIsWaitingPinLaw) hisR ?_
  intro p e s m args below meth c s₁ Bd hml0 hP hK
  obtain ⟨rfl, hZ, hh⟩ := hP
  have hx := Bd.exec
  have hby := Bd.bytes
  have hml : c.maxLocals = 4 := hml0
  have hown : s.vm.findClass "com/example/vanth/vanth/job/JobStateIsWaitingPinLaw" = some m.cls := findClass_of_methodNamed Bd.named
  have hnm := (name_of_methodNamed Bd.named Bd.method).1
  have hlk : meth.locks = false := BodyLoose.notSynchronized Bd
  have X0 : Stand p l e room_1 s m #[(.int p1)] below meth c s₁ [] 0 0 := Stand.of_body Bd
  have e0 : s₁.heap = h0 := by rw [← hh, Bd.state]; rfl
  have N0 := Fr.nil n0
  show own_Go p e below #[(.int p1)] s (fun _ U o U' => ∃ v L, o = .returned v ∧ own_Q0 Z p1 A h0 n0 v U'.heap L ∧ FrameEnd U o U' L room_1.cells room_1.slots) (s₁.setTop (entryFrame m #[(.int p1)] maxLocals))
  refine own_st (V := s₁.setTop (mkF m 0 #[.val (.int p1), .unset, .unset, .unset] [])) (fun t k => castTop (by first | (simp [entryFrame, mkF, argsToLocals, Value.category, maxLocals]; done) | rfl) k) ?_
  refine own_st (V := s₁.setTop (mkF m 1 #[.val (.int p1), .unset, .unset, .unset] [(.int p1)])) (fun t k => XS.iloadN X0.here hx rfl (hb hby at_0) rfl k) ?_
  refine own_st (V := s₁.setTop (mkF m 3 #[.val (.int p1), .unset, .unset, .unset] [(.int (7 : Int32)), (.int p1)])) (fun t k => XS.bipush X0.here hx rfl (hb hby at_1) k) ?_
  refine own_st (V := s₁.setTop (mkF m 4 #[.val (.int p1), .unset, .unset, .unset] [(.int (p1 &&& (7 : Int32)))])) (fun t k => XS.iand X0.here hx rfl (hb hby at_3) rfl k) ?_
  rw [hk]
  refine own_st (V := s₁.setTop (mkF m 5 #[.val (.int p1), .val (.int (1 : Int32)), .unset, .unset] [])) (fun t k => XS.istoreN X0.here hx rfl (hb hby at_4) rfl (l' := #[.val (.int p1), .val (.int (1 : Int32)), .unset, .unset]) rfl k) ?_
  refine own_st (V := s₁.setTop (mkF m 6 #[.val (.int p1), .val (.int (1 : Int32)), .unset, .unset] [(.int (1 : Int32))])) (fun t k => XS.iloadN X0.here hx rfl (hb hby at_5) rfl k) ?_
  refine own_st (V := s₁.setTop (mkF m 18 #[.val (.int p1), .val (.int (1 : Int32)), .unset, .unset] [])) (fun t k => XS.ifYes X0.here hx rfl (pc0 := 6) (pc' := 18) rfl (hb hby at_6) rfl ((if0 _ _).trans (feq (by decide : ¬ ((1 : Int32) = (0 : Int32)))).2) (by decide) (by decide) k) ?_
  refine own_st (V := s₁.setTop (mkF m 19 #[.val (.int p1), .val (.int (1 : Int32)), .unset, .unset] [(.int (1 : Int32))])) (fun t k => XS.iloadN X0.here hx rfl (hb hby at_18) rfl k) ?_
  refine own_st (V := s₁.setTop (mkF m 20 #[.val (.int p1), .val (.int (1 : Int32)), .unset, .unset] [(.int (1 : Int32)), (.int (1 : Int32))])) (fun t k => XS.iconst X0.here hx rfl (hb hby at_19) k) ?_
  refine own_st (V := s₁.setTop (mkF m 23 #[.val (.int p1), .val (.int (1 : Int32)), .unset, .unset] [])) (fun t k => XS.icmpNo X0.here hx rfl (hb hby at_20) rfl (teq (by decide : (1 : Int32) = (1 : Int32))).2 k) ?_
  obtain ⟨T18, X18, e18, st18⟩ := getS2 X0 hx hZ hown (host := "") (Or.inl (hw _ (List.mem_of_getElem? (i := 19) rfl))) Via.refl e0 (own_S En 1 (i := 1) (n := "AVAILABLE") rfl) (g := (mkF m 23 #[.val (.int p1), .val (.int (1 : Int32)), .unset, .unset] [])) rfl (hb hby at_23)
  refine own_st (V := T18.setTop (mkF m 26 #[.val (.int p1), .val (.int (1 : Int32)), .unset, .unset] [(.ref (A 1))])) (fun t k => st18 _ k) ?_
  refine own_st (V := T18.setTop (mkF m 27 #[.val (.int p1), .val (.int (1 : Int32)), .val (.ref (A 1)), .unset] [])) (fun t k => XS.astoreN X18.here hx rfl (hb hby at_26) rfl rfl (l' := #[.val (.int p1), .val (.int (1 : Int32)), .val (.ref (A 1)), .unset]) rfl k) ?_
  refine own_st (V := T18.setTop (mkF m 28 #[.val (.int p1), .val (.int (1 : Int32)), .val (.ref (A 1)), .unset] [(.int (0 : Int32))])) (fun t k => XS.iconst X18.here hx rfl (hb hby at_27) k) ?_
  refine own_st (V := T18.setTop (mkF m 29 #[.val (.int p1), .val (.int (1 : Int32)), .val (.ref (A 1)), .val (.int (0 : Int32))] [])) (fun t k => XS.istoreN X18.here hx rfl (hb hby at_28) rfl (l' := #[.val (.int p1), .val (.int (1 : Int32)), .val (.ref (A 1)), .val (.int (0 : Int32))]) rfl k) ?_
  refine own_st (V := T18.setTop (mkF m 109 #[.val (.int p1), .val (.int (1 : Int32)), .val (.ref (A 1)), .val (.int (0 : Int32))] [])) (fun t k => XS.goto X18.here hx rfl (pc0 := 29) (pc' := 109) rfl (hb hby at_29) (by decide) (by decide) k) ?_
  refine own_st (V := T18.setTop (mkF m 110 #[.val (.int p1), .val (.int (1 : Int32)), .val (.ref (A 1)), .val (.int (0 : Int32))] [(.ref (A 1))])) (fun t k => XS.aloadN X18.here hx rfl (hb hby at_109) rfl rfl k) ?_
  obtain ⟨cq19, kq19, q19a, q19b, q19c⟩ := isOf hZ e18 (own_E En 1 (i := 1) (n := "AVAILABLE") rfl)
  obtain ⟨_, _, ⟨T19, L19, k19, n19⟩, -, X19, ⟨Lc19, hQ19, l19, y19, z19⟩, st19⟩ := X18.virtualBack hx (y := (⟨"com/example/vanth/vanth/job/JobState", "isWaiting", "()Z"⟩ : MethodName)) (z := (⟨"com/example/vanth/vanth/job/JobState", "isWaiting", "()Z"⟩ : MethodName)) hown (mvT hZ (hw _ (List.mem_of_getElem? (i := 3) rfl))) (mvT hZ (hw _ (List.mem_of_getElem? (i := 4) rfl))) (notFace_of_selects (args := #[]) (mvT hZ (hw _ (List.mem_of_getElem? (i := 6) rfl)))) (mvT hZ (hw _ (List.mem_of_getElem? (i := 6) rfl))) (mvT hZ (hw _ (List.mem_of_getElem? (i := 5) rfl))) (by decide) (backOf (W := 0) (own_m1 l Z a0 hw [] A h0 n0 Z0 En ) hZ (hw _ (List.mem_of_getElem? (i := 7) rfl)) (hw _ (List.mem_of_getElem? (i := 1) rfl)) (by decide) (by decide)) q19a q19c (g := (mkF m 110 #[.val (.int p1), .val (.int (1 : Int32)), .val (.ref (A 1)), .val (.int (0 : Int32))] [(.ref (A 1))])) rfl (by rw [hml]; rfl) (Steps.refl _) (argsL := []) (rest := []) (lenOf own_pd0 rfl) rfl (by show 2 * 0 + _ ≤ _; exact Nat.le_of_eq rfl) (hb hby at_110) (fun _ _ => ⟨rfl, e18, (by decide : 0 + 0 ≤ _), (by decide : 0 + 0 ≤ _)⟩)
  dsimp only [Pt.U, Pt.locs, Pt.cells, Pt.slots] at X19 l19 y19 z19 st19 hQ19
  subst l19 y19 z19
  obtain ⟨rfl, N19q, e19⟩ := hQ19
  have N19 := Fr.app N0 N19q
  refine own_st (V := T19.setTop (mkF m 113 #[.val (.int p1), .val (.int (1 : Int32)), .val (.ref (A 1)), .val (.int (0 : Int32))] [(.int (0 : Int32))])) (fun t k => st19.trans k) ?_
  refine own_st (V := T19.setTop (mkF m 114 #[.val (.int p1), .val (.int (1 : Int32)), .val (.ref (A 1)), .val (.int (0 : Int32))] [(.int (0 : Int32)), (.int (0 : Int32))])) (fun t k => XS.iloadN X19.here hx rfl (hb hby at_113) rfl k) ?_
  refine own_st (V := T19.setTop (mkF m 117 #[.val (.int p1), .val (.int (1 : Int32)), .val (.ref (A 1)), .val (.int (0 : Int32))] [])) (fun t k => XS.icmpNo X19.here hx rfl (hb hby at_114) rfl (teq (by decide : (0 : Int32) = (0 : Int32))).2 k) ?_
  refine own_st (V := T19.setTop (mkF m 118 #[.val (.int p1), .val (.int (1 : Int32)), .val (.ref (A 1)), .val (.int (0 : Int32))] [(.int (1 : Int32))])) (fun t k => XS.iconst X19.here hx rfl (hb hby at_117) k) ?_
  refine own_st (V := T19.setTop (mkF m 122 #[.val (.int p1), .val (.int (1 : Int32)), .val (.ref (A 1)), .val (.int (0 : Int32))] [(.int (1 : Int32))])) (fun t k => XS.goto X19.here hx rfl (pc0 := 118) (pc' := 122) rfl (hb hby at_118) (by decide) (by decide) k) ?_
  exact own_ret X19 hx hlk Bd.returns (by decide +kernel) (Or.inl ⟨rfl, by simp, _, rfl⟩) (hb hby at_122) (by decide) (by decide) (by show own_Q0 Z p1 A h0 n0 _ T19.heap _; rw [e19]; exact ⟨rfl, N19⟩)
set_option maxRecDepth 65536 in
set_option maxHeartbeats 40000000 in
theorem own_law2 (l : Launch) (Z : State) (a0 : Array Value) (hw : ∀ d ∈ tables_1, d.before a0 Z = true) (ws : List Jvm.Cond) (p1 : Int32) (A : Nat → Addr) (h0 : Heap) (n0 : Nat) (Z0 : n0 ≤ h0.size) (En : own_En Z h0 A) (hk : (p1 &&& (7 : Int32)) = (2 : Int32)) :
    MetFree l x (head1 (Jvm.Cond.code x code maxLocals ret :: ws) room_1) (fun a U => a = #[(.int p1)] ∧ Z.Warmed39 U.vm ∧ U.heap = h0) (fun _ _ _ _ _ => True) (fun _ U o U' => ∃ v L, o = .returned v ∧ own_Q0 Z p1 A h0 n0 v U'.heap L ∧ FrameEnd U o U' L room_1.cells room_1.slots) := by
  refine MetFree.of_bodySF (plainFor_of_name own_pn_com_example_vanth_vanth_job_JobStateIsWaitingPinLaw) hisR ?_
  intro p e s m args below meth c s₁ Bd hml0 hP hK
  obtain ⟨rfl, hZ, hh⟩ := hP
  have hx := Bd.exec
  have hby := Bd.bytes
  have hml : c.maxLocals = 4 := hml0
  have hown : s.vm.findClass "com/example/vanth/vanth/job/JobStateIsWaitingPinLaw" = some m.cls := findClass_of_methodNamed Bd.named
  have hnm := (name_of_methodNamed Bd.named Bd.method).1
  have hlk : meth.locks = false := BodyLoose.notSynchronized Bd
  have X0 : Stand p l e room_1 s m #[(.int p1)] below meth c s₁ [] 0 0 := Stand.of_body Bd
  have e0 : s₁.heap = h0 := by rw [← hh, Bd.state]; rfl
  have N0 := Fr.nil n0
  show own_Go p e below #[(.int p1)] s (fun _ U o U' => ∃ v L, o = .returned v ∧ own_Q0 Z p1 A h0 n0 v U'.heap L ∧ FrameEnd U o U' L room_1.cells room_1.slots) (s₁.setTop (entryFrame m #[(.int p1)] maxLocals))
  refine own_st (V := s₁.setTop (mkF m 0 #[.val (.int p1), .unset, .unset, .unset] [])) (fun t k => castTop (by first | (simp [entryFrame, mkF, argsToLocals, Value.category, maxLocals]; done) | rfl) k) ?_
  refine own_st (V := s₁.setTop (mkF m 1 #[.val (.int p1), .unset, .unset, .unset] [(.int p1)])) (fun t k => XS.iloadN X0.here hx rfl (hb hby at_0) rfl k) ?_
  refine own_st (V := s₁.setTop (mkF m 3 #[.val (.int p1), .unset, .unset, .unset] [(.int (7 : Int32)), (.int p1)])) (fun t k => XS.bipush X0.here hx rfl (hb hby at_1) k) ?_
  refine own_st (V := s₁.setTop (mkF m 4 #[.val (.int p1), .unset, .unset, .unset] [(.int (p1 &&& (7 : Int32)))])) (fun t k => XS.iand X0.here hx rfl (hb hby at_3) rfl k) ?_
  rw [hk]
  refine own_st (V := s₁.setTop (mkF m 5 #[.val (.int p1), .val (.int (2 : Int32)), .unset, .unset] [])) (fun t k => XS.istoreN X0.here hx rfl (hb hby at_4) rfl (l' := #[.val (.int p1), .val (.int (2 : Int32)), .unset, .unset]) rfl k) ?_
  refine own_st (V := s₁.setTop (mkF m 6 #[.val (.int p1), .val (.int (2 : Int32)), .unset, .unset] [(.int (2 : Int32))])) (fun t k => XS.iloadN X0.here hx rfl (hb hby at_5) rfl k) ?_
  refine own_st (V := s₁.setTop (mkF m 18 #[.val (.int p1), .val (.int (2 : Int32)), .unset, .unset] [])) (fun t k => XS.ifYes X0.here hx rfl (pc0 := 6) (pc' := 18) rfl (hb hby at_6) rfl ((if0 _ _).trans (feq (by decide : ¬ ((2 : Int32) = (0 : Int32)))).2) (by decide) (by decide) k) ?_
  refine own_st (V := s₁.setTop (mkF m 19 #[.val (.int p1), .val (.int (2 : Int32)), .unset, .unset] [(.int (2 : Int32))])) (fun t k => XS.iloadN X0.here hx rfl (hb hby at_18) rfl k) ?_
  refine own_st (V := s₁.setTop (mkF m 20 #[.val (.int p1), .val (.int (2 : Int32)), .unset, .unset] [(.int (1 : Int32)), (.int (2 : Int32))])) (fun t k => XS.iconst X0.here hx rfl (hb hby at_19) k) ?_
  refine own_st (V := s₁.setTop (mkF m 32 #[.val (.int p1), .val (.int (2 : Int32)), .unset, .unset] [])) (fun t k => XS.icmpYes X0.here hx rfl (pc0 := 20) (pc' := 32) rfl (hb hby at_20) rfl (feq (by decide : ¬ ((2 : Int32) = (1 : Int32)))).2 (by decide) (by decide) k) ?_
  refine own_st (V := s₁.setTop (mkF m 33 #[.val (.int p1), .val (.int (2 : Int32)), .unset, .unset] [(.int (2 : Int32))])) (fun t k => XS.iloadN X0.here hx rfl (hb hby at_32) rfl k) ?_
  refine own_st (V := s₁.setTop (mkF m 34 #[.val (.int p1), .val (.int (2 : Int32)), .unset, .unset] [(.int (2 : Int32)), (.int (2 : Int32))])) (fun t k => XS.iconst X0.here hx rfl (hb hby at_33) k) ?_
  refine own_st (V := s₁.setTop (mkF m 37 #[.val (.int p1), .val (.int (2 : Int32)), .unset, .unset] [])) (fun t k => XS.icmpNo X0.here hx rfl (hb hby at_34) rfl (teq (by decide : (2 : Int32) = (2 : Int32))).2 k) ?_
  obtain ⟨T20, X20, e20, st20⟩ := getS2 X0 hx hZ hown (host := "") (Or.inl (hw _ (List.mem_of_getElem? (i := 17) rfl))) Via.refl e0 (own_S En 2 (i := 2) (n := "PENDING") rfl) (g := (mkF m 37 #[.val (.int p1), .val (.int (2 : Int32)), .unset, .unset] [])) rfl (hb hby at_37)
  refine own_st (V := T20.setTop (mkF m 40 #[.val (.int p1), .val (.int (2 : Int32)), .unset, .unset] [(.ref (A 2))])) (fun t k => st20 _ k) ?_
  refine own_st (V := T20.setTop (mkF m 41 #[.val (.int p1), .val (.int (2 : Int32)), .val (.ref (A 2)), .unset] [])) (fun t k => XS.astoreN X20.here hx rfl (hb hby at_40) rfl rfl (l' := #[.val (.int p1), .val (.int (2 : Int32)), .val (.ref (A 2)), .unset]) rfl k) ?_
  refine own_st (V := T20.setTop (mkF m 42 #[.val (.int p1), .val (.int (2 : Int32)), .val (.ref (A 2)), .unset] [(.int (0 : Int32))])) (fun t k => XS.iconst X20.here hx rfl (hb hby at_41) k) ?_
  refine own_st (V := T20.setTop (mkF m 43 #[.val (.int p1), .val (.int (2 : Int32)), .val (.ref (A 2)), .val (.int (0 : Int32))] [])) (fun t k => XS.istoreN X20.here hx rfl (hb hby at_42) rfl (l' := #[.val (.int p1), .val (.int (2 : Int32)), .val (.ref (A 2)), .val (.int (0 : Int32))]) rfl k) ?_
  refine own_st (V := T20.setTop (mkF m 109 #[.val (.int p1), .val (.int (2 : Int32)), .val (.ref (A 2)), .val (.int (0 : Int32))] [])) (fun t k => XS.goto X20.here hx rfl (pc0 := 43) (pc' := 109) rfl (hb hby at_43) (by decide) (by decide) k) ?_
  refine own_st (V := T20.setTop (mkF m 110 #[.val (.int p1), .val (.int (2 : Int32)), .val (.ref (A 2)), .val (.int (0 : Int32))] [(.ref (A 2))])) (fun t k => XS.aloadN X20.here hx rfl (hb hby at_109) rfl rfl k) ?_
  obtain ⟨cq21, kq21, q21a, q21b, q21c⟩ := isOf hZ e20 (own_E En 2 (i := 2) (n := "PENDING") rfl)
  obtain ⟨_, _, ⟨T21, L21, k21, n21⟩, -, X21, ⟨Lc21, hQ21, l21, y21, z21⟩, st21⟩ := X20.virtualBack hx (y := (⟨"com/example/vanth/vanth/job/JobState", "isWaiting", "()Z"⟩ : MethodName)) (z := (⟨"com/example/vanth/vanth/job/JobState", "isWaiting", "()Z"⟩ : MethodName)) hown (mvT hZ (hw _ (List.mem_of_getElem? (i := 3) rfl))) (mvT hZ (hw _ (List.mem_of_getElem? (i := 4) rfl))) (notFace_of_selects (args := #[]) (mvT hZ (hw _ (List.mem_of_getElem? (i := 6) rfl)))) (mvT hZ (hw _ (List.mem_of_getElem? (i := 6) rfl))) (mvT hZ (hw _ (List.mem_of_getElem? (i := 5) rfl))) (by decide) (backOf (W := 0) (own_m2 l Z a0 hw [] A h0 n0 Z0 En ) hZ (hw _ (List.mem_of_getElem? (i := 7) rfl)) (hw _ (List.mem_of_getElem? (i := 1) rfl)) (by decide) (by decide)) q21a q21c (g := (mkF m 110 #[.val (.int p1), .val (.int (2 : Int32)), .val (.ref (A 2)), .val (.int (0 : Int32))] [(.ref (A 2))])) rfl (by rw [hml]; rfl) (Steps.refl _) (argsL := []) (rest := []) (lenOf own_pd0 rfl) rfl (by show 2 * 0 + _ ≤ _; exact Nat.le_of_eq rfl) (hb hby at_110) (fun _ _ => ⟨rfl, e20, (by decide : 0 + 0 ≤ _), (by decide : 0 + 0 ≤ _)⟩)
  dsimp only [Pt.U, Pt.locs, Pt.cells, Pt.slots] at X21 l21 y21 z21 st21 hQ21
  subst l21 y21 z21
  obtain ⟨rfl, N21q, e21⟩ := hQ21
  have N21 := Fr.app N0 N21q
  refine own_st (V := T21.setTop (mkF m 113 #[.val (.int p1), .val (.int (2 : Int32)), .val (.ref (A 2)), .val (.int (0 : Int32))] [(.int (0 : Int32))])) (fun t k => st21.trans k) ?_
  refine own_st (V := T21.setTop (mkF m 114 #[.val (.int p1), .val (.int (2 : Int32)), .val (.ref (A 2)), .val (.int (0 : Int32))] [(.int (0 : Int32)), (.int (0 : Int32))])) (fun t k => XS.iloadN X21.here hx rfl (hb hby at_113) rfl k) ?_
  refine own_st (V := T21.setTop (mkF m 117 #[.val (.int p1), .val (.int (2 : Int32)), .val (.ref (A 2)), .val (.int (0 : Int32))] [])) (fun t k => XS.icmpNo X21.here hx rfl (hb hby at_114) rfl (teq (by decide : (0 : Int32) = (0 : Int32))).2 k) ?_
  refine own_st (V := T21.setTop (mkF m 118 #[.val (.int p1), .val (.int (2 : Int32)), .val (.ref (A 2)), .val (.int (0 : Int32))] [(.int (1 : Int32))])) (fun t k => XS.iconst X21.here hx rfl (hb hby at_117) k) ?_
  refine own_st (V := T21.setTop (mkF m 122 #[.val (.int p1), .val (.int (2 : Int32)), .val (.ref (A 2)), .val (.int (0 : Int32))] [(.int (1 : Int32))])) (fun t k => XS.goto X21.here hx rfl (pc0 := 118) (pc' := 122) rfl (hb hby at_118) (by decide) (by decide) k) ?_
  exact own_ret X21 hx hlk Bd.returns (by decide +kernel) (Or.inl ⟨rfl, by simp, _, rfl⟩) (hb hby at_122) (by decide) (by decide) (by show own_Q0 Z p1 A h0 n0 _ T21.heap _; rw [e21]; exact ⟨rfl, N21⟩)
set_option maxRecDepth 65536 in
set_option maxHeartbeats 40000000 in
theorem own_law3 (l : Launch) (Z : State) (a0 : Array Value) (hw : ∀ d ∈ tables_1, d.before a0 Z = true) (ws : List Jvm.Cond) (p1 : Int32) (A : Nat → Addr) (h0 : Heap) (n0 : Nat) (Z0 : n0 ≤ h0.size) (En : own_En Z h0 A) (hk : (p1 &&& (7 : Int32)) = (3 : Int32)) :
    MetFree l x (head1 (Jvm.Cond.code x code maxLocals ret :: ws) room_1) (fun a U => a = #[(.int p1)] ∧ Z.Warmed39 U.vm ∧ U.heap = h0) (fun _ _ _ _ _ => True) (fun _ U o U' => ∃ v L, o = .returned v ∧ own_Q0 Z p1 A h0 n0 v U'.heap L ∧ FrameEnd U o U' L room_1.cells room_1.slots) := by
  refine MetFree.of_bodySF (plainFor_of_name own_pn_com_example_vanth_vanth_job_JobStateIsWaitingPinLaw) hisR ?_
  intro p e s m args below meth c s₁ Bd hml0 hP hK
  obtain ⟨rfl, hZ, hh⟩ := hP
  have hx := Bd.exec
  have hby := Bd.bytes
  have hml : c.maxLocals = 4 := hml0
  have hown : s.vm.findClass "com/example/vanth/vanth/job/JobStateIsWaitingPinLaw" = some m.cls := findClass_of_methodNamed Bd.named
  have hnm := (name_of_methodNamed Bd.named Bd.method).1
  have hlk : meth.locks = false := BodyLoose.notSynchronized Bd
  have X0 : Stand p l e room_1 s m #[(.int p1)] below meth c s₁ [] 0 0 := Stand.of_body Bd
  have e0 : s₁.heap = h0 := by rw [← hh, Bd.state]; rfl
  have N0 := Fr.nil n0
  show own_Go p e below #[(.int p1)] s (fun _ U o U' => ∃ v L, o = .returned v ∧ own_Q0 Z p1 A h0 n0 v U'.heap L ∧ FrameEnd U o U' L room_1.cells room_1.slots) (s₁.setTop (entryFrame m #[(.int p1)] maxLocals))
  refine own_st (V := s₁.setTop (mkF m 0 #[.val (.int p1), .unset, .unset, .unset] [])) (fun t k => castTop (by first | (simp [entryFrame, mkF, argsToLocals, Value.category, maxLocals]; done) | rfl) k) ?_
  refine own_st (V := s₁.setTop (mkF m 1 #[.val (.int p1), .unset, .unset, .unset] [(.int p1)])) (fun t k => XS.iloadN X0.here hx rfl (hb hby at_0) rfl k) ?_
  refine own_st (V := s₁.setTop (mkF m 3 #[.val (.int p1), .unset, .unset, .unset] [(.int (7 : Int32)), (.int p1)])) (fun t k => XS.bipush X0.here hx rfl (hb hby at_1) k) ?_
  refine own_st (V := s₁.setTop (mkF m 4 #[.val (.int p1), .unset, .unset, .unset] [(.int (p1 &&& (7 : Int32)))])) (fun t k => XS.iand X0.here hx rfl (hb hby at_3) rfl k) ?_
  rw [hk]
  refine own_st (V := s₁.setTop (mkF m 5 #[.val (.int p1), .val (.int (3 : Int32)), .unset, .unset] [])) (fun t k => XS.istoreN X0.here hx rfl (hb hby at_4) rfl (l' := #[.val (.int p1), .val (.int (3 : Int32)), .unset, .unset]) rfl k) ?_
  refine own_st (V := s₁.setTop (mkF m 6 #[.val (.int p1), .val (.int (3 : Int32)), .unset, .unset] [(.int (3 : Int32))])) (fun t k => XS.iloadN X0.here hx rfl (hb hby at_5) rfl k) ?_
  refine own_st (V := s₁.setTop (mkF m 18 #[.val (.int p1), .val (.int (3 : Int32)), .unset, .unset] [])) (fun t k => XS.ifYes X0.here hx rfl (pc0 := 6) (pc' := 18) rfl (hb hby at_6) rfl ((if0 _ _).trans (feq (by decide : ¬ ((3 : Int32) = (0 : Int32)))).2) (by decide) (by decide) k) ?_
  refine own_st (V := s₁.setTop (mkF m 19 #[.val (.int p1), .val (.int (3 : Int32)), .unset, .unset] [(.int (3 : Int32))])) (fun t k => XS.iloadN X0.here hx rfl (hb hby at_18) rfl k) ?_
  refine own_st (V := s₁.setTop (mkF m 20 #[.val (.int p1), .val (.int (3 : Int32)), .unset, .unset] [(.int (1 : Int32)), (.int (3 : Int32))])) (fun t k => XS.iconst X0.here hx rfl (hb hby at_19) k) ?_
  refine own_st (V := s₁.setTop (mkF m 32 #[.val (.int p1), .val (.int (3 : Int32)), .unset, .unset] [])) (fun t k => XS.icmpYes X0.here hx rfl (pc0 := 20) (pc' := 32) rfl (hb hby at_20) rfl (feq (by decide : ¬ ((3 : Int32) = (1 : Int32)))).2 (by decide) (by decide) k) ?_
  refine own_st (V := s₁.setTop (mkF m 33 #[.val (.int p1), .val (.int (3 : Int32)), .unset, .unset] [(.int (3 : Int32))])) (fun t k => XS.iloadN X0.here hx rfl (hb hby at_32) rfl k) ?_
  refine own_st (V := s₁.setTop (mkF m 34 #[.val (.int p1), .val (.int (3 : Int32)), .unset, .unset] [(.int (2 : Int32)), (.int (3 : Int32))])) (fun t k => XS.iconst X0.here hx rfl (hb hby at_33) k) ?_
  refine own_st (V := s₁.setTop (mkF m 46 #[.val (.int p1), .val (.int (3 : Int32)), .unset, .unset] [])) (fun t k => XS.icmpYes X0.here hx rfl (pc0 := 34) (pc' := 46) rfl (hb hby at_34) rfl (feq (by decide : ¬ ((3 : Int32) = (2 : Int32)))).2 (by decide) (by decide) k) ?_
  refine own_st (V := s₁.setTop (mkF m 47 #[.val (.int p1), .val (.int (3 : Int32)), .unset, .unset] [(.int (3 : Int32))])) (fun t k => XS.iloadN X0.here hx rfl (hb hby at_46) rfl k) ?_
  refine own_st (V := s₁.setTop (mkF m 48 #[.val (.int p1), .val (.int (3 : Int32)), .unset, .unset] [(.int (3 : Int32)), (.int (3 : Int32))])) (fun t k => XS.iconst X0.here hx rfl (hb hby at_47) k) ?_
  refine own_st (V := s₁.setTop (mkF m 51 #[.val (.int p1), .val (.int (3 : Int32)), .unset, .unset] [])) (fun t k => XS.icmpNo X0.here hx rfl (hb hby at_48) rfl (teq (by decide : (3 : Int32) = (3 : Int32))).2 k) ?_
  obtain ⟨T22, X22, e22, st22⟩ := getS2 X0 hx hZ hown (host := "") (Or.inl (hw _ (List.mem_of_getElem? (i := 9) rfl))) Via.refl e0 (own_S En 3 (i := 3) (n := "ACTIVE") rfl) (g := (mkF m 51 #[.val (.int p1), .val (.int (3 : Int32)), .unset, .unset] [])) rfl (hb hby at_51)
  refine own_st (V := T22.setTop (mkF m 54 #[.val (.int p1), .val (.int (3 : Int32)), .unset, .unset] [(.ref (A 3))])) (fun t k => st22 _ k) ?_
  refine own_st (V := T22.setTop (mkF m 55 #[.val (.int p1), .val (.int (3 : Int32)), .val (.ref (A 3)), .unset] [])) (fun t k => XS.astoreN X22.here hx rfl (hb hby at_54) rfl rfl (l' := #[.val (.int p1), .val (.int (3 : Int32)), .val (.ref (A 3)), .unset]) rfl k) ?_
  refine own_st (V := T22.setTop (mkF m 56 #[.val (.int p1), .val (.int (3 : Int32)), .val (.ref (A 3)), .unset] [(.int (0 : Int32))])) (fun t k => XS.iconst X22.here hx rfl (hb hby at_55) k) ?_
  refine own_st (V := T22.setTop (mkF m 57 #[.val (.int p1), .val (.int (3 : Int32)), .val (.ref (A 3)), .val (.int (0 : Int32))] [])) (fun t k => XS.istoreN X22.here hx rfl (hb hby at_56) rfl (l' := #[.val (.int p1), .val (.int (3 : Int32)), .val (.ref (A 3)), .val (.int (0 : Int32))]) rfl k) ?_
  refine own_st (V := T22.setTop (mkF m 109 #[.val (.int p1), .val (.int (3 : Int32)), .val (.ref (A 3)), .val (.int (0 : Int32))] [])) (fun t k => XS.goto X22.here hx rfl (pc0 := 57) (pc' := 109) rfl (hb hby at_57) (by decide) (by decide) k) ?_
  refine own_st (V := T22.setTop (mkF m 110 #[.val (.int p1), .val (.int (3 : Int32)), .val (.ref (A 3)), .val (.int (0 : Int32))] [(.ref (A 3))])) (fun t k => XS.aloadN X22.here hx rfl (hb hby at_109) rfl rfl k) ?_
  obtain ⟨cq23, kq23, q23a, q23b, q23c⟩ := isOf hZ e22 (own_E En 3 (i := 3) (n := "ACTIVE") rfl)
  obtain ⟨_, _, ⟨T23, L23, k23, n23⟩, -, X23, ⟨Lc23, hQ23, l23, y23, z23⟩, st23⟩ := X22.virtualBack hx (y := (⟨"com/example/vanth/vanth/job/JobState", "isWaiting", "()Z"⟩ : MethodName)) (z := (⟨"com/example/vanth/vanth/job/JobState", "isWaiting", "()Z"⟩ : MethodName)) hown (mvT hZ (hw _ (List.mem_of_getElem? (i := 3) rfl))) (mvT hZ (hw _ (List.mem_of_getElem? (i := 4) rfl))) (notFace_of_selects (args := #[]) (mvT hZ (hw _ (List.mem_of_getElem? (i := 6) rfl)))) (mvT hZ (hw _ (List.mem_of_getElem? (i := 6) rfl))) (mvT hZ (hw _ (List.mem_of_getElem? (i := 5) rfl))) (by decide) (backOf (W := 0) (own_m3 l Z a0 hw [] A h0 n0 Z0 En ) hZ (hw _ (List.mem_of_getElem? (i := 7) rfl)) (hw _ (List.mem_of_getElem? (i := 1) rfl)) (by decide) (by decide)) q23a q23c (g := (mkF m 110 #[.val (.int p1), .val (.int (3 : Int32)), .val (.ref (A 3)), .val (.int (0 : Int32))] [(.ref (A 3))])) rfl (by rw [hml]; rfl) (Steps.refl _) (argsL := []) (rest := []) (lenOf own_pd0 rfl) rfl (by show 2 * 0 + _ ≤ _; exact Nat.le_of_eq rfl) (hb hby at_110) (fun _ _ => ⟨rfl, e22, (by decide : 0 + 0 ≤ _), (by decide : 0 + 0 ≤ _)⟩)
  dsimp only [Pt.U, Pt.locs, Pt.cells, Pt.slots] at X23 l23 y23 z23 st23 hQ23
  subst l23 y23 z23
  obtain ⟨rfl, N23q, e23⟩ := hQ23
  have N23 := Fr.app N0 N23q
  refine own_st (V := T23.setTop (mkF m 113 #[.val (.int p1), .val (.int (3 : Int32)), .val (.ref (A 3)), .val (.int (0 : Int32))] [(.int (0 : Int32))])) (fun t k => st23.trans k) ?_
  refine own_st (V := T23.setTop (mkF m 114 #[.val (.int p1), .val (.int (3 : Int32)), .val (.ref (A 3)), .val (.int (0 : Int32))] [(.int (0 : Int32)), (.int (0 : Int32))])) (fun t k => XS.iloadN X23.here hx rfl (hb hby at_113) rfl k) ?_
  refine own_st (V := T23.setTop (mkF m 117 #[.val (.int p1), .val (.int (3 : Int32)), .val (.ref (A 3)), .val (.int (0 : Int32))] [])) (fun t k => XS.icmpNo X23.here hx rfl (hb hby at_114) rfl (teq (by decide : (0 : Int32) = (0 : Int32))).2 k) ?_
  refine own_st (V := T23.setTop (mkF m 118 #[.val (.int p1), .val (.int (3 : Int32)), .val (.ref (A 3)), .val (.int (0 : Int32))] [(.int (1 : Int32))])) (fun t k => XS.iconst X23.here hx rfl (hb hby at_117) k) ?_
  refine own_st (V := T23.setTop (mkF m 122 #[.val (.int p1), .val (.int (3 : Int32)), .val (.ref (A 3)), .val (.int (0 : Int32))] [(.int (1 : Int32))])) (fun t k => XS.goto X23.here hx rfl (pc0 := 118) (pc' := 122) rfl (hb hby at_118) (by decide) (by decide) k) ?_
  exact own_ret X23 hx hlk Bd.returns (by decide +kernel) (Or.inl ⟨rfl, by simp, _, rfl⟩) (hb hby at_122) (by decide) (by decide) (by show own_Q0 Z p1 A h0 n0 _ T23.heap _; rw [e23]; exact ⟨rfl, N23⟩)
set_option maxRecDepth 65536 in
set_option maxHeartbeats 40000000 in
theorem own_law4 (l : Launch) (Z : State) (a0 : Array Value) (hw : ∀ d ∈ tables_1, d.before a0 Z = true) (ws : List Jvm.Cond) (p1 : Int32) (A : Nat → Addr) (h0 : Heap) (n0 : Nat) (Z0 : n0 ≤ h0.size) (En : own_En Z h0 A) (hk : (p1 &&& (7 : Int32)) = (4 : Int32)) :
    MetFree l x (head1 (Jvm.Cond.code x code maxLocals ret :: ws) room_1) (fun a U => a = #[(.int p1)] ∧ Z.Warmed39 U.vm ∧ U.heap = h0) (fun _ _ _ _ _ => True) (fun _ U o U' => ∃ v L, o = .returned v ∧ own_Q0 Z p1 A h0 n0 v U'.heap L ∧ FrameEnd U o U' L room_1.cells room_1.slots) := by
  refine MetFree.of_bodySF (plainFor_of_name own_pn_com_example_vanth_vanth_job_JobStateIsWaitingPinLaw) hisR ?_
  intro p e s m args below meth c s₁ Bd hml0 hP hK
  obtain ⟨rfl, hZ, hh⟩ := hP
  have hx := Bd.exec
  have hby := Bd.bytes
  have hml : c.maxLocals = 4 := hml0
  have hown : s.vm.findClass "com/example/vanth/vanth/job/JobStateIsWaitingPinLaw" = some m.cls := findClass_of_methodNamed Bd.named
  have hnm := (name_of_methodNamed Bd.named Bd.method).1
  have hlk : meth.locks = false := BodyLoose.notSynchronized Bd
  have X0 : Stand p l e room_1 s m #[(.int p1)] below meth c s₁ [] 0 0 := Stand.of_body Bd
  have e0 : s₁.heap = h0 := by rw [← hh, Bd.state]; rfl
  have N0 := Fr.nil n0
  show own_Go p e below #[(.int p1)] s (fun _ U o U' => ∃ v L, o = .returned v ∧ own_Q0 Z p1 A h0 n0 v U'.heap L ∧ FrameEnd U o U' L room_1.cells room_1.slots) (s₁.setTop (entryFrame m #[(.int p1)] maxLocals))
  refine own_st (V := s₁.setTop (mkF m 0 #[.val (.int p1), .unset, .unset, .unset] [])) (fun t k => castTop (by first | (simp [entryFrame, mkF, argsToLocals, Value.category, maxLocals]; done) | rfl) k) ?_
  refine own_st (V := s₁.setTop (mkF m 1 #[.val (.int p1), .unset, .unset, .unset] [(.int p1)])) (fun t k => XS.iloadN X0.here hx rfl (hb hby at_0) rfl k) ?_
  refine own_st (V := s₁.setTop (mkF m 3 #[.val (.int p1), .unset, .unset, .unset] [(.int (7 : Int32)), (.int p1)])) (fun t k => XS.bipush X0.here hx rfl (hb hby at_1) k) ?_
  refine own_st (V := s₁.setTop (mkF m 4 #[.val (.int p1), .unset, .unset, .unset] [(.int (p1 &&& (7 : Int32)))])) (fun t k => XS.iand X0.here hx rfl (hb hby at_3) rfl k) ?_
  rw [hk]
  refine own_st (V := s₁.setTop (mkF m 5 #[.val (.int p1), .val (.int (4 : Int32)), .unset, .unset] [])) (fun t k => XS.istoreN X0.here hx rfl (hb hby at_4) rfl (l' := #[.val (.int p1), .val (.int (4 : Int32)), .unset, .unset]) rfl k) ?_
  refine own_st (V := s₁.setTop (mkF m 6 #[.val (.int p1), .val (.int (4 : Int32)), .unset, .unset] [(.int (4 : Int32))])) (fun t k => XS.iloadN X0.here hx rfl (hb hby at_5) rfl k) ?_
  refine own_st (V := s₁.setTop (mkF m 18 #[.val (.int p1), .val (.int (4 : Int32)), .unset, .unset] [])) (fun t k => XS.ifYes X0.here hx rfl (pc0 := 6) (pc' := 18) rfl (hb hby at_6) rfl ((if0 _ _).trans (feq (by decide : ¬ ((4 : Int32) = (0 : Int32)))).2) (by decide) (by decide) k) ?_
  refine own_st (V := s₁.setTop (mkF m 19 #[.val (.int p1), .val (.int (4 : Int32)), .unset, .unset] [(.int (4 : Int32))])) (fun t k => XS.iloadN X0.here hx rfl (hb hby at_18) rfl k) ?_
  refine own_st (V := s₁.setTop (mkF m 20 #[.val (.int p1), .val (.int (4 : Int32)), .unset, .unset] [(.int (1 : Int32)), (.int (4 : Int32))])) (fun t k => XS.iconst X0.here hx rfl (hb hby at_19) k) ?_
  refine own_st (V := s₁.setTop (mkF m 32 #[.val (.int p1), .val (.int (4 : Int32)), .unset, .unset] [])) (fun t k => XS.icmpYes X0.here hx rfl (pc0 := 20) (pc' := 32) rfl (hb hby at_20) rfl (feq (by decide : ¬ ((4 : Int32) = (1 : Int32)))).2 (by decide) (by decide) k) ?_
  refine own_st (V := s₁.setTop (mkF m 33 #[.val (.int p1), .val (.int (4 : Int32)), .unset, .unset] [(.int (4 : Int32))])) (fun t k => XS.iloadN X0.here hx rfl (hb hby at_32) rfl k) ?_
  refine own_st (V := s₁.setTop (mkF m 34 #[.val (.int p1), .val (.int (4 : Int32)), .unset, .unset] [(.int (2 : Int32)), (.int (4 : Int32))])) (fun t k => XS.iconst X0.here hx rfl (hb hby at_33) k) ?_
  refine own_st (V := s₁.setTop (mkF m 46 #[.val (.int p1), .val (.int (4 : Int32)), .unset, .unset] [])) (fun t k => XS.icmpYes X0.here hx rfl (pc0 := 34) (pc' := 46) rfl (hb hby at_34) rfl (feq (by decide : ¬ ((4 : Int32) = (2 : Int32)))).2 (by decide) (by decide) k) ?_
  refine own_st (V := s₁.setTop (mkF m 47 #[.val (.int p1), .val (.int (4 : Int32)), .unset, .unset] [(.int (4 : Int32))])) (fun t k => XS.iloadN X0.here hx rfl (hb hby at_46) rfl k) ?_
  refine own_st (V := s₁.setTop (mkF m 48 #[.val (.int p1), .val (.int (4 : Int32)), .unset, .unset] [(.int (3 : Int32)), (.int (4 : Int32))])) (fun t k => XS.iconst X0.here hx rfl (hb hby at_47) k) ?_
  refine own_st (V := s₁.setTop (mkF m 60 #[.val (.int p1), .val (.int (4 : Int32)), .unset, .unset] [])) (fun t k => XS.icmpYes X0.here hx rfl (pc0 := 48) (pc' := 60) rfl (hb hby at_48) rfl (feq (by decide : ¬ ((4 : Int32) = (3 : Int32)))).2 (by decide) (by decide) k) ?_
  refine own_st (V := s₁.setTop (mkF m 61 #[.val (.int p1), .val (.int (4 : Int32)), .unset, .unset] [(.int (4 : Int32))])) (fun t k => XS.iloadN X0.here hx rfl (hb hby at_60) rfl k) ?_
  refine own_st (V := s₁.setTop (mkF m 62 #[.val (.int p1), .val (.int (4 : Int32)), .unset, .unset] [(.int (4 : Int32)), (.int (4 : Int32))])) (fun t k => XS.iconst X0.here hx rfl (hb hby at_61) k) ?_
  refine own_st (V := s₁.setTop (mkF m 65 #[.val (.int p1), .val (.int (4 : Int32)), .unset, .unset] [])) (fun t k => XS.icmpNo X0.here hx rfl (hb hby at_62) rfl (teq (by decide : (4 : Int32) = (4 : Int32))).2 k) ?_
  obtain ⟨T24, X24, e24, st24⟩ := getS2 X0 hx hZ hown (host := "") (Or.inl (hw _ (List.mem_of_getElem? (i := 21) rfl))) Via.refl e0 (own_S En 4 (i := 4) (n := "COMPLETED") rfl) (g := (mkF m 65 #[.val (.int p1), .val (.int (4 : Int32)), .unset, .unset] [])) rfl (hb hby at_65)
  refine own_st (V := T24.setTop (mkF m 68 #[.val (.int p1), .val (.int (4 : Int32)), .unset, .unset] [(.ref (A 4))])) (fun t k => st24 _ k) ?_
  refine own_st (V := T24.setTop (mkF m 69 #[.val (.int p1), .val (.int (4 : Int32)), .val (.ref (A 4)), .unset] [])) (fun t k => XS.astoreN X24.here hx rfl (hb hby at_68) rfl rfl (l' := #[.val (.int p1), .val (.int (4 : Int32)), .val (.ref (A 4)), .unset]) rfl k) ?_
  refine own_st (V := T24.setTop (mkF m 70 #[.val (.int p1), .val (.int (4 : Int32)), .val (.ref (A 4)), .unset] [(.int (0 : Int32))])) (fun t k => XS.iconst X24.here hx rfl (hb hby at_69) k) ?_
  refine own_st (V := T24.setTop (mkF m 71 #[.val (.int p1), .val (.int (4 : Int32)), .val (.ref (A 4)), .val (.int (0 : Int32))] [])) (fun t k => XS.istoreN X24.here hx rfl (hb hby at_70) rfl (l' := #[.val (.int p1), .val (.int (4 : Int32)), .val (.ref (A 4)), .val (.int (0 : Int32))]) rfl k) ?_
  refine own_st (V := T24.setTop (mkF m 109 #[.val (.int p1), .val (.int (4 : Int32)), .val (.ref (A 4)), .val (.int (0 : Int32))] [])) (fun t k => XS.goto X24.here hx rfl (pc0 := 71) (pc' := 109) rfl (hb hby at_71) (by decide) (by decide) k) ?_
  refine own_st (V := T24.setTop (mkF m 110 #[.val (.int p1), .val (.int (4 : Int32)), .val (.ref (A 4)), .val (.int (0 : Int32))] [(.ref (A 4))])) (fun t k => XS.aloadN X24.here hx rfl (hb hby at_109) rfl rfl k) ?_
  obtain ⟨cq25, kq25, q25a, q25b, q25c⟩ := isOf hZ e24 (own_E En 4 (i := 4) (n := "COMPLETED") rfl)
  obtain ⟨_, _, ⟨T25, L25, k25, n25⟩, -, X25, ⟨Lc25, hQ25, l25, y25, z25⟩, st25⟩ := X24.virtualBack hx (y := (⟨"com/example/vanth/vanth/job/JobState", "isWaiting", "()Z"⟩ : MethodName)) (z := (⟨"com/example/vanth/vanth/job/JobState", "isWaiting", "()Z"⟩ : MethodName)) hown (mvT hZ (hw _ (List.mem_of_getElem? (i := 3) rfl))) (mvT hZ (hw _ (List.mem_of_getElem? (i := 4) rfl))) (notFace_of_selects (args := #[]) (mvT hZ (hw _ (List.mem_of_getElem? (i := 6) rfl)))) (mvT hZ (hw _ (List.mem_of_getElem? (i := 6) rfl))) (mvT hZ (hw _ (List.mem_of_getElem? (i := 5) rfl))) (by decide) (backOf (W := 0) (own_m4 l Z a0 hw [] A h0 n0 Z0 En ) hZ (hw _ (List.mem_of_getElem? (i := 7) rfl)) (hw _ (List.mem_of_getElem? (i := 1) rfl)) (by decide) (by decide)) q25a q25c (g := (mkF m 110 #[.val (.int p1), .val (.int (4 : Int32)), .val (.ref (A 4)), .val (.int (0 : Int32))] [(.ref (A 4))])) rfl (by rw [hml]; rfl) (Steps.refl _) (argsL := []) (rest := []) (lenOf own_pd0 rfl) rfl (by show 2 * 0 + _ ≤ _; exact Nat.le_of_eq rfl) (hb hby at_110) (fun _ _ => ⟨rfl, e24, (by decide : 0 + 0 ≤ _), (by decide : 0 + 0 ≤ _)⟩)
  dsimp only [Pt.U, Pt.locs, Pt.cells, Pt.slots] at X25 l25 y25 z25 st25 hQ25
  subst l25 y25 z25
  obtain ⟨rfl, N25q, e25⟩ := hQ25
  have N25 := Fr.app N0 N25q
  refine own_st (V := T25.setTop (mkF m 113 #[.val (.int p1), .val (.int (4 : Int32)), .val (.ref (A 4)), .val (.int (0 : Int32))] [(.int (0 : Int32))])) (fun t k => st25.trans k) ?_
  refine own_st (V := T25.setTop (mkF m 114 #[.val (.int p1), .val (.int (4 : Int32)), .val (.ref (A 4)), .val (.int (0 : Int32))] [(.int (0 : Int32)), (.int (0 : Int32))])) (fun t k => XS.iloadN X25.here hx rfl (hb hby at_113) rfl k) ?_
  refine own_st (V := T25.setTop (mkF m 117 #[.val (.int p1), .val (.int (4 : Int32)), .val (.ref (A 4)), .val (.int (0 : Int32))] [])) (fun t k => XS.icmpNo X25.here hx rfl (hb hby at_114) rfl (teq (by decide : (0 : Int32) = (0 : Int32))).2 k) ?_
  refine own_st (V := T25.setTop (mkF m 118 #[.val (.int p1), .val (.int (4 : Int32)), .val (.ref (A 4)), .val (.int (0 : Int32))] [(.int (1 : Int32))])) (fun t k => XS.iconst X25.here hx rfl (hb hby at_117) k) ?_
  refine own_st (V := T25.setTop (mkF m 122 #[.val (.int p1), .val (.int (4 : Int32)), .val (.ref (A 4)), .val (.int (0 : Int32))] [(.int (1 : Int32))])) (fun t k => XS.goto X25.here hx rfl (pc0 := 118) (pc' := 122) rfl (hb hby at_118) (by decide) (by decide) k) ?_
  exact own_ret X25 hx hlk Bd.returns (by decide +kernel) (Or.inl ⟨rfl, by simp, _, rfl⟩) (hb hby at_122) (by decide) (by decide) (by show own_Q0 Z p1 A h0 n0 _ T25.heap _; rw [e25]; exact ⟨rfl, N25⟩)
set_option maxRecDepth 65536 in
set_option maxHeartbeats 40000000 in
theorem own_law5 (l : Launch) (Z : State) (a0 : Array Value) (hw : ∀ d ∈ tables_1, d.before a0 Z = true) (ws : List Jvm.Cond) (p1 : Int32) (A : Nat → Addr) (h0 : Heap) (n0 : Nat) (Z0 : n0 ≤ h0.size) (En : own_En Z h0 A) (hk : (p1 &&& (7 : Int32)) = (5 : Int32)) :
    MetFree l x (head1 (Jvm.Cond.code x code maxLocals ret :: ws) room_1) (fun a U => a = #[(.int p1)] ∧ Z.Warmed39 U.vm ∧ U.heap = h0) (fun _ _ _ _ _ => True) (fun _ U o U' => ∃ v L, o = .returned v ∧ own_Q0 Z p1 A h0 n0 v U'.heap L ∧ FrameEnd U o U' L room_1.cells room_1.slots) := by
  refine MetFree.of_bodySF (plainFor_of_name own_pn_com_example_vanth_vanth_job_JobStateIsWaitingPinLaw) hisR ?_
  intro p e s m args below meth c s₁ Bd hml0 hP hK
  obtain ⟨rfl, hZ, hh⟩ := hP
  have hx := Bd.exec
  have hby := Bd.bytes
  have hml : c.maxLocals = 4 := hml0
  have hown : s.vm.findClass "com/example/vanth/vanth/job/JobStateIsWaitingPinLaw" = some m.cls := findClass_of_methodNamed Bd.named
  have hnm := (name_of_methodNamed Bd.named Bd.method).1
  have hlk : meth.locks = false := BodyLoose.notSynchronized Bd
  have X0 : Stand p l e room_1 s m #[(.int p1)] below meth c s₁ [] 0 0 := Stand.of_body Bd
  have e0 : s₁.heap = h0 := by rw [← hh, Bd.state]; rfl
  have N0 := Fr.nil n0
  show own_Go p e below #[(.int p1)] s (fun _ U o U' => ∃ v L, o = .returned v ∧ own_Q0 Z p1 A h0 n0 v U'.heap L ∧ FrameEnd U o U' L room_1.cells room_1.slots) (s₁.setTop (entryFrame m #[(.int p1)] maxLocals))
  refine own_st (V := s₁.setTop (mkF m 0 #[.val (.int p1), .unset, .unset, .unset] [])) (fun t k => castTop (by first | (simp [entryFrame, mkF, argsToLocals, Value.category, maxLocals]; done) | rfl) k) ?_
  refine own_st (V := s₁.setTop (mkF m 1 #[.val (.int p1), .unset, .unset, .unset] [(.int p1)])) (fun t k => XS.iloadN X0.here hx rfl (hb hby at_0) rfl k) ?_
  refine own_st (V := s₁.setTop (mkF m 3 #[.val (.int p1), .unset, .unset, .unset] [(.int (7 : Int32)), (.int p1)])) (fun t k => XS.bipush X0.here hx rfl (hb hby at_1) k) ?_
  refine own_st (V := s₁.setTop (mkF m 4 #[.val (.int p1), .unset, .unset, .unset] [(.int (p1 &&& (7 : Int32)))])) (fun t k => XS.iand X0.here hx rfl (hb hby at_3) rfl k) ?_
  rw [hk]
  refine own_st (V := s₁.setTop (mkF m 5 #[.val (.int p1), .val (.int (5 : Int32)), .unset, .unset] [])) (fun t k => XS.istoreN X0.here hx rfl (hb hby at_4) rfl (l' := #[.val (.int p1), .val (.int (5 : Int32)), .unset, .unset]) rfl k) ?_
  refine own_st (V := s₁.setTop (mkF m 6 #[.val (.int p1), .val (.int (5 : Int32)), .unset, .unset] [(.int (5 : Int32))])) (fun t k => XS.iloadN X0.here hx rfl (hb hby at_5) rfl k) ?_
  refine own_st (V := s₁.setTop (mkF m 18 #[.val (.int p1), .val (.int (5 : Int32)), .unset, .unset] [])) (fun t k => XS.ifYes X0.here hx rfl (pc0 := 6) (pc' := 18) rfl (hb hby at_6) rfl ((if0 _ _).trans (feq (by decide : ¬ ((5 : Int32) = (0 : Int32)))).2) (by decide) (by decide) k) ?_
  refine own_st (V := s₁.setTop (mkF m 19 #[.val (.int p1), .val (.int (5 : Int32)), .unset, .unset] [(.int (5 : Int32))])) (fun t k => XS.iloadN X0.here hx rfl (hb hby at_18) rfl k) ?_
  refine own_st (V := s₁.setTop (mkF m 20 #[.val (.int p1), .val (.int (5 : Int32)), .unset, .unset] [(.int (1 : Int32)), (.int (5 : Int32))])) (fun t k => XS.iconst X0.here hx rfl (hb hby at_19) k) ?_
  refine own_st (V := s₁.setTop (mkF m 32 #[.val (.int p1), .val (.int (5 : Int32)), .unset, .unset] [])) (fun t k => XS.icmpYes X0.here hx rfl (pc0 := 20) (pc' := 32) rfl (hb hby at_20) rfl (feq (by decide : ¬ ((5 : Int32) = (1 : Int32)))).2 (by decide) (by decide) k) ?_
  refine own_st (V := s₁.setTop (mkF m 33 #[.val (.int p1), .val (.int (5 : Int32)), .unset, .unset] [(.int (5 : Int32))])) (fun t k => XS.iloadN X0.here hx rfl (hb hby at_32) rfl k) ?_
  refine own_st (V := s₁.setTop (mkF m 34 #[.val (.int p1), .val (.int (5 : Int32)), .unset, .unset] [(.int (2 : Int32)), (.int (5 : Int32))])) (fun t k => XS.iconst X0.here hx rfl (hb hby at_33) k) ?_
  refine own_st (V := s₁.setTop (mkF m 46 #[.val (.int p1), .val (.int (5 : Int32)), .unset, .unset] [])) (fun t k => XS.icmpYes X0.here hx rfl (pc0 := 34) (pc' := 46) rfl (hb hby at_34) rfl (feq (by decide : ¬ ((5 : Int32) = (2 : Int32)))).2 (by decide) (by decide) k) ?_
  refine own_st (V := s₁.setTop (mkF m 47 #[.val (.int p1), .val (.int (5 : Int32)), .unset, .unset] [(.int (5 : Int32))])) (fun t k => XS.iloadN X0.here hx rfl (hb hby at_46) rfl k) ?_
  refine own_st (V := s₁.setTop (mkF m 48 #[.val (.int p1), .val (.int (5 : Int32)), .unset, .unset] [(.int (3 : Int32)), (.int (5 : Int32))])) (fun t k => XS.iconst X0.here hx rfl (hb hby at_47) k) ?_
  refine own_st (V := s₁.setTop (mkF m 60 #[.val (.int p1), .val (.int (5 : Int32)), .unset, .unset] [])) (fun t k => XS.icmpYes X0.here hx rfl (pc0 := 48) (pc' := 60) rfl (hb hby at_48) rfl (feq (by decide : ¬ ((5 : Int32) = (3 : Int32)))).2 (by decide) (by decide) k) ?_
  refine own_st (V := s₁.setTop (mkF m 61 #[.val (.int p1), .val (.int (5 : Int32)), .unset, .unset] [(.int (5 : Int32))])) (fun t k => XS.iloadN X0.here hx rfl (hb hby at_60) rfl k) ?_
  refine own_st (V := s₁.setTop (mkF m 62 #[.val (.int p1), .val (.int (5 : Int32)), .unset, .unset] [(.int (4 : Int32)), (.int (5 : Int32))])) (fun t k => XS.iconst X0.here hx rfl (hb hby at_61) k) ?_
  refine own_st (V := s₁.setTop (mkF m 74 #[.val (.int p1), .val (.int (5 : Int32)), .unset, .unset] [])) (fun t k => XS.icmpYes X0.here hx rfl (pc0 := 62) (pc' := 74) rfl (hb hby at_62) rfl (feq (by decide : ¬ ((5 : Int32) = (4 : Int32)))).2 (by decide) (by decide) k) ?_
  refine own_st (V := s₁.setTop (mkF m 75 #[.val (.int p1), .val (.int (5 : Int32)), .unset, .unset] [(.int (5 : Int32))])) (fun t k => XS.iloadN X0.here hx rfl (hb hby at_74) rfl k) ?_
  refine own_st (V := s₁.setTop (mkF m 76 #[.val (.int p1), .val (.int (5 : Int32)), .unset, .unset] [(.int (5 : Int32)), (.int (5 : Int32))])) (fun t k => XS.iconst X0.here hx rfl (hb hby at_75) k) ?_
  refine own_st (V := s₁.setTop (mkF m 79 #[.val (.int p1), .val (.int (5 : Int32)), .unset, .unset] [])) (fun t k => XS.icmpNo X0.here hx rfl (hb hby at_76) rfl (teq (by decide : (5 : Int32) = (5 : Int32))).2 k) ?_
  obtain ⟨T26, X26, e26, st26⟩ := getS2 X0 hx hZ hown (host := "") (Or.inl (hw _ (List.mem_of_getElem? (i := 23) rfl))) Via.refl e0 (own_S En 5 (i := 5) (n := "RETRYABLE") rfl) (g := (mkF m 79 #[.val (.int p1), .val (.int (5 : Int32)), .unset, .unset] [])) rfl (hb hby at_79)
  refine own_st (V := T26.setTop (mkF m 82 #[.val (.int p1), .val (.int (5 : Int32)), .unset, .unset] [(.ref (A 5))])) (fun t k => st26 _ k) ?_
  refine own_st (V := T26.setTop (mkF m 83 #[.val (.int p1), .val (.int (5 : Int32)), .val (.ref (A 5)), .unset] [])) (fun t k => XS.astoreN X26.here hx rfl (hb hby at_82) rfl rfl (l' := #[.val (.int p1), .val (.int (5 : Int32)), .val (.ref (A 5)), .unset]) rfl k) ?_
  refine own_st (V := T26.setTop (mkF m 84 #[.val (.int p1), .val (.int (5 : Int32)), .val (.ref (A 5)), .unset] [(.int (1 : Int32))])) (fun t k => XS.iconst X26.here hx rfl (hb hby at_83) k) ?_
  refine own_st (V := T26.setTop (mkF m 85 #[.val (.int p1), .val (.int (5 : Int32)), .val (.ref (A 5)), .val (.int (1 : Int32))] [])) (fun t k => XS.istoreN X26.here hx rfl (hb hby at_84) rfl (l' := #[.val (.int p1), .val (.int (5 : Int32)), .val (.ref (A 5)), .val (.int (1 : Int32))]) rfl k) ?_
  refine own_st (V := T26.setTop (mkF m 109 #[.val (.int p1), .val (.int (5 : Int32)), .val (.ref (A 5)), .val (.int (1 : Int32))] [])) (fun t k => XS.goto X26.here hx rfl (pc0 := 85) (pc' := 109) rfl (hb hby at_85) (by decide) (by decide) k) ?_
  refine own_st (V := T26.setTop (mkF m 110 #[.val (.int p1), .val (.int (5 : Int32)), .val (.ref (A 5)), .val (.int (1 : Int32))] [(.ref (A 5))])) (fun t k => XS.aloadN X26.here hx rfl (hb hby at_109) rfl rfl k) ?_
  obtain ⟨cq27, kq27, q27a, q27b, q27c⟩ := isOf hZ e26 (own_E En 5 (i := 5) (n := "RETRYABLE") rfl)
  obtain ⟨_, _, ⟨T27, L27, k27, n27⟩, -, X27, ⟨Lc27, hQ27, l27, y27, z27⟩, st27⟩ := X26.virtualBack hx (y := (⟨"com/example/vanth/vanth/job/JobState", "isWaiting", "()Z"⟩ : MethodName)) (z := (⟨"com/example/vanth/vanth/job/JobState", "isWaiting", "()Z"⟩ : MethodName)) hown (mvT hZ (hw _ (List.mem_of_getElem? (i := 3) rfl))) (mvT hZ (hw _ (List.mem_of_getElem? (i := 4) rfl))) (notFace_of_selects (args := #[]) (mvT hZ (hw _ (List.mem_of_getElem? (i := 6) rfl)))) (mvT hZ (hw _ (List.mem_of_getElem? (i := 6) rfl))) (mvT hZ (hw _ (List.mem_of_getElem? (i := 5) rfl))) (by decide) (backOf (W := 0) (own_m5 l Z a0 hw [] A h0 n0 Z0 En ) hZ (hw _ (List.mem_of_getElem? (i := 7) rfl)) (hw _ (List.mem_of_getElem? (i := 1) rfl)) (by decide) (by decide)) q27a q27c (g := (mkF m 110 #[.val (.int p1), .val (.int (5 : Int32)), .val (.ref (A 5)), .val (.int (1 : Int32))] [(.ref (A 5))])) rfl (by rw [hml]; rfl) (Steps.refl _) (argsL := []) (rest := []) (lenOf own_pd0 rfl) rfl (by show 2 * 0 + _ ≤ _; exact Nat.le_of_eq rfl) (hb hby at_110) (fun _ _ => ⟨rfl, e26, (by decide : 0 + 0 ≤ _), (by decide : 0 + 0 ≤ _)⟩)
  dsimp only [Pt.U, Pt.locs, Pt.cells, Pt.slots] at X27 l27 y27 z27 st27 hQ27
  subst l27 y27 z27
  obtain ⟨rfl, N27q, e27⟩ := hQ27
  have N27 := Fr.app N0 N27q
  refine own_st (V := T27.setTop (mkF m 113 #[.val (.int p1), .val (.int (5 : Int32)), .val (.ref (A 5)), .val (.int (1 : Int32))] [(.int (1 : Int32))])) (fun t k => st27.trans k) ?_
  refine own_st (V := T27.setTop (mkF m 114 #[.val (.int p1), .val (.int (5 : Int32)), .val (.ref (A 5)), .val (.int (1 : Int32))] [(.int (1 : Int32)), (.int (1 : Int32))])) (fun t k => XS.iloadN X27.here hx rfl (hb hby at_113) rfl k) ?_
  refine own_st (V := T27.setTop (mkF m 117 #[.val (.int p1), .val (.int (5 : Int32)), .val (.ref (A 5)), .val (.int (1 : Int32))] [])) (fun t k => XS.icmpNo X27.here hx rfl (hb hby at_114) rfl (teq (by decide : (1 : Int32) = (1 : Int32))).2 k) ?_
  refine own_st (V := T27.setTop (mkF m 118 #[.val (.int p1), .val (.int (5 : Int32)), .val (.ref (A 5)), .val (.int (1 : Int32))] [(.int (1 : Int32))])) (fun t k => XS.iconst X27.here hx rfl (hb hby at_117) k) ?_
  refine own_st (V := T27.setTop (mkF m 122 #[.val (.int p1), .val (.int (5 : Int32)), .val (.ref (A 5)), .val (.int (1 : Int32))] [(.int (1 : Int32))])) (fun t k => XS.goto X27.here hx rfl (pc0 := 118) (pc' := 122) rfl (hb hby at_118) (by decide) (by decide) k) ?_
  exact own_ret X27 hx hlk Bd.returns (by decide +kernel) (Or.inl ⟨rfl, by simp, _, rfl⟩) (hb hby at_122) (by decide) (by decide) (by show own_Q0 Z p1 A h0 n0 _ T27.heap _; rw [e27]; exact ⟨rfl, N27⟩)
set_option maxRecDepth 65536 in
set_option maxHeartbeats 40000000 in
theorem own_law6 (l : Launch) (Z : State) (a0 : Array Value) (hw : ∀ d ∈ tables_1, d.before a0 Z = true) (ws : List Jvm.Cond) (p1 : Int32) (A : Nat → Addr) (h0 : Heap) (n0 : Nat) (Z0 : n0 ≤ h0.size) (En : own_En Z h0 A) (hk : (p1 &&& (7 : Int32)) = (6 : Int32)) :
    MetFree l x (head1 (Jvm.Cond.code x code maxLocals ret :: ws) room_1) (fun a U => a = #[(.int p1)] ∧ Z.Warmed39 U.vm ∧ U.heap = h0) (fun _ _ _ _ _ => True) (fun _ U o U' => ∃ v L, o = .returned v ∧ own_Q0 Z p1 A h0 n0 v U'.heap L ∧ FrameEnd U o U' L room_1.cells room_1.slots) := by
  refine MetFree.of_bodySF (plainFor_of_name own_pn_com_example_vanth_vanth_job_JobStateIsWaitingPinLaw) hisR ?_
  intro p e s m args below meth c s₁ Bd hml0 hP hK
  obtain ⟨rfl, hZ, hh⟩ := hP
  have hx := Bd.exec
  have hby := Bd.bytes
  have hml : c.maxLocals = 4 := hml0
  have hown : s.vm.findClass "com/example/vanth/vanth/job/JobStateIsWaitingPinLaw" = some m.cls := findClass_of_methodNamed Bd.named
  have hnm := (name_of_methodNamed Bd.named Bd.method).1
  have hlk : meth.locks = false := BodyLoose.notSynchronized Bd
  have X0 : Stand p l e room_1 s m #[(.int p1)] below meth c s₁ [] 0 0 := Stand.of_body Bd
  have e0 : s₁.heap = h0 := by rw [← hh, Bd.state]; rfl
  have N0 := Fr.nil n0
  show own_Go p e below #[(.int p1)] s (fun _ U o U' => ∃ v L, o = .returned v ∧ own_Q0 Z p1 A h0 n0 v U'.heap L ∧ FrameEnd U o U' L room_1.cells room_1.slots) (s₁.setTop (entryFrame m #[(.int p1)] maxLocals))
  refine own_st (V := s₁.setTop (mkF m 0 #[.val (.int p1), .unset, .unset, .unset] [])) (fun t k => castTop (by first | (simp [entryFrame, mkF, argsToLocals, Value.category, maxLocals]; done) | rfl) k) ?_
  refine own_st (V := s₁.setTop (mkF m 1 #[.val (.int p1), .unset, .unset, .unset] [(.int p1)])) (fun t k => XS.iloadN X0.here hx rfl (hb hby at_0) rfl k) ?_
  refine own_st (V := s₁.setTop (mkF m 3 #[.val (.int p1), .unset, .unset, .unset] [(.int (7 : Int32)), (.int p1)])) (fun t k => XS.bipush X0.here hx rfl (hb hby at_1) k) ?_
  refine own_st (V := s₁.setTop (mkF m 4 #[.val (.int p1), .unset, .unset, .unset] [(.int (p1 &&& (7 : Int32)))])) (fun t k => XS.iand X0.here hx rfl (hb hby at_3) rfl k) ?_
  rw [hk]
  refine own_st (V := s₁.setTop (mkF m 5 #[.val (.int p1), .val (.int (6 : Int32)), .unset, .unset] [])) (fun t k => XS.istoreN X0.here hx rfl (hb hby at_4) rfl (l' := #[.val (.int p1), .val (.int (6 : Int32)), .unset, .unset]) rfl k) ?_
  refine own_st (V := s₁.setTop (mkF m 6 #[.val (.int p1), .val (.int (6 : Int32)), .unset, .unset] [(.int (6 : Int32))])) (fun t k => XS.iloadN X0.here hx rfl (hb hby at_5) rfl k) ?_
  refine own_st (V := s₁.setTop (mkF m 18 #[.val (.int p1), .val (.int (6 : Int32)), .unset, .unset] [])) (fun t k => XS.ifYes X0.here hx rfl (pc0 := 6) (pc' := 18) rfl (hb hby at_6) rfl ((if0 _ _).trans (feq (by decide : ¬ ((6 : Int32) = (0 : Int32)))).2) (by decide) (by decide) k) ?_
  refine own_st (V := s₁.setTop (mkF m 19 #[.val (.int p1), .val (.int (6 : Int32)), .unset, .unset] [(.int (6 : Int32))])) (fun t k => XS.iloadN X0.here hx rfl (hb hby at_18) rfl k) ?_
  refine own_st (V := s₁.setTop (mkF m 20 #[.val (.int p1), .val (.int (6 : Int32)), .unset, .unset] [(.int (1 : Int32)), (.int (6 : Int32))])) (fun t k => XS.iconst X0.here hx rfl (hb hby at_19) k) ?_
  refine own_st (V := s₁.setTop (mkF m 32 #[.val (.int p1), .val (.int (6 : Int32)), .unset, .unset] [])) (fun t k => XS.icmpYes X0.here hx rfl (pc0 := 20) (pc' := 32) rfl (hb hby at_20) rfl (feq (by decide : ¬ ((6 : Int32) = (1 : Int32)))).2 (by decide) (by decide) k) ?_
  refine own_st (V := s₁.setTop (mkF m 33 #[.val (.int p1), .val (.int (6 : Int32)), .unset, .unset] [(.int (6 : Int32))])) (fun t k => XS.iloadN X0.here hx rfl (hb hby at_32) rfl k) ?_
  refine own_st (V := s₁.setTop (mkF m 34 #[.val (.int p1), .val (.int (6 : Int32)), .unset, .unset] [(.int (2 : Int32)), (.int (6 : Int32))])) (fun t k => XS.iconst X0.here hx rfl (hb hby at_33) k) ?_
  refine own_st (V := s₁.setTop (mkF m 46 #[.val (.int p1), .val (.int (6 : Int32)), .unset, .unset] [])) (fun t k => XS.icmpYes X0.here hx rfl (pc0 := 34) (pc' := 46) rfl (hb hby at_34) rfl (feq (by decide : ¬ ((6 : Int32) = (2 : Int32)))).2 (by decide) (by decide) k) ?_
  refine own_st (V := s₁.setTop (mkF m 47 #[.val (.int p1), .val (.int (6 : Int32)), .unset, .unset] [(.int (6 : Int32))])) (fun t k => XS.iloadN X0.here hx rfl (hb hby at_46) rfl k) ?_
  refine own_st (V := s₁.setTop (mkF m 48 #[.val (.int p1), .val (.int (6 : Int32)), .unset, .unset] [(.int (3 : Int32)), (.int (6 : Int32))])) (fun t k => XS.iconst X0.here hx rfl (hb hby at_47) k) ?_
  refine own_st (V := s₁.setTop (mkF m 60 #[.val (.int p1), .val (.int (6 : Int32)), .unset, .unset] [])) (fun t k => XS.icmpYes X0.here hx rfl (pc0 := 48) (pc' := 60) rfl (hb hby at_48) rfl (feq (by decide : ¬ ((6 : Int32) = (3 : Int32)))).2 (by decide) (by decide) k) ?_
  refine own_st (V := s₁.setTop (mkF m 61 #[.val (.int p1), .val (.int (6 : Int32)), .unset, .unset] [(.int (6 : Int32))])) (fun t k => XS.iloadN X0.here hx rfl (hb hby at_60) rfl k) ?_
  refine own_st (V := s₁.setTop (mkF m 62 #[.val (.int p1), .val (.int (6 : Int32)), .unset, .unset] [(.int (4 : Int32)), (.int (6 : Int32))])) (fun t k => XS.iconst X0.here hx rfl (hb hby at_61) k) ?_
  refine own_st (V := s₁.setTop (mkF m 74 #[.val (.int p1), .val (.int (6 : Int32)), .unset, .unset] [])) (fun t k => XS.icmpYes X0.here hx rfl (pc0 := 62) (pc' := 74) rfl (hb hby at_62) rfl (feq (by decide : ¬ ((6 : Int32) = (4 : Int32)))).2 (by decide) (by decide) k) ?_
  refine own_st (V := s₁.setTop (mkF m 75 #[.val (.int p1), .val (.int (6 : Int32)), .unset, .unset] [(.int (6 : Int32))])) (fun t k => XS.iloadN X0.here hx rfl (hb hby at_74) rfl k) ?_
  refine own_st (V := s₁.setTop (mkF m 76 #[.val (.int p1), .val (.int (6 : Int32)), .unset, .unset] [(.int (5 : Int32)), (.int (6 : Int32))])) (fun t k => XS.iconst X0.here hx rfl (hb hby at_75) k) ?_
  refine own_st (V := s₁.setTop (mkF m 88 #[.val (.int p1), .val (.int (6 : Int32)), .unset, .unset] [])) (fun t k => XS.icmpYes X0.here hx rfl (pc0 := 76) (pc' := 88) rfl (hb hby at_76) rfl (feq (by decide : ¬ ((6 : Int32) = (5 : Int32)))).2 (by decide) (by decide) k) ?_
  refine own_st (V := s₁.setTop (mkF m 89 #[.val (.int p1), .val (.int (6 : Int32)), .unset, .unset] [(.int (6 : Int32))])) (fun t k => XS.iloadN X0.here hx rfl (hb hby at_88) rfl k) ?_
  refine own_st (V := s₁.setTop (mkF m 91 #[.val (.int p1), .val (.int (6 : Int32)), .unset, .unset] [(.int (6 : Int32)), (.int (6 : Int32))])) (fun t k => XS.bipush X0.here hx rfl (hb hby at_89) k) ?_
  refine own_st (V := s₁.setTop (mkF m 94 #[.val (.int p1), .val (.int (6 : Int32)), .unset, .unset] [])) (fun t k => XS.icmpNo X0.here hx rfl (hb hby at_91) rfl (teq (by decide : (6 : Int32) = (6 : Int32))).2 k) ?_
  obtain ⟨T28, X28, e28, st28⟩ := getS2 X0 hx hZ hown (host := "") (Or.inl (hw _ (List.mem_of_getElem? (i := 13) rfl))) Via.refl e0 (own_S En 6 (i := 6) (n := "CANCELLED") rfl) (g := (mkF m 94 #[.val (.int p1), .val (.int (6 : Int32)), .unset, .unset] [])) rfl (hb hby at_94)
  refine own_st (V := T28.setTop (mkF m 97 #[.val (.int p1), .val (.int (6 : Int32)), .unset, .unset] [(.ref (A 6))])) (fun t k => st28 _ k) ?_
  refine own_st (V := T28.setTop (mkF m 98 #[.val (.int p1), .val (.int (6 : Int32)), .val (.ref (A 6)), .unset] [])) (fun t k => XS.astoreN X28.here hx rfl (hb hby at_97) rfl rfl (l' := #[.val (.int p1), .val (.int (6 : Int32)), .val (.ref (A 6)), .unset]) rfl k) ?_
  refine own_st (V := T28.setTop (mkF m 99 #[.val (.int p1), .val (.int (6 : Int32)), .val (.ref (A 6)), .unset] [(.int (0 : Int32))])) (fun t k => XS.iconst X28.here hx rfl (hb hby at_98) k) ?_
  refine own_st (V := T28.setTop (mkF m 100 #[.val (.int p1), .val (.int (6 : Int32)), .val (.ref (A 6)), .val (.int (0 : Int32))] [])) (fun t k => XS.istoreN X28.here hx rfl (hb hby at_99) rfl (l' := #[.val (.int p1), .val (.int (6 : Int32)), .val (.ref (A 6)), .val (.int (0 : Int32))]) rfl k) ?_
  refine own_st (V := T28.setTop (mkF m 109 #[.val (.int p1), .val (.int (6 : Int32)), .val (.ref (A 6)), .val (.int (0 : Int32))] [])) (fun t k => XS.goto X28.here hx rfl (pc0 := 100) (pc' := 109) rfl (hb hby at_100) (by decide) (by decide) k) ?_
  refine own_st (V := T28.setTop (mkF m 110 #[.val (.int p1), .val (.int (6 : Int32)), .val (.ref (A 6)), .val (.int (0 : Int32))] [(.ref (A 6))])) (fun t k => XS.aloadN X28.here hx rfl (hb hby at_109) rfl rfl k) ?_
  obtain ⟨cq29, kq29, q29a, q29b, q29c⟩ := isOf hZ e28 (own_E En 6 (i := 6) (n := "CANCELLED") rfl)
  obtain ⟨_, _, ⟨T29, L29, k29, n29⟩, -, X29, ⟨Lc29, hQ29, l29, y29, z29⟩, st29⟩ := X28.virtualBack hx (y := (⟨"com/example/vanth/vanth/job/JobState", "isWaiting", "()Z"⟩ : MethodName)) (z := (⟨"com/example/vanth/vanth/job/JobState", "isWaiting", "()Z"⟩ : MethodName)) hown (mvT hZ (hw _ (List.mem_of_getElem? (i := 3) rfl))) (mvT hZ (hw _ (List.mem_of_getElem? (i := 4) rfl))) (notFace_of_selects (args := #[]) (mvT hZ (hw _ (List.mem_of_getElem? (i := 6) rfl)))) (mvT hZ (hw _ (List.mem_of_getElem? (i := 6) rfl))) (mvT hZ (hw _ (List.mem_of_getElem? (i := 5) rfl))) (by decide) (backOf (W := 0) (own_m6 l Z a0 hw [] A h0 n0 Z0 En ) hZ (hw _ (List.mem_of_getElem? (i := 7) rfl)) (hw _ (List.mem_of_getElem? (i := 1) rfl)) (by decide) (by decide)) q29a q29c (g := (mkF m 110 #[.val (.int p1), .val (.int (6 : Int32)), .val (.ref (A 6)), .val (.int (0 : Int32))] [(.ref (A 6))])) rfl (by rw [hml]; rfl) (Steps.refl _) (argsL := []) (rest := []) (lenOf own_pd0 rfl) rfl (by show 2 * 0 + _ ≤ _; exact Nat.le_of_eq rfl) (hb hby at_110) (fun _ _ => ⟨rfl, e28, (by decide : 0 + 0 ≤ _), (by decide : 0 + 0 ≤ _)⟩)
  dsimp only [Pt.U, Pt.locs, Pt.cells, Pt.slots] at X29 l29 y29 z29 st29 hQ29
  subst l29 y29 z29
  obtain ⟨rfl, N29q, e29⟩ := hQ29
  have N29 := Fr.app N0 N29q
  refine own_st (V := T29.setTop (mkF m 113 #[.val (.int p1), .val (.int (6 : Int32)), .val (.ref (A 6)), .val (.int (0 : Int32))] [(.int (0 : Int32))])) (fun t k => st29.trans k) ?_
  refine own_st (V := T29.setTop (mkF m 114 #[.val (.int p1), .val (.int (6 : Int32)), .val (.ref (A 6)), .val (.int (0 : Int32))] [(.int (0 : Int32)), (.int (0 : Int32))])) (fun t k => XS.iloadN X29.here hx rfl (hb hby at_113) rfl k) ?_
  refine own_st (V := T29.setTop (mkF m 117 #[.val (.int p1), .val (.int (6 : Int32)), .val (.ref (A 6)), .val (.int (0 : Int32))] [])) (fun t k => XS.icmpNo X29.here hx rfl (hb hby at_114) rfl (teq (by decide : (0 : Int32) = (0 : Int32))).2 k) ?_
  refine own_st (V := T29.setTop (mkF m 118 #[.val (.int p1), .val (.int (6 : Int32)), .val (.ref (A 6)), .val (.int (0 : Int32))] [(.int (1 : Int32))])) (fun t k => XS.iconst X29.here hx rfl (hb hby at_117) k) ?_
  refine own_st (V := T29.setTop (mkF m 122 #[.val (.int p1), .val (.int (6 : Int32)), .val (.ref (A 6)), .val (.int (0 : Int32))] [(.int (1 : Int32))])) (fun t k => XS.goto X29.here hx rfl (pc0 := 118) (pc' := 122) rfl (hb hby at_118) (by decide) (by decide) k) ?_
  exact own_ret X29 hx hlk Bd.returns (by decide +kernel) (Or.inl ⟨rfl, by simp, _, rfl⟩) (hb hby at_122) (by decide) (by decide) (by show own_Q0 Z p1 A h0 n0 _ T29.heap _; rw [e29]; exact ⟨rfl, N29⟩)
set_option maxRecDepth 65536 in
set_option maxHeartbeats 40000000 in
theorem own_law7 (l : Launch) (Z : State) (a0 : Array Value) (hw : ∀ d ∈ tables_1, d.before a0 Z = true) (ws : List Jvm.Cond) (p1 : Int32) (A : Nat → Addr) (h0 : Heap) (n0 : Nat) (Z0 : n0 ≤ h0.size) (En : own_En Z h0 A) (hk : (p1 &&& (7 : Int32)) = (7 : Int32)) :
    MetFree l x (head1 (Jvm.Cond.code x code maxLocals ret :: ws) room_1) (fun a U => a = #[(.int p1)] ∧ Z.Warmed39 U.vm ∧ U.heap = h0) (fun _ _ _ _ _ => True) (fun _ U o U' => ∃ v L, o = .returned v ∧ own_Q0 Z p1 A h0 n0 v U'.heap L ∧ FrameEnd U o U' L room_1.cells room_1.slots) := by
  refine MetFree.of_bodySF (plainFor_of_name own_pn_com_example_vanth_vanth_job_JobStateIsWaitingPinLaw) hisR ?_
  intro p e s m args below meth c s₁ Bd hml0 hP hK
  obtain ⟨rfl, hZ, hh⟩ := hP
  have hx := Bd.exec
  have hby := Bd.bytes
  have hml : c.maxLocals = 4 := hml0
  have hown : s.vm.findClass "com/example/vanth/vanth/job/JobStateIsWaitingPinLaw" = some m.cls := findClass_of_methodNamed Bd.named
  have hnm := (name_of_methodNamed Bd.named Bd.method).1
  have hlk : meth.locks = false := BodyLoose.notSynchronized Bd
  have X0 : Stand p l e room_1 s m #[(.int p1)] below meth c s₁ [] 0 0 := Stand.of_body Bd
  have e0 : s₁.heap = h0 := by rw [← hh, Bd.state]; rfl
  have N0 := Fr.nil n0
  show own_Go p e below #[(.int p1)] s (fun _ U o U' => ∃ v L, o = .returned v ∧ own_Q0 Z p1 A h0 n0 v U'.heap L ∧ FrameEnd U o U' L room_1.cells room_1.slots) (s₁.setTop (entryFrame m #[(.int p1)] maxLocals))
  refine own_st (V := s₁.setTop (mkF m 0 #[.val (.int p1), .unset, .unset, .unset] [])) (fun t k => castTop (by first | (simp [entryFrame, mkF, argsToLocals, Value.category, maxLocals]; done) | rfl) k) ?_
  refine own_st (V := s₁.setTop (mkF m 1 #[.val (.int p1), .unset, .unset, .unset] [(.int p1)])) (fun t k => XS.iloadN X0.here hx rfl (hb hby at_0) rfl k) ?_
  refine own_st (V := s₁.setTop (mkF m 3 #[.val (.int p1), .unset, .unset, .unset] [(.int (7 : Int32)), (.int p1)])) (fun t k => XS.bipush X0.here hx rfl (hb hby at_1) k) ?_
  refine own_st (V := s₁.setTop (mkF m 4 #[.val (.int p1), .unset, .unset, .unset] [(.int (p1 &&& (7 : Int32)))])) (fun t k => XS.iand X0.here hx rfl (hb hby at_3) rfl k) ?_
  rw [hk]
  refine own_st (V := s₁.setTop (mkF m 5 #[.val (.int p1), .val (.int (7 : Int32)), .unset, .unset] [])) (fun t k => XS.istoreN X0.here hx rfl (hb hby at_4) rfl (l' := #[.val (.int p1), .val (.int (7 : Int32)), .unset, .unset]) rfl k) ?_
  refine own_st (V := s₁.setTop (mkF m 6 #[.val (.int p1), .val (.int (7 : Int32)), .unset, .unset] [(.int (7 : Int32))])) (fun t k => XS.iloadN X0.here hx rfl (hb hby at_5) rfl k) ?_
  refine own_st (V := s₁.setTop (mkF m 18 #[.val (.int p1), .val (.int (7 : Int32)), .unset, .unset] [])) (fun t k => XS.ifYes X0.here hx rfl (pc0 := 6) (pc' := 18) rfl (hb hby at_6) rfl ((if0 _ _).trans (feq (by decide : ¬ ((7 : Int32) = (0 : Int32)))).2) (by decide) (by decide) k) ?_
  refine own_st (V := s₁.setTop (mkF m 19 #[.val (.int p1), .val (.int (7 : Int32)), .unset, .unset] [(.int (7 : Int32))])) (fun t k => XS.iloadN X0.here hx rfl (hb hby at_18) rfl k) ?_
  refine own_st (V := s₁.setTop (mkF m 20 #[.val (.int p1), .val (.int (7 : Int32)), .unset, .unset] [(.int (1 : Int32)), (.int (7 : Int32))])) (fun t k => XS.iconst X0.here hx rfl (hb hby at_19) k) ?_
  refine own_st (V := s₁.setTop (mkF m 32 #[.val (.int p1), .val (.int (7 : Int32)), .unset, .unset] [])) (fun t k => XS.icmpYes X0.here hx rfl (pc0 := 20) (pc' := 32) rfl (hb hby at_20) rfl (feq (by decide : ¬ ((7 : Int32) = (1 : Int32)))).2 (by decide) (by decide) k) ?_
  refine own_st (V := s₁.setTop (mkF m 33 #[.val (.int p1), .val (.int (7 : Int32)), .unset, .unset] [(.int (7 : Int32))])) (fun t k => XS.iloadN X0.here hx rfl (hb hby at_32) rfl k) ?_
  refine own_st (V := s₁.setTop (mkF m 34 #[.val (.int p1), .val (.int (7 : Int32)), .unset, .unset] [(.int (2 : Int32)), (.int (7 : Int32))])) (fun t k => XS.iconst X0.here hx rfl (hb hby at_33) k) ?_
  refine own_st (V := s₁.setTop (mkF m 46 #[.val (.int p1), .val (.int (7 : Int32)), .unset, .unset] [])) (fun t k => XS.icmpYes X0.here hx rfl (pc0 := 34) (pc' := 46) rfl (hb hby at_34) rfl (feq (by decide : ¬ ((7 : Int32) = (2 : Int32)))).2 (by decide) (by decide) k) ?_
  refine own_st (V := s₁.setTop (mkF m 47 #[.val (.int p1), .val (.int (7 : Int32)), .unset, .unset] [(.int (7 : Int32))])) (fun t k => XS.iloadN X0.here hx rfl (hb hby at_46) rfl k) ?_
  refine own_st (V := s₁.setTop (mkF m 48 #[.val (.int p1), .val (.int (7 : Int32)), .unset, .unset] [(.int (3 : Int32)), (.int (7 : Int32))])) (fun t k => XS.iconst X0.here hx rfl (hb hby at_47) k) ?_
  refine own_st (V := s₁.setTop (mkF m 60 #[.val (.int p1), .val (.int (7 : Int32)), .unset, .unset] [])) (fun t k => XS.icmpYes X0.here hx rfl (pc0 := 48) (pc' := 60) rfl (hb hby at_48) rfl (feq (by decide : ¬ ((7 : Int32) = (3 : Int32)))).2 (by decide) (by decide) k) ?_
  refine own_st (V := s₁.setTop (mkF m 61 #[.val (.int p1), .val (.int (7 : Int32)), .unset, .unset] [(.int (7 : Int32))])) (fun t k => XS.iloadN X0.here hx rfl (hb hby at_60) rfl k) ?_
  refine own_st (V := s₁.setTop (mkF m 62 #[.val (.int p1), .val (.int (7 : Int32)), .unset, .unset] [(.int (4 : Int32)), (.int (7 : Int32))])) (fun t k => XS.iconst X0.here hx rfl (hb hby at_61) k) ?_
  refine own_st (V := s₁.setTop (mkF m 74 #[.val (.int p1), .val (.int (7 : Int32)), .unset, .unset] [])) (fun t k => XS.icmpYes X0.here hx rfl (pc0 := 62) (pc' := 74) rfl (hb hby at_62) rfl (feq (by decide : ¬ ((7 : Int32) = (4 : Int32)))).2 (by decide) (by decide) k) ?_
  refine own_st (V := s₁.setTop (mkF m 75 #[.val (.int p1), .val (.int (7 : Int32)), .unset, .unset] [(.int (7 : Int32))])) (fun t k => XS.iloadN X0.here hx rfl (hb hby at_74) rfl k) ?_
  refine own_st (V := s₁.setTop (mkF m 76 #[.val (.int p1), .val (.int (7 : Int32)), .unset, .unset] [(.int (5 : Int32)), (.int (7 : Int32))])) (fun t k => XS.iconst X0.here hx rfl (hb hby at_75) k) ?_
  refine own_st (V := s₁.setTop (mkF m 88 #[.val (.int p1), .val (.int (7 : Int32)), .unset, .unset] [])) (fun t k => XS.icmpYes X0.here hx rfl (pc0 := 76) (pc' := 88) rfl (hb hby at_76) rfl (feq (by decide : ¬ ((7 : Int32) = (5 : Int32)))).2 (by decide) (by decide) k) ?_
  refine own_st (V := s₁.setTop (mkF m 89 #[.val (.int p1), .val (.int (7 : Int32)), .unset, .unset] [(.int (7 : Int32))])) (fun t k => XS.iloadN X0.here hx rfl (hb hby at_88) rfl k) ?_
  refine own_st (V := s₁.setTop (mkF m 91 #[.val (.int p1), .val (.int (7 : Int32)), .unset, .unset] [(.int (6 : Int32)), (.int (7 : Int32))])) (fun t k => XS.bipush X0.here hx rfl (hb hby at_89) k) ?_
  refine own_st (V := s₁.setTop (mkF m 103 #[.val (.int p1), .val (.int (7 : Int32)), .unset, .unset] [])) (fun t k => XS.icmpYes X0.here hx rfl (pc0 := 91) (pc' := 103) rfl (hb hby at_91) rfl (feq (by decide : ¬ ((7 : Int32) = (6 : Int32)))).2 (by decide) (by decide) k) ?_
  obtain ⟨T30, X30, e30, st30⟩ := getS2 X0 hx hZ hown (host := "") (Or.inl (hw _ (List.mem_of_getElem? (i := 15) rfl))) Via.refl e0 (own_S En 7 (i := 7) (n := "DISCARDED") rfl) (g := (mkF m 103 #[.val (.int p1), .val (.int (7 : Int32)), .unset, .unset] [])) rfl (hb hby at_103)
  refine own_st (V := T30.setTop (mkF m 106 #[.val (.int p1), .val (.int (7 : Int32)), .unset, .unset] [(.ref (A 7))])) (fun t k => st30 _ k) ?_
  refine own_st (V := T30.setTop (mkF m 107 #[.val (.int p1), .val (.int (7 : Int32)), .val (.ref (A 7)), .unset] [])) (fun t k => XS.astoreN X30.here hx rfl (hb hby at_106) rfl rfl (l' := #[.val (.int p1), .val (.int (7 : Int32)), .val (.ref (A 7)), .unset]) rfl k) ?_
  refine own_st (V := T30.setTop (mkF m 108 #[.val (.int p1), .val (.int (7 : Int32)), .val (.ref (A 7)), .unset] [(.int (0 : Int32))])) (fun t k => XS.iconst X30.here hx rfl (hb hby at_107) k) ?_
  refine own_st (V := T30.setTop (mkF m 109 #[.val (.int p1), .val (.int (7 : Int32)), .val (.ref (A 7)), .val (.int (0 : Int32))] [])) (fun t k => XS.istoreN X30.here hx rfl (hb hby at_108) rfl (l' := #[.val (.int p1), .val (.int (7 : Int32)), .val (.ref (A 7)), .val (.int (0 : Int32))]) rfl k) ?_
  refine own_st (V := T30.setTop (mkF m 110 #[.val (.int p1), .val (.int (7 : Int32)), .val (.ref (A 7)), .val (.int (0 : Int32))] [(.ref (A 7))])) (fun t k => XS.aloadN X30.here hx rfl (hb hby at_109) rfl rfl k) ?_
  obtain ⟨cq31, kq31, q31a, q31b, q31c⟩ := isOf hZ e30 (own_E En 7 (i := 7) (n := "DISCARDED") rfl)
  obtain ⟨_, _, ⟨T31, L31, k31, n31⟩, -, X31, ⟨Lc31, hQ31, l31, y31, z31⟩, st31⟩ := X30.virtualBack hx (y := (⟨"com/example/vanth/vanth/job/JobState", "isWaiting", "()Z"⟩ : MethodName)) (z := (⟨"com/example/vanth/vanth/job/JobState", "isWaiting", "()Z"⟩ : MethodName)) hown (mvT hZ (hw _ (List.mem_of_getElem? (i := 3) rfl))) (mvT hZ (hw _ (List.mem_of_getElem? (i := 4) rfl))) (notFace_of_selects (args := #[]) (mvT hZ (hw _ (List.mem_of_getElem? (i := 6) rfl)))) (mvT hZ (hw _ (List.mem_of_getElem? (i := 6) rfl))) (mvT hZ (hw _ (List.mem_of_getElem? (i := 5) rfl))) (by decide) (backOf (W := 0) (own_m7 l Z a0 hw [] A h0 n0 Z0 En ) hZ (hw _ (List.mem_of_getElem? (i := 7) rfl)) (hw _ (List.mem_of_getElem? (i := 1) rfl)) (by decide) (by decide)) q31a q31c (g := (mkF m 110 #[.val (.int p1), .val (.int (7 : Int32)), .val (.ref (A 7)), .val (.int (0 : Int32))] [(.ref (A 7))])) rfl (by rw [hml]; rfl) (Steps.refl _) (argsL := []) (rest := []) (lenOf own_pd0 rfl) rfl (by show 2 * 0 + _ ≤ _; exact Nat.le_of_eq rfl) (hb hby at_110) (fun _ _ => ⟨rfl, e30, (by decide : 0 + 0 ≤ _), (by decide : 0 + 0 ≤ _)⟩)
  dsimp only [Pt.U, Pt.locs, Pt.cells, Pt.slots] at X31 l31 y31 z31 st31 hQ31
  subst l31 y31 z31
  obtain ⟨rfl, N31q, e31⟩ := hQ31
  have N31 := Fr.app N0 N31q
  refine own_st (V := T31.setTop (mkF m 113 #[.val (.int p1), .val (.int (7 : Int32)), .val (.ref (A 7)), .val (.int (0 : Int32))] [(.int (0 : Int32))])) (fun t k => st31.trans k) ?_
  refine own_st (V := T31.setTop (mkF m 114 #[.val (.int p1), .val (.int (7 : Int32)), .val (.ref (A 7)), .val (.int (0 : Int32))] [(.int (0 : Int32)), (.int (0 : Int32))])) (fun t k => XS.iloadN X31.here hx rfl (hb hby at_113) rfl k) ?_
  refine own_st (V := T31.setTop (mkF m 117 #[.val (.int p1), .val (.int (7 : Int32)), .val (.ref (A 7)), .val (.int (0 : Int32))] [])) (fun t k => XS.icmpNo X31.here hx rfl (hb hby at_114) rfl (teq (by decide : (0 : Int32) = (0 : Int32))).2 k) ?_
  refine own_st (V := T31.setTop (mkF m 118 #[.val (.int p1), .val (.int (7 : Int32)), .val (.ref (A 7)), .val (.int (0 : Int32))] [(.int (1 : Int32))])) (fun t k => XS.iconst X31.here hx rfl (hb hby at_117) k) ?_
  refine own_st (V := T31.setTop (mkF m 122 #[.val (.int p1), .val (.int (7 : Int32)), .val (.ref (A 7)), .val (.int (0 : Int32))] [(.int (1 : Int32))])) (fun t k => XS.goto X31.here hx rfl (pc0 := 118) (pc' := 122) rfl (hb hby at_118) (by decide) (by decide) k) ?_
  exact own_ret X31 hx hlk Bd.returns (by decide +kernel) (Or.inl ⟨rfl, by simp, _, rfl⟩) (hb hby at_122) (by decide) (by decide) (by show own_Q0 Z p1 A h0 n0 _ T31.heap _; rw [e31]; exact ⟨rfl, N31⟩)
theorem own_law (l : Launch) (Z : State) (a0 : Array Value) (hw : ∀ d ∈ tables_1, d.before a0 Z = true) (ws : List Jvm.Cond) (p1 : Int32) (A : Nat → Addr) (h0 : Heap) (n0 : Nat) (Z0 : n0 ≤ h0.size) (En : own_En Z h0 A) :
    MetFree l x (head1 (Jvm.Cond.code x code maxLocals ret :: ws) room_1) (fun a U => a = #[(.int p1)] ∧ Z.Warmed39 U.vm ∧ U.heap = h0) (fun _ _ _ _ _ => True) (fun _ U o U' => ∃ v L, o = .returned v ∧ own_Q0 Z p1 A h0 n0 v U'.heap L ∧ FrameEnd U o U' L room_1.cells room_1.slots) := by
  rcases own_c p1 with h | h | h | h | h | h | h | h
  · exact own_law0 l Z a0 hw ws p1 A h0 n0 Z0 En h
  · exact own_law1 l Z a0 hw ws p1 A h0 n0 Z0 En h
  · exact own_law2 l Z a0 hw ws p1 A h0 n0 Z0 En h
  · exact own_law3 l Z a0 hw ws p1 A h0 n0 Z0 En h
  · exact own_law4 l Z a0 hw ws p1 A h0 n0 Z0 En h
  · exact own_law5 l Z a0 hw ws p1 A h0 n0 Z0 En h
  · exact own_law6 l Z a0 hw ws p1 A h0 n0 Z0 En h
  · exact own_law7 l Z a0 hw ws p1 A h0 n0 Z0 En h
set_option maxRecDepth 65536 in
set_option maxHeartbeats 40000000 in
theorem comes_1 {Post : Tables → Env → Array Value → State → Outcome → State → Prop} (hpost : ∀ tb e args s v u, (limb_1_1.after args s (.returned v) u = true ∧ limb_1_2.after args s (.returned v) u = true ∧ True) → FrameEnd s (.returned v) u (Jvm.fieldLocs frame_1_writes args s ++ Jvm.arrayLocs frame_1_arrays args s ++ Jvm.staticLocs frame_1_statics s) 0 0 → Post tb e args s (.returned v) u) :
    ArmFor flags0 classFile x code maxLocals ret World_1 tables_1 room_1 Calls_1 rest_1 Pre_1 Post := by
  intro l hfl _ _ p e ha hc hk s m args below hf hA hF happ hP
  obtain ⟨hcalls, hrest, hpre⟩ := hP
  obtain ⟨-, -, -, hnamed, -, -, -, hat⟩ := (Spec.applies_iff hf).mp happ
  obtain ⟨hg, hn⟩ := and_e (Cond.before_iff.mp (show (Jvm.Cond.and given_1 narrow_1).before args s = true from hpre))
  obtain ⟨g0, g1⟩ := and_e hg
  obtain ⟨w0, rfl⟩ : ∃ w0 : Value, args = #[w0] := by
    have hs : args.size = 1 := by simpa [Cond.value, given_1] using g0
    obtain ⟨L⟩ := args
    match L, hs with
    | [w0], _ => exact ⟨w0, rfl⟩
  have hw := fun d (hd : d ∈ tables_1) => atoms_spec (ws := Jvm.Cond.code x code maxLocals ret :: tables_1) hat d (List.mem_cons_of_mem _ hd)
  have hfit : Fit s := fun {y c} hc i hi => by
    obtain ⟨ha, rfl⟩ := Array.getElem?_eq_some_iff.mp hc
    have q := List.all_eq_true.mp ((Array.all_eq_true_iff_forall_mem.mp hF) _ (Array.getElem_mem ha)) i (List.mem_range.mpr hi)
    simpa [Array.getElem?_eq_getElem hi] using q
  obtain ⟨i0, ei0⟩ := is_v g1
  obtain rfl : w0 = (.int i0) := Option.some.inj ei0
  obtain ⟨nz0, nr0⟩ := and_e hn
  obtain ⟨nz1, nr1⟩ := and_e nr0
  obtain ⟨nz2, nr2⟩ := and_e nr1
  obtain ⟨nz3, nr3⟩ := and_e nr2
  obtain ⟨nz4, nr4⟩ := and_e nr3
  obtain ⟨nz5, nr5⟩ := and_e nr4
  obtain ⟨nz6, nr6⟩ := and_e nr5
  obtain ⟨nz7, nr7⟩ := and_e nr6
  obtain ⟨nz8, nr8⟩ := and_e nr7
  obtain ⟨nz9, nr9⟩ := and_e nr8
  obtain ⟨nz10, nr10⟩ := and_e nr9
  obtain ⟨nz11, nr11⟩ := and_e nr10
  obtain ⟨nz12, nr12⟩ := and_e nr11
  obtain ⟨nz13, nr13⟩ := and_e nr12
  obtain ⟨nz14, nr14⟩ := and_e nr13
  have nz15 := nr14
  obtain ⟨a0, S0, E0, v0⟩ := own_sta nz0 (hw _ (List.mem_of_getElem? (i := 1) rfl)) (hw _ (List.mem_of_getElem? (i := 2) rfl))
  obtain ⟨a1, S1, E1, v1⟩ := own_sta nz12 (hw _ (List.mem_of_getElem? (i := 1) rfl)) (hw _ (List.mem_of_getElem? (i := 20) rfl))
  obtain ⟨a2, S2, E2, v2⟩ := own_sta nz10 (hw _ (List.mem_of_getElem? (i := 1) rfl)) (hw _ (List.mem_of_getElem? (i := 18) rfl))
  obtain ⟨a3, S3, E3, v3⟩ := own_sta nz1 (hw _ (List.mem_of_getElem? (i := 1) rfl)) (hw _ (List.mem_of_getElem? (i := 10) rfl))
  obtain ⟨a4, S4, E4, v4⟩ := own_sta nz14 (hw _ (List.mem_of_getElem? (i := 1) rfl)) (hw _ (List.mem_of_getElem? (i := 22) rfl))
  obtain ⟨a5, S5, E5, v5⟩ := own_sta nz4 (hw _ (List.mem_of_getElem? (i := 1) rfl)) (hw _ (List.mem_of_getElem? (i := 12) rfl))
  obtain ⟨a6, S6, E6, v6⟩ := own_sta nz6 (hw _ (List.mem_of_getElem? (i := 1) rfl)) (hw _ (List.mem_of_getElem? (i := 14) rfl))
  obtain ⟨a7, S7, E7, v7⟩ := own_sta nz8 (hw _ (List.mem_of_getElem? (i := 1) rfl)) (hw _ (List.mem_of_getElem? (i := 16) rfl))
  let A : Nat → Addr := fun i => [a0, a1, a2, a3, a4, a5, a6, a7].getD i 0
  have En : own_En s s.heap A := by
    intro q hq
    simp only [own_cs, List.mem_cons, List.not_mem_nil, or_false] at hq
    rcases hq with rfl | rfl | rfl | rfl | rfl | rfl | rfl | rfl
    · exact ⟨S0, E0, own_fld v0 nz3⟩
    · exact ⟨S1, E1, own_fld v1 nz13⟩
    · exact ⟨S2, E2, own_fld v2 nz11⟩
    · exact ⟨S3, E3, own_fld v3 nz2⟩
    · exact ⟨S4, E4, own_fld v4 nz15⟩
    · exact ⟨S5, E5, own_fld v5 nz5⟩
    · exact ⟨S6, E6, own_fld v6 nz7⟩
    · exact ⟨S7, E7, own_fld v7 nz9⟩
  obtain ⟨n, o, h1, h2, h3, _, L, rfl, ⟨rfl, N⟩, hq⟩ := own_law l s _ hw tables_1 i0 A s.heap s.heap.size (Nat.le_refl _) En p e ha hc hk s m _ below hf ((Spec.applies_iff_loose hf).mp happ).1 ⟨rfl, State.Warmed39.refl s, rfl⟩ trivial
  refine ⟨n, _, h1, h2, h3, hpost _ _ _ _ _ _ ⟨Cond.after_iff.mpr rfl, Cond.after_iff.mpr (eq_i res_at (Term.int_eval (1)) rfl), trivial⟩ ⟨hq.1, hq.2.1, (hq.2.2.sift fun y hy => Or.inr (N y hy)).mono (by decide) (by decide)⟩⟩
theorem main_1_1 : Claimed_1_1 := comes_1 fun _ _ _ _ _ _ h hF => ⟨h.1, hF⟩
theorem main_1_2 : Claimed_1_2 := comes_1 fun _ _ _ _ _ _ h hF => ⟨h.2.1, hF⟩
end Jvm.Pilot.@@N@@
namespace Jvm.Pilot.@@N@@
open Jvm Jvm.ClassFile Sem Op Lib Jvm.Free Jvm.Stand Jvm.Pilot.@@N@@.Jvm.D
/-! MADE BY PROGRAM (witnessworld.py) out of the Statement's table words and the real class files: 12 classes; the members and pool entries that the words name. The judged class is class 1, her method 1. -/
namespace start1
open Jvm.ClassFile
def u (s : String) : CpInfo := .utf8 (stringToUtf16 s)
/-- a pool by its gaps: so many unusable entries, then the entry; so many at the end -/
def gap : Nat → List CpInfo → List CpInfo
  | 0, r => r
  | n + 1, r => .unusable :: gap n r
def poolList (es : List (Nat × CpInfo)) (last : Nat) : List CpInfo := es.foldr (fun e r => gap e.1 (e.2 :: r)) (gap last [])
def pool (es : List (Nat × CpInfo)) (last : Nat) : Array CpInfo := ⟨poolList es last⟩
def fileOf (pool : Array CpInfo) (this : Nat) (attrs : Array Attribute := #[]) (ms : Array MethodInfo := #[]) (fl : Nat := 33) (sup : Nat := 0) (ifs : Array Nat := #[]) (fds : Array FieldInfo := #[]) : ClassFile where
  minorVersion := 0
  majorVersion := 65
  constantPool := pool
  accessFlags := fl
  thisClass := this
  superClass := sup
  interfaces := ifs
  fields := fds
  methods := ms
  attributes := attrs
def plain (name : String) (sup : Option ClassId) : Class where
  name := name
  kind := .ordinary
  loader := none
  accessFlags := 33
  super := sup
  interfaces := #[]
  cf := none
  fields := #[]
  methods := #[]
  instanceTypes := #[]
  staticTypes := #[]
  resolved := #[]
  callSites := []
  init := .initialized
  statics := none
  mirror := none

def pool0 : Array CpInfo := pool [(5, u "<init>"), (0, u "()V"), (1, .class_ 10), (1, u "java/lang/Object")] 113

def k0m0 : Method := { name := "<init>", desc := "()V", sig := { parameters := [], returnType := none }, accessFlags := 1, code := none }
/-- java/lang/Object -/
def k0 : Class := { plain "java/lang/Object" none with
  accessFlags := 33
  interfaces := #[]
  cf := some (fileOf pool0 8 #[] #[{ accessFlags := 1, nameIndex := 5, descriptorIndex := 6, attributes := #[] }] 33 0 #[] #[])
  fields := #[]
  methods := #[k0m0]
  instanceTypes := #[]
  staticTypes := #[]
  resolved := Array.replicate 124 none
  statics := none }

def pool1 : Array CpInfo := pool [(2, .class_ 4), (1, u "java/lang/Object"), (0, u "<init>"), (0, u "()V"), (0, .fieldref 8 9), (0, .class_ 10), (0, .nameAndType 11 12), (0, u "com/example/vanth/vanth/job/JobState"), (0, u "SCHEDULED"), (0, u "Lcom/example/vanth/vanth/job/JobState;"), (0, .fieldref 8 14), (0, .nameAndType 15 12), (0, u "AVAILABLE"), (0, .fieldref 8 17), (0, .nameAndType 18 12), (0, u "PENDING"), (0, .fieldref 8 20), (0, .nameAndType 21 12), (0, u "ACTIVE"), (0, .fieldref 8 23), (0, .nameAndType 24 12), (0, u "COMPLETED"), (0, .fieldref 8 26), (0, .nameAndType 27 12), (0, u "RETRYABLE"), (0, .fieldref 8 29), (0, .nameAndType 30 12), (0, u "CANCELLED"), (0, .fieldref 8 32), (0, .nameAndType 33 12), (0, u "DISCARDED"), (0, .methodref 8 35), (0, .nameAndType 36 37), (0, u "isWaiting"), (0, u "()Z"), (0, .class_ 39), (0, u "com/example/vanth/vanth/job/JobStateIsWaitingPinLaw"), (2, u "law"), (0, u "(I)Z")] 3

def k1m0 : Method := { name := "<init>", desc := "()V", sig := { parameters := [], returnType := none }, accessFlags := 1, code := none }
def k1c1 : Code := { maxStack := 2, maxLocals := 4, code := code, exceptionTable := #[], attributes := #[] }
def k1m1 : Method := { name := "law", desc := "(I)Z", sig := { parameters := [.int], returnType := some .boolean }, accessFlags := 9, code := some k1c1 }
/-- com/example/vanth/vanth/job/JobStateIsWaitingPinLaw -/
def k1 : Class := { plain "com/example/vanth/vanth/job/JobStateIsWaitingPinLaw" (some 0) with
  accessFlags := 49
  interfaces := #[]
  cf := some (fileOf pool1 38 #[] #[{ accessFlags := 1, nameIndex := 5, descriptorIndex := 6, attributes := #[] }, { accessFlags := 9, nameIndex := 42, descriptorIndex := 43, attributes := #[] }] 49 2 #[] #[])
  fields := #[]
  methods := #[k1m0, k1m1]
  instanceTypes := #[]
  staticTypes := #[]
  resolved := Array.replicate 47 none
  statics := none }

def pool2 : Array CpInfo := pool [(1, .class_ 2), (0, u "java/lang/constant/Constable"), (0, .class_ 4), (0, u "java/lang/Object")] 6

/-- java/lang/constant/Constable -/
def k2 : Class := { plain "java/lang/constant/Constable" (some 0) with
  accessFlags := 1537
  interfaces := #[]
  cf := some (fileOf pool2 1 #[] #[] 1537 3 #[] #[])
  fields := #[]
  methods := #[]
  instanceTypes := #[]
  staticTypes := #[]
  resolved := Array.replicate 11 none
  statics := none }

def pool3 : Array CpInfo := pool [(1, .class_ 2), (0, u "java/lang/Comparable"), (0, .class_ 4), (0, u "java/lang/Object")] 7

/-- java/lang/Comparable -/
def k3 : Class := { plain "java/lang/Comparable" (some 0) with
  accessFlags := 1537
  interfaces := #[]
  cf := some (fileOf pool3 1 #[] #[] 1537 3 #[] #[])
  fields := #[]
  methods := #[]
  instanceTypes := #[]
  staticTypes := #[]
  resolved := Array.replicate 12 none
  statics := none }

def pool4 : Array CpInfo := pool [(1, .class_ 2), (0, u "java/io/Serializable"), (0, .class_ 4), (0, u "java/lang/Object")] 2

/-- java/io/Serializable -/
def k4 : Class := { plain "java/io/Serializable" (some 0) with
  accessFlags := 1537
  interfaces := #[]
  cf := some (fileOf pool4 1 #[] #[] 1537 3 #[] #[])
  fields := #[]
  methods := #[]
  instanceTypes := #[]
  staticTypes := #[]
  resolved := Array.replicate 7 none
  statics := none }

def pool5 : Array CpInfo := pool [(2, .class_ 4), (1, u "java/lang/Enum"), (0, u "name"), (0, u "Ljava/lang/String;"), (2, u "ordinal"), (0, u "I"), (1, .class_ 14), (1, u "java/lang/Object"), (4, u "hash"), (86, .class_ 108), (1, u "java/lang/Enum$EnumDesc"), (2, .class_ 112), (0, u "java/lang/constant/Constable"), (0, .class_ 114), (0, u "java/lang/Comparable"), (0, .class_ 116), (0, u "java/io/Serializable")] 87

/-- java/lang/Enum -/
def k5 : Class := { plain "java/lang/Enum" (some 0) with
  accessFlags := 1057
  interfaces := #[2, 3, 4]
  cf := some (fileOf pool5 2 #[.nestMembers #[106]] #[] 1057 12 #[111, 113, 115] #[{ accessFlags := 18, nameIndex := 5, descriptorIndex := 6, attributes := #[] }, { accessFlags := 18, nameIndex := 9, descriptorIndex := 10, attributes := #[] }, { accessFlags := 2, nameIndex := 19, descriptorIndex := 10, attributes := #[] }])
  fields := #[{ name := "name", type := (.object "java/lang/String"), accessFlags := 18, slot := 0, constantValue := 0 }, { name := "ordinal", type := .int, accessFlags := 18, slot := 1, constantValue := 0 }, { name := "hash", type := .int, accessFlags := 2, slot := 2, constantValue := 0 }]
  methods := #[]
  instanceTypes := #[(.object "java/lang/String"), .int, .int]
  staticTypes := #[]
  resolved := Array.replicate 204 none
  statics := none }

def pool6 : Array CpInfo := pool [(1, .class_ 2), (0, u "com/example/vanth/vanth/job/JobState"), (0, .fieldref 1 4), (0, .nameAndType 5 6), (0, u "SCHEDULED"), (0, u "Lcom/example/vanth/vanth/job/JobState;"), (2, u "AVAILABLE"), (2, u "PENDING"), (2, u "ACTIVE"), (2, u "COMPLETED"), (0, .fieldref 1 20), (0, .nameAndType 21 6), (0, u "RETRYABLE"), (2, u "CANCELLED"), (2, u "DISCARDED"), (2, u "$VALUES"), (0, u "[Lcom/example/vanth/vanth/job/JobState;"), (6, .class_ 40), (1, u "java/lang/Enum"), (8, u "terminal"), (0, u "Z"), (39, u "()Z"), (0, u "isWaiting")] 7

def k6c0 : Code := { maxStack := 2, maxLocals := 1, code := prog_12_method_5_code, exceptionTable := #[], attributes := #[] }
def k6m0 : Method := { name := "isWaiting", desc := "()Z", sig := { parameters := [], returnType := some .boolean }, accessFlags := 1, code := some k6c0 }
/-- com/example/vanth/vanth/job/JobState -/
def k6 : Class := { plain "com/example/vanth/vanth/job/JobState" (some 5) with
  accessFlags := 16433
  interfaces := #[]
  cf := some (fileOf pool6 1 #[] #[{ accessFlags := 1, nameIndex := 91, descriptorIndex := 90, attributes := #[] }] 16433 38 #[] #[{ accessFlags := 16409, nameIndex := 5, descriptorIndex := 6, attributes := #[] }, { accessFlags := 16409, nameIndex := 9, descriptorIndex := 6, attributes := #[] }, { accessFlags := 16409, nameIndex := 12, descriptorIndex := 6, attributes := #[] }, { accessFlags := 16409, nameIndex := 15, descriptorIndex := 6, attributes := #[] }, { accessFlags := 16409, nameIndex := 18, descriptorIndex := 6, attributes := #[] }, { accessFlags := 16409, nameIndex := 21, descriptorIndex := 6, attributes := #[] }, { accessFlags := 16409, nameIndex := 24, descriptorIndex := 6, attributes := #[] }, { accessFlags := 16409, nameIndex := 27, descriptorIndex := 6, attributes := #[] }, { accessFlags := 18, nameIndex := 49, descriptorIndex := 50, attributes := #[] }, { accessFlags := 4122, nameIndex := 30, descriptorIndex := 31, attributes := #[] }])
  fields := #[{ name := "SCHEDULED", type := (.object "com/example/vanth/vanth/job/JobState"), accessFlags := 16409, slot := 0, constantValue := 0 }, { name := "AVAILABLE", type := (.object "com/example/vanth/vanth/job/JobState"), accessFlags := 16409, slot := 1, constantValue := 0 }, { name := "PENDING", type := (.object "com/example/vanth/vanth/job/JobState"), accessFlags := 16409, slot := 2, constantValue := 0 }, { name := "ACTIVE", type := (.object "com/example/vanth/vanth/job/JobState"), accessFlags := 16409, slot := 3, constantValue := 0 }, { name := "COMPLETED", type := (.object "com/example/vanth/vanth/job/JobState"), accessFlags := 16409, slot := 4, constantValue := 0 }, { name := "RETRYABLE", type := (.object "com/example/vanth/vanth/job/JobState"), accessFlags := 16409, slot := 5, constantValue := 0 }, { name := "CANCELLED", type := (.object "com/example/vanth/vanth/job/JobState"), accessFlags := 16409, slot := 6, constantValue := 0 }, { name := "DISCARDED", type := (.object "com/example/vanth/vanth/job/JobState"), accessFlags := 16409, slot := 7, constantValue := 0 }, { name := "terminal", type := .boolean, accessFlags := 18, slot := 3, constantValue := 0 }, { name := "$VALUES", type := (.array (.object "com/example/vanth/vanth/job/JobState")), accessFlags := 4122, slot := 8, constantValue := 0 }]
  methods := #[k6m0]
  instanceTypes := #[(.object "java/lang/String"), .int, .int, .boolean]
  staticTypes := #[(.object "com/example/vanth/vanth/job/JobState"), (.object "com/example/vanth/vanth/job/JobState"), (.object "com/example/vanth/vanth/job/JobState"), (.object "com/example/vanth/vanth/job/JobState"), (.object "com/example/vanth/vanth/job/JobState"), (.object "com/example/vanth/vanth/job/JobState"), (.object "com/example/vanth/vanth/job/JobState"), (.object "com/example/vanth/vanth/job/JobState"), (.array (.object "com/example/vanth/vanth/job/JobState"))]
  resolved := Array.replicate 99 none
  statics := some 0 }

def pool7 : Array CpInfo := pool [(1, u "java/lang/Cloneable"), (0, .class_ 1), (0, u "java/lang/Object"), (0, .class_ 3)] 3

/-- java/lang/Cloneable -/
def k7 : Class := { plain "java/lang/Cloneable" (some 0) with
  accessFlags := 1537
  interfaces := #[]
  cf := some (fileOf pool7 2 #[] #[] 1537 4 #[] #[])
  fields := #[]
  methods := #[]
  instanceTypes := #[]
  staticTypes := #[]
  resolved := Array.replicate 8 none
  statics := none }

/-- the primitive byte -/
def k8 : Class := { plain "byte" none with kind := .primitive 'B', accessFlags := 0x411 }
/-- [B -/
def k9 : Class := { plain "[B" (some 0) with kind := .array 8 .byte, interfaces := #[7, 4], accessFlags := 1041 }

/-- the primitive int -/
def k10 : Class := { plain "int" none with kind := .primitive 'I', accessFlags := 0x411 }
/-- [I -/
def k11 : Class := { plain "[I" (some 0) with kind := .array 10 .int, interfaces := #[7, 4], accessFlags := 1041 }

def heap : Heap := #[{ cls := 6, slots := #[.ref 1, .ref 2, .ref 3, .ref 4, .ref 5, .ref 6, .ref 7, .ref 8, .null], vm := .statics 6 },
  { cls := 6, slots := #[.null, .int 0, .int 0, .int (0)], vm := .none },
  { cls := 6, slots := #[.null, .int 1, .int 0, .int (0)], vm := .none },
  { cls := 6, slots := #[.null, .int 2, .int 0, .int (0)], vm := .none },
  { cls := 6, slots := #[.null, .int 3, .int 0, .int (0)], vm := .none },
  { cls := 6, slots := #[.null, .int 4, .int 0, .int (0)], vm := .none },
  { cls := 6, slots := #[.null, .int 5, .int 0, .int (0)], vm := .none },
  { cls := 6, slots := #[.null, .int 6, .int 0, .int (0)], vm := .none },
  { cls := 6, slots := #[.null, .int 7, .int 0, .int (0)], vm := .none }]
def classes : Array Class := #[k0, k1, k2, k3, k4, k5, k6, k7, k8, k9, k10, k11]
def interned : List (Array UInt16 × Addr) := []
def slotsUsed : Nat := 41
def theMethod : MethodId := ⟨1, 1⟩
def args0 : Array Value := #[.int 5]
def aboutOver (below : List Frame) : State where
  vm := { classes := classes, interned := interned.toArray }
  heap := heap
  slotsUsed := slotsUsed
  threads := #[{ frames := .invoking theMethod args0 :: below }]
def below0 : List Frame := [.native { method := ⟨0, 0⟩, args := #[] }]
def about1 : State := aboutOver below0
def p0 : Program := .bare "" "" ""
def e0 : Env := launch0.env 0 0 0
theorem w_frames : about1.frames = Frame.invoking theMethod args0 :: below0 := rfl
set_option maxRecDepth 65536 in
theorem w_args : argsFit about1.vm theMethod args0 = true := by decide +kernel
set_option maxRecDepth 65536 in
theorem w_heap : heapFits about1 = true := by decide +kernel
set_option maxRecDepth 65536 in
theorem w_runnable : about1.curStatus? = some .runnable := by decide +kernel
set_option maxRecDepth 65536 in
theorem w_alone : about1.alone = true := by decide +kernel
set_option maxRecDepth 65536 in
theorem w_named : about1.methodNamed? x = some theMethod := by decide +kernel
set_option maxRecDepth 65536 in
theorem w_hears : about1.hears theMethod below0 = true := by decide +kernel
set_option maxRecDepth 65536 in
theorem w_ripe : about1.ripe theMethod args0 below0 = true := by decide +kernel
theorem w_running : about1.status = .running := rfl
set_option maxRecDepth 65536 in
theorem w_room : about1.hasRoom e0.platform room_1 = true :=
  launch0.hasRoom_least _ room_1 (by decide +kernel) (by decide +kernel) (by decide +kernel) (by decide +kernel) (by decide +kernel) (by decide +kernel)
theorem allAtoms_all (ts : List Jvm.Cond) (a : Array Jvm.Value) (st : Jvm.State) : (allAtoms ts).before a st = ts.all (fun c => c.before a st) := by
  induction ts with
  | nil => rfl
  | cons c t ih =>
    show (Jvm.Cond.and c (allAtoms t)).before a st = _
    rw [Jvm.Cond.before_and, ih, List.all_cons]
def words1 : List Jvm.Cond := Jvm.Cond.code x code maxLocals ret :: tables_1
/-- a 'code' word, met by the world's own term for the bytes: nothing is compared byte by byte -/
theorem code_word {y : MethodName} {bytes : ByteArray} {mx : Nat} {rt : Option FieldType} {a : Array Value} {s : State} {m : MethodId} {meth : Method} {c : Code} (h1 : s.methodNamed? y = some m) (h2 : s.vm.method? m = some meth) (h3 : meth.code = some c) (h4 : c.code = bytes)
    (h5 : (c.maxLocals == mx && c.exceptionTable.isEmpty && decide (c.maxStack ≤ mostOperands) && decide (meth.sig.returnType = rt) && !meth.locks && decide (parseMethodDescriptor y.desc = some meth.sig)) = true) : (Jvm.Cond.code y bytes mx rt).before a s = true := by
  simp only [Bool.and_eq_true, beq_iff_eq, Bool.not_eq_true', decide_eq_true_eq] at h5
  obtain ⟨⟨⟨⟨⟨g1, g2⟩, g3⟩, g4⟩, g5⟩, g6⟩ := h5
  simp [Cond.before, Cond.holds, Cond.value, h1, h2, h3, h4, g1, g2, g3, g4, g5, g6]
def isCode : Jvm.Cond → Bool
  | .code _ _ _ _ => true
  | _ => false
theorem all_split {L : List Jvm.Cond} {P : Jvm.Cond → Bool} (h1 : L.all (fun c => isCode c || P c) = true) (h2 : ∀ c ∈ L.filter isCode, P c = true) : L.all P = true := by
  refine List.all_eq_true.mpr fun c hc => ?_
  have h := List.all_eq_true.mp h1 c hc
  rcases Bool.eq_false_or_eq_true (isCode c) with hi | hi
  · exact h2 c (List.mem_filter.mpr ⟨hc, hi⟩)
  · simpa [hi] using h
set_option maxRecDepth 65536 in
theorem w_c0 : (Jvm.Cond.code x code maxLocals ret).before args0 about1 = true := code_word (m := ⟨1, 1⟩) (meth := k1m1) (c := k1c1) (by decide +kernel) rfl rfl rfl (by decide +kernel)
set_option maxRecDepth 65536 in
theorem w_c1 : (Jvm.Cond.code ({ cls := "com/example/vanth/vanth/job/JobState", name := "isWaiting", desc := "()Z" } : Jvm.MethodName) prog_12_method_5_code (1 : Nat) (Option.some Jvm.ClassFile.FieldType.boolean)).before args0 about1 = true := code_word (m := ⟨6, 0⟩) (meth := k6m0) (c := k6c0) (by decide +kernel) rfl rfl rfl (by decide +kernel)
def codes1 : List Jvm.Cond := [Jvm.Cond.code x code maxLocals ret, Jvm.Cond.code ({ cls := "com/example/vanth/vanth/job/JobState", name := "isWaiting", desc := "()Z" } : Jvm.MethodName) prog_12_method_5_code (1 : Nat) (Option.some Jvm.ClassFile.FieldType.boolean)]
set_option maxRecDepth 65536 in
theorem codes_eq : words1.filter isCode = codes1 := rfl
theorem w_codes : ∀ c ∈ words1.filter isCode, c.before args0 about1 = true := by
  rw [codes_eq]
  intro c hc
  simp only [codes1, List.mem_cons, List.not_mem_nil, or_false] at hc
  rcases hc with rfl | rfl
  · exact w_c0
  · exact w_c1
set_option maxRecDepth 65536 in
theorem w_t1 : (words1.take 24).all (fun c => isCode c || c.before args0 about1) = true := by decide +kernel
set_option maxRecDepth 65536 in
theorem w_t2 : (words1.drop 24).all (fun c => isCode c || c.before args0 about1) = true := by decide +kernel
theorem w_tables : (allAtoms (Jvm.Cond.code x code maxLocals ret :: tables_1)).before args0 about1 = true := by
  rw [allAtoms_all]
  show words1.all (fun c => c.before args0 about1) = true
  refine all_split ?_ w_codes
  rw [← List.take_append_drop 24 words1, List.all_append, w_t1, w_t2]
  rfl
set_option maxRecDepth 65536 in
theorem w_case : (Jvm.Cond.and given_1 narrow_1).before args0 about1 = true := by decide +kernel
theorem w_applies : (headSpec (Jvm.Cond.code x code maxLocals ret :: tables_1) room_1).applies x e0.platform about1 = true :=
  (Spec.applies_iff w_frames).mpr ⟨w_running, w_runnable, w_alone, w_named, w_hears, w_ripe, w_room, w_tables⟩
theorem atStart : AtStart classFile x code maxLocals ret World_1 tables_1 room_1 Calls_1 rest_1 Pre_1 launch0 p0 e0 about1 theMethod args0 below0 :=
  ⟨lists_1, trivial, launch0.admits_env _ _ _, launch0.least_env, fairChoices_fair.cas, fairChoices_fair.clock, w_frames, w_args, w_heap, w_applies, trivial, trivial, w_case⟩
end start1
theorem witness_1 : WitnessClaimed_1 := ⟨start1.p0, start1.e0, start1.about1, start1.theMethod, start1.args0, start1.below0, start1.atStart⟩
end Jvm.Pilot.@@N@@
