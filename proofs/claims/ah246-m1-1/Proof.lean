import JvmDerived
import JvmDerived.Pilot.@@N@@Statement
import JvmDerived.Pilot.@@N@@Code
set_option linter.unusedVariables false
set_option linter.unusedSimpArgs false
namespace Jvm.RoadKit
open Sem ClassFile Op Lib Jvm.Stand Jvm.Free Jvm.LawKit
section Own
variable {p : Program} {l : Launch} {e : Env} {R : Room} {s : State} {m : MethodId} {args : Array Value} {below : List Frame} {meth : Method} {c : Code} {T : State} {locs : List Loc} {cells slots : Nat}
/-- the run from U comes to its end, and the end meets Q -/
def own_Go (p : Program) (e : Env) (below : List Frame) (args : Array Value) (s : State) (Q : Array Value → State → Outcome → State → Prop) (U : State) : Prop := ∃ s₂ o, Steps p.tables e below U s₂ ∧ s₂.status = .running ∧ Ended s₂ below o ∧ Q args s o s₂
theorem own_st {Q : Array Value → State → Outcome → State → Prop} {U V : State} (k : ∀ t, Steps p.tables e below V t → Steps p.tables e below U t) (h : own_Go p e below args s Q V) : own_Go p e below args s Q U := by
  obtain ⟨s2, o, h1, h2⟩ := h
  exact ⟨s2, o, k _ h1, h2⟩
theorem own_ret {Q : Option Value → Heap → List Loc → Prop} {rc rs : Nat} (X : Stand p l e R s m args below meth c T locs cells slots) (hx : p.tables.exec = Jvm.exec) {pc : Nat} {Ls : Array Slot} {w : Value} {t : FieldType} {i : Instr} {rest : List Value} (hlk : meth.locks = false) (hret : meth.sig.returnType = some t) (hn : narrow t w = w)
    (hi : (i = .ireturn ∧ (t = .int ∨ t = .boolean ∨ t = .byte ∨ t = .char ∨ t = .short) ∧ ∃ z, w = .int z) ∨ (i = .lreturn ∧ t = .long ∧ ∃ z, w = .long z) ∨ (i = .dreturn ∧ t = .double ∧ ∃ z, w = .double z) ∨ (i = .freturn ∧ t = .float ∧ ∃ z, w = .float z) ∨ (i = .areturn ∧ t.isReference = true ∧ w.isRef = true))
    (hd : decode c.code pc = .ok (i, 1)) (hc : cells ≤ rc) (hs : slots ≤ rs) (hQ : Q (some w) T.heap locs) :
    own_Go p e below args s (fun _ U o U' => ∃ v L, o = .returned v ∧ Q v U'.heap L ∧ FrameEnd U o U' L rc rs) (T.setTop (mkF m pc Ls (w :: rest))) := by
  obtain ⟨fs, hr, hrun, hended, hW, hsame⟩ := X.leave (v := some w) (fun h => by rw [hret] at h; cases h) hlk
  exact ⟨_, _, retOut X hx hret hn hi hd hr, hrun, hended, _, _, rfl, hQ, ⟨_, rfl⟩, hW, hsame.mono hc hs⟩
theorem own_ret0 {Q : Option Value → Heap → List Loc → Prop} {rc rs : Nat} (X : Stand p l e R s m args below meth c T locs cells slots) (hx : p.tables.exec = Jvm.exec) {pc : Nat} {Ls : Array Slot} (hlk : meth.locks = false) (hret : meth.sig.returnType = none)
    (hd : decode c.code pc = .ok (.return_, 1)) (hc : cells ≤ rc) (hs : slots ≤ rs) (hQ : Q none T.heap locs) :
    own_Go p e below args s (fun _ U o U' => ∃ v L, o = .returned v ∧ Q v U'.heap L ∧ FrameEnd U o U' L rc rs) (T.setTop (mkF m pc Ls [])) := by
  obtain ⟨fs, hr, hrun, hended, hW, hsame⟩ := X.leave (v := none) (fun _ => rfl) hlk
  exact ⟨_, _, X.returnOut hx hret hd hr, hrun, hended, _, _, rfl, hQ, ⟨_, rfl⟩, hW, hsame.mono hc hs⟩
/-- what the sheet says of a static that holds an object of its class -/
theorem own_sta {Z : State} {args : Array Value} {C n d K : String} (hx : (Jvm.Cond.exactly (.static C n d) K).value args Z none Z [] = some true) (wi : (Jvm.Cond.initialized C).before args Z = true) (wl : (Jvm.Cond.laysStatic C n d).before args Z = true) :
    ∃ a, Sta Z Z.heap C n d (.ref a) ∧ Exa Z Z.heap a K ∧ (Jvm.Term.static C n d).eval args Z none [] Z = some (.ref a) := by
  obtain ⟨a, ev⟩ := exa_v hx
  exact ⟨a, Sta.start ev (Or.inr ⟨wi, wl⟩), Exa.start ev hx, ev⟩
theorem own_eqi {Z : State} {args : Array Value} {t : Jvm.Term} {k : Int32} (h : (Jvm.Cond.eq t (.int k)).value args Z none Z [] = some true) : t.eval args Z none [] Z = some (.int k) := by
  cases hv : t.eval args Z none [] Z with
  | none => simp [Cond.value, Term.eval, hv] at h
  | some v => cases v <;> simp [Cond.value, Term.eval, hv] at h ⊢ <;> exact h
theorem own_fld {Z : State} {args : Array Value} {t : Jvm.Term} {C n d : String} {a : Addr} {k : Int32} (ev : t.eval args Z none [] Z = some (.ref a)) (h : (Jvm.Cond.eq (.field t C n d) (.int k)).value args Z none Z [] = some true) : Fld Z Z.heap a C n d (.int k) :=
  Fld.start ((fld_at ev).symm.trans (own_eqi h))
end Own
end Jvm.RoadKit
namespace Jvm.Pilot.@@N@@
open Jvm Jvm.ClassFile Sem Op Lib Jvm.Free Jvm.Stand Jvm.LawKit Jvm.RoadKit Bundle Jvm.Pilot.@@N@@.Jvm.D
def own_cs : List (Nat × String) := [(0, "NAME"), (1, "UPDATE"), (2, "UPDATE_FREQUENCY"), (3, "TRAILING_UPDATE"), (4, "NUMBER"), (5, "MULTIPLE"), (6, "UNIT"), (7, "PERIOD"), (8, "EXCEPT"), (9, "MONTH"), (10, "SEASON"), (11, "WITH"), (12, "ADDED_ISSUE"), (13, "INCLUDING"), (14, "BEGAN"), (15, "CEASED"), (16, "BEGAN_AND_CEASED")]
def own_En (Z : State) (h : Heap) (A : Nat → Addr) : Prop := ∀ q ∈ own_cs, Sta Z h "com/example/tempora/tempora/core/Terms$Role" q.2 "Lcom/example/tempora/tempora/core/Terms$Role;" (.ref (A q.1)) ∧ Exa Z h (A q.1) "com/example/tempora/tempora/core/Terms$Role" ∧ Fld Z h (A q.1) "java/lang/Enum" "ordinal" "I" (.int (Int32.ofNat q.1))
theorem own_S {Z : State} {h : Heap} {A : Nat → Addr} (En : own_En Z h A) (k : Nat) {i : Nat} {n : String} (q : own_cs[k]? = some (i, n)) : Sta Z h "com/example/tempora/tempora/core/Terms$Role" n "Lcom/example/tempora/tempora/core/Terms$Role;" (.ref (A i)) := (En _ (List.mem_of_getElem? q)).1
theorem own_E {Z : State} {h : Heap} {A : Nat → Addr} (En : own_En Z h A) (k : Nat) {i : Nat} {n : String} (q : own_cs[k]? = some (i, n)) : Exa Z h (A i) "com/example/tempora/tempora/core/Terms$Role" := (En _ (List.mem_of_getElem? q)).2.1
theorem own_O {Z : State} {h : Heap} {A : Nat → Addr} (En : own_En Z h A) (k : Nat) {i : Nat} {n : String} (q : own_cs[k]? = some (i, n)) : Fld Z h (A i) "java/lang/Enum" "ordinal" "I" (.int (Int32.ofNat i)) := (En _ (List.mem_of_getElem? q)).2.2
theorem own_ne {Z : State} {h : Heap} {A : Nat → Addr} (En : own_En Z h A) (k k' : Nat) {i j : Nat} {n n' : String} (q : own_cs[k]? = some (i, n)) (q' : own_cs[k']? = some (j, n')) (d : Int32.ofNat i ≠ Int32.ofNat j) : A i ≠ A j := (own_O En k q).ne (own_O En k' q') fun e => d (Value.int.inj e)
theorem own_En.ext {Z : State} {h h' : Heap} {A : Nat → Addr} (En : own_En Z h A) (E : Ext h h') : own_En Z h' A := fun q hq => by
  have r := En q hq
  exact ⟨r.1.ext E, r.2.1.ext E, r.2.2.ext E⟩
theorem own_En.wr {Z : State} {h h' : Heap} {A : Nat → Addr} {a : Addr} {sl : Nat} {v : Value} (En : own_En Z h A) (W : Wr h h' a sl v) (hne : ∀ q ∈ own_cs, A q.1 ≠ a) : own_En Z h' A := fun q hq => by
  have r := En q hq
  exact ⟨r.1.wr W, r.2.1.wr W, r.2.2.other W (Or.inl (hne q hq))⟩
def Q_own_m0 (Z : State) (A : Nat → Addr) (h0 : Heap) (n0 : Nat) (v : Option Value) (h : Heap) (L : List Loc) : Prop := v = some (.int (0 : Int32)) ∧ Fr n0 L ∧ h = h0
theorem own_d1_0 : decode prog_30_method_4_code 0 = .ok (.aload_n 0, 1) := by decide +kernel
theorem own_d1_1 : decode prog_30_method_4_code 1 = .ok (.getstatic 46, 3) := by decide +kernel
theorem own_d1_4 : decode prog_30_method_4_code 4 = .ok (.if_acmp .eq 17, 3) := by decide +kernel
theorem own_d1_7 : decode prog_30_method_4_code 7 = .ok (.aload_n 0, 1) := by decide +kernel
theorem own_d1_8 : decode prog_30_method_4_code 8 = .ok (.getstatic 49, 3) := by decide +kernel
theorem own_d1_11 : decode prog_30_method_4_code 11 = .ok (.if_acmp .eq 10, 3) := by decide +kernel
theorem own_d1_14 : decode prog_30_method_4_code 14 = .ok (.aload_n 0, 1) := by decide +kernel
theorem own_d1_15 : decode prog_30_method_4_code 15 = .ok (.getstatic 52, 3) := by decide +kernel
theorem own_d1_18 : decode prog_30_method_4_code 18 = .ok (.if_acmp .ne 7, 3) := by decide +kernel
theorem own_d1_25 : decode prog_30_method_4_code 25 = .ok (.iconst 0, 1) := by decide +kernel
theorem own_d1_26 : decode prog_30_method_4_code 26 = .ok (.ireturn, 1) := by decide +kernel
theorem own_pn_com_example_tempora_tempora_core_Terms_Role : plainName "com/example/tempora/tempora/core/Terms$Role" = true := by first | (simp [plainName, overriddenIn]; done) | decide +kernel
set_option maxRecDepth 65536 in
set_option maxHeartbeats 40000000 in
theorem own_m0 (l : Launch) (Z : State) (a0 : Array Value) (hw : ∀ d ∈ tables_1, d.before a0 Z = true) (ws : List Jvm.Cond) (A : Nat → Addr) (h0 : Heap) (n0 : Nat) (Z0 : n0 ≤ h0.size) (En : own_En Z h0 A) :
    MetFree l (⟨"com/example/tempora/tempora/core/Terms$Role", "isNotePhrase", "()Z"⟩ : MethodName) (head1 (Jvm.Cond.code (⟨"com/example/tempora/tempora/core/Terms$Role", "isNotePhrase", "()Z"⟩ : MethodName) prog_30_method_4_code 1 (some .boolean) :: ws) ({ frames := 0, cells := 0, slots := 0, locals := 0 } : Room)) (fun a U => a = #[(.ref (A 0))] ∧ Z.Warmed39 U.vm ∧ U.heap = h0) (fun _ _ _ _ _ => True) (fun _ U o U' => ∃ v L, o = .returned v ∧ Q_own_m0 Z A h0 n0 v U'.heap L ∧ FrameEnd U o U' L ({ frames := 0, cells := 0, slots := 0, locals := 0 } : Room).cells ({ frames := 0, cells := 0, slots := 0, locals := 0 } : Room).slots) := by
  refine MetFree.of_bodySF (plainFor_of_name own_pn_com_example_tempora_tempora_core_Terms_Role) hisR ?_
  intro p e s m args below meth c s₁ Bd hml0 hP hK
  obtain ⟨rfl, hZ, hh⟩ := hP
  have hx := Bd.exec
  have hby := Bd.bytes
  have hml : c.maxLocals = 1 := hml0
  have hown : s.vm.findClass "com/example/tempora/tempora/core/Terms$Role" = some m.cls := findClass_of_methodNamed Bd.named
  have hnm := (name_of_methodNamed Bd.named Bd.method).1
  have hlk : meth.locks = false := BodyLoose.notSynchronized Bd
  have X0 : Stand p l e ({ frames := 0, cells := 0, slots := 0, locals := 0 } : Room) s m #[(.ref (A 0))] below meth c s₁ [] 0 0 := Stand.of_body Bd
  have e0 : s₁.heap = h0 := by rw [← hh, Bd.state]; rfl
  have N0 := Fr.nil n0
  show own_Go p e below #[(.ref (A 0))] s (fun _ U o U' => ∃ v L, o = .returned v ∧ Q_own_m0 Z A h0 n0 v U'.heap L ∧ FrameEnd U o U' L ({ frames := 0, cells := 0, slots := 0, locals := 0 } : Room).cells ({ frames := 0, cells := 0, slots := 0, locals := 0 } : Room).slots) (s₁.setTop (entryFrame m #[(.ref (A 0))] 1))
  refine own_st (V := s₁.setTop (mkF m 0 #[.val (.ref (A 0))] [])) (fun t k => castTop (by first | (simp [entryFrame, mkF, argsToLocals, Value.category]; done) | rfl) k) ?_
  refine own_st (V := s₁.setTop (mkF m 1 #[.val (.ref (A 0))] [(.ref (A 0))])) (fun t k => XS.aloadN X0.here hx rfl (hb hby own_d1_0) rfl rfl k) ?_
  obtain ⟨T1, X1, e1, st1⟩ := getS2 X0 hx hZ hown (host := "") (Or.inl (hw _ (List.mem_of_getElem? (i := 44) rfl))) Via.refl e0 (own_S En 14 (i := 14) (n := "BEGAN") rfl) (g := (mkF m 1 #[.val (.ref (A 0))] [(.ref (A 0))])) rfl (hb hby own_d1_1)
  refine own_st (V := T1.setTop (mkF m 4 #[.val (.ref (A 0))] [(.ref (A 14)), (.ref (A 0))])) (fun t k => st1 _ k) ?_
  refine own_st (V := T1.setTop (mkF m 7 #[.val (.ref (A 0))] [])) (fun t k => Jvm.RoadKit.acmp (g := (mkF m 4 #[.val (.ref (A 0))] [(.ref (A 14)), (.ref (A 0))])) X1 hx rfl rfl rfl (pc0 := 4) (pc' := 7) (same := false) rfl (hb hby own_d1_4) rfl (decide_eq_false fun q => own_ne En 0 14 (i := 0) (n := "NAME") (j := 14) (n' := "BEGAN") rfl rfl (by decide) (Value.ref.inj q)) (by decide) (by decide) k) ?_
  refine own_st (V := T1.setTop (mkF m 8 #[.val (.ref (A 0))] [(.ref (A 0))])) (fun t k => XS.aloadN X1.here hx rfl (hb hby own_d1_7) rfl rfl k) ?_
  obtain ⟨T2, X2, e2, st2⟩ := getS2 X1 hx hZ hown (host := "") (Or.inl (hw _ (List.mem_of_getElem? (i := 45) rfl))) Via.refl e1 (own_S En 15 (i := 15) (n := "CEASED") rfl) (g := (mkF m 8 #[.val (.ref (A 0))] [(.ref (A 0))])) rfl (hb hby own_d1_8)
  refine own_st (V := T2.setTop (mkF m 11 #[.val (.ref (A 0))] [(.ref (A 15)), (.ref (A 0))])) (fun t k => st2 _ k) ?_
  refine own_st (V := T2.setTop (mkF m 14 #[.val (.ref (A 0))] [])) (fun t k => Jvm.RoadKit.acmp (g := (mkF m 11 #[.val (.ref (A 0))] [(.ref (A 15)), (.ref (A 0))])) X2 hx rfl rfl rfl (pc0 := 11) (pc' := 14) (same := false) rfl (hb hby own_d1_11) rfl (decide_eq_false fun q => own_ne En 0 15 (i := 0) (n := "NAME") (j := 15) (n' := "CEASED") rfl rfl (by decide) (Value.ref.inj q)) (by decide) (by decide) k) ?_
  refine own_st (V := T2.setTop (mkF m 15 #[.val (.ref (A 0))] [(.ref (A 0))])) (fun t k => XS.aloadN X2.here hx rfl (hb hby own_d1_14) rfl rfl k) ?_
  obtain ⟨T3, X3, e3, st3⟩ := getS2 X2 hx hZ hown (host := "") (Or.inl (hw _ (List.mem_of_getElem? (i := 46) rfl))) Via.refl e2 (own_S En 16 (i := 16) (n := "BEGAN_AND_CEASED") rfl) (g := (mkF m 15 #[.val (.ref (A 0))] [(.ref (A 0))])) rfl (hb hby own_d1_15)
  refine own_st (V := T3.setTop (mkF m 18 #[.val (.ref (A 0))] [(.ref (A 16)), (.ref (A 0))])) (fun t k => st3 _ k) ?_
  refine own_st (V := T3.setTop (mkF m 25 #[.val (.ref (A 0))] [])) (fun t k => Jvm.RoadKit.acmp (g := (mkF m 18 #[.val (.ref (A 0))] [(.ref (A 16)), (.ref (A 0))])) X3 hx rfl rfl rfl (pc0 := 18) (pc' := 25) (same := false) rfl (hb hby own_d1_18) rfl (decide_eq_false fun q => own_ne En 0 16 (i := 0) (n := "NAME") (j := 16) (n' := "BEGAN_AND_CEASED") rfl rfl (by decide) (Value.ref.inj q)) (by decide) (by decide) k) ?_
  refine own_st (V := T3.setTop (mkF m 26 #[.val (.ref (A 0))] [(.int (0 : Int32))])) (fun t k => XS.iconst X3.here hx rfl (hb hby own_d1_25) k) ?_
  exact own_ret X3 hx hlk Bd.returns (by decide +kernel) (Or.inl ⟨rfl, by simp, _, rfl⟩) (hb hby own_d1_26) (by decide) (by decide) (by show Q_own_m0 Z A h0 n0 _ T3.heap _; rw [e3]; exact ⟨rfl, N0, rfl⟩)
def Q_own_m1 (Z : State) (A : Nat → Addr) (h0 : Heap) (n0 : Nat) (v : Option Value) (h : Heap) (L : List Loc) : Prop := v = some (.int (0 : Int32)) ∧ Fr n0 L ∧ h = h0
set_option maxRecDepth 65536 in
set_option maxHeartbeats 40000000 in
theorem own_m1 (l : Launch) (Z : State) (a0 : Array Value) (hw : ∀ d ∈ tables_1, d.before a0 Z = true) (ws : List Jvm.Cond) (A : Nat → Addr) (h0 : Heap) (n0 : Nat) (Z0 : n0 ≤ h0.size) (En : own_En Z h0 A) :
    MetFree l (⟨"com/example/tempora/tempora/core/Terms$Role", "isNotePhrase", "()Z"⟩ : MethodName) (head1 (Jvm.Cond.code (⟨"com/example/tempora/tempora/core/Terms$Role", "isNotePhrase", "()Z"⟩ : MethodName) prog_30_method_4_code 1 (some .boolean) :: ws) ({ frames := 0, cells := 0, slots := 0, locals := 0 } : Room)) (fun a U => a = #[(.ref (A 1))] ∧ Z.Warmed39 U.vm ∧ U.heap = h0) (fun _ _ _ _ _ => True) (fun _ U o U' => ∃ v L, o = .returned v ∧ Q_own_m1 Z A h0 n0 v U'.heap L ∧ FrameEnd U o U' L ({ frames := 0, cells := 0, slots := 0, locals := 0 } : Room).cells ({ frames := 0, cells := 0, slots := 0, locals := 0 } : Room).slots) := by
  refine MetFree.of_bodySF (plainFor_of_name own_pn_com_example_tempora_tempora_core_Terms_Role) hisR ?_
  intro p e s m args below meth c s₁ Bd hml0 hP hK
  obtain ⟨rfl, hZ, hh⟩ := hP
  have hx := Bd.exec
  have hby := Bd.bytes
  have hml : c.maxLocals = 1 := hml0
  have hown : s.vm.findClass "com/example/tempora/tempora/core/Terms$Role" = some m.cls := findClass_of_methodNamed Bd.named
  have hnm := (name_of_methodNamed Bd.named Bd.method).1
  have hlk : meth.locks = false := BodyLoose.notSynchronized Bd
  have X0 : Stand p l e ({ frames := 0, cells := 0, slots := 0, locals := 0 } : Room) s m #[(.ref (A 1))] below meth c s₁ [] 0 0 := Stand.of_body Bd
  have e0 : s₁.heap = h0 := by rw [← hh, Bd.state]; rfl
  have N0 := Fr.nil n0
  show own_Go p e below #[(.ref (A 1))] s (fun _ U o U' => ∃ v L, o = .returned v ∧ Q_own_m1 Z A h0 n0 v U'.heap L ∧ FrameEnd U o U' L ({ frames := 0, cells := 0, slots := 0, locals := 0 } : Room).cells ({ frames := 0, cells := 0, slots := 0, locals := 0 } : Room).slots) (s₁.setTop (entryFrame m #[(.ref (A 1))] 1))
  refine own_st (V := s₁.setTop (mkF m 0 #[.val (.ref (A 1))] [])) (fun t k => castTop (by first | (simp [entryFrame, mkF, argsToLocals, Value.category]; done) | rfl) k) ?_
  refine own_st (V := s₁.setTop (mkF m 1 #[.val (.ref (A 1))] [(.ref (A 1))])) (fun t k => XS.aloadN X0.here hx rfl (hb hby own_d1_0) rfl rfl k) ?_
  obtain ⟨T4, X4, e4, st4⟩ := getS2 X0 hx hZ hown (host := "") (Or.inl (hw _ (List.mem_of_getElem? (i := 44) rfl))) Via.refl e0 (own_S En 14 (i := 14) (n := "BEGAN") rfl) (g := (mkF m 1 #[.val (.ref (A 1))] [(.ref (A 1))])) rfl (hb hby own_d1_1)
  refine own_st (V := T4.setTop (mkF m 4 #[.val (.ref (A 1))] [(.ref (A 14)), (.ref (A 1))])) (fun t k => st4 _ k) ?_
  refine own_st (V := T4.setTop (mkF m 7 #[.val (.ref (A 1))] [])) (fun t k => Jvm.RoadKit.acmp (g := (mkF m 4 #[.val (.ref (A 1))] [(.ref (A 14)), (.ref (A 1))])) X4 hx rfl rfl rfl (pc0 := 4) (pc' := 7) (same := false) rfl (hb hby own_d1_4) rfl (decide_eq_false fun q => own_ne En 1 14 (i := 1) (n := "UPDATE") (j := 14) (n' := "BEGAN") rfl rfl (by decide) (Value.ref.inj q)) (by decide) (by decide) k) ?_
  refine own_st (V := T4.setTop (mkF m 8 #[.val (.ref (A 1))] [(.ref (A 1))])) (fun t k => XS.aloadN X4.here hx rfl (hb hby own_d1_7) rfl rfl k) ?_
  obtain ⟨T5, X5, e5, st5⟩ := getS2 X4 hx hZ hown (host := "") (Or.inl (hw _ (List.mem_of_getElem? (i := 45) rfl))) Via.refl e4 (own_S En 15 (i := 15) (n := "CEASED") rfl) (g := (mkF m 8 #[.val (.ref (A 1))] [(.ref (A 1))])) rfl (hb hby own_d1_8)
  refine own_st (V := T5.setTop (mkF m 11 #[.val (.ref (A 1))] [(.ref (A 15)), (.ref (A 1))])) (fun t k => st5 _ k) ?_
  refine own_st (V := T5.setTop (mkF m 14 #[.val (.ref (A 1))] [])) (fun t k => Jvm.RoadKit.acmp (g := (mkF m 11 #[.val (.ref (A 1))] [(.ref (A 15)), (.ref (A 1))])) X5 hx rfl rfl rfl (pc0 := 11) (pc' := 14) (same := false) rfl (hb hby own_d1_11) rfl (decide_eq_false fun q => own_ne En 1 15 (i := 1) (n := "UPDATE") (j := 15) (n' := "CEASED") rfl rfl (by decide) (Value.ref.inj q)) (by decide) (by decide) k) ?_
  refine own_st (V := T5.setTop (mkF m 15 #[.val (.ref (A 1))] [(.ref (A 1))])) (fun t k => XS.aloadN X5.here hx rfl (hb hby own_d1_14) rfl rfl k) ?_
  obtain ⟨T6, X6, e6, st6⟩ := getS2 X5 hx hZ hown (host := "") (Or.inl (hw _ (List.mem_of_getElem? (i := 46) rfl))) Via.refl e5 (own_S En 16 (i := 16) (n := "BEGAN_AND_CEASED") rfl) (g := (mkF m 15 #[.val (.ref (A 1))] [(.ref (A 1))])) rfl (hb hby own_d1_15)
  refine own_st (V := T6.setTop (mkF m 18 #[.val (.ref (A 1))] [(.ref (A 16)), (.ref (A 1))])) (fun t k => st6 _ k) ?_
  refine own_st (V := T6.setTop (mkF m 25 #[.val (.ref (A 1))] [])) (fun t k => Jvm.RoadKit.acmp (g := (mkF m 18 #[.val (.ref (A 1))] [(.ref (A 16)), (.ref (A 1))])) X6 hx rfl rfl rfl (pc0 := 18) (pc' := 25) (same := false) rfl (hb hby own_d1_18) rfl (decide_eq_false fun q => own_ne En 1 16 (i := 1) (n := "UPDATE") (j := 16) (n' := "BEGAN_AND_CEASED") rfl rfl (by decide) (Value.ref.inj q)) (by decide) (by decide) k) ?_
  refine own_st (V := T6.setTop (mkF m 26 #[.val (.ref (A 1))] [(.int (0 : Int32))])) (fun t k => XS.iconst X6.here hx rfl (hb hby own_d1_25) k) ?_
  exact own_ret X6 hx hlk Bd.returns (by decide +kernel) (Or.inl ⟨rfl, by simp, _, rfl⟩) (hb hby own_d1_26) (by decide) (by decide) (by show Q_own_m1 Z A h0 n0 _ T6.heap _; rw [e6]; exact ⟨rfl, N0, rfl⟩)
def Q_own_m2 (Z : State) (A : Nat → Addr) (h0 : Heap) (n0 : Nat) (v : Option Value) (h : Heap) (L : List Loc) : Prop := v = some (.int (0 : Int32)) ∧ Fr n0 L ∧ h = h0
set_option maxRecDepth 65536 in
set_option maxHeartbeats 40000000 in
theorem own_m2 (l : Launch) (Z : State) (a0 : Array Value) (hw : ∀ d ∈ tables_1, d.before a0 Z = true) (ws : List Jvm.Cond) (A : Nat → Addr) (h0 : Heap) (n0 : Nat) (Z0 : n0 ≤ h0.size) (En : own_En Z h0 A) :
    MetFree l (⟨"com/example/tempora/tempora/core/Terms$Role", "isNotePhrase", "()Z"⟩ : MethodName) (head1 (Jvm.Cond.code (⟨"com/example/tempora/tempora/core/Terms$Role", "isNotePhrase", "()Z"⟩ : MethodName) prog_30_method_4_code 1 (some .boolean) :: ws) ({ frames := 0, cells := 0, slots := 0, locals := 0 } : Room)) (fun a U => a = #[(.ref (A 2))] ∧ Z.Warmed39 U.vm ∧ U.heap = h0) (fun _ _ _ _ _ => True) (fun _ U o U' => ∃ v L, o = .returned v ∧ Q_own_m2 Z A h0 n0 v U'.heap L ∧ FrameEnd U o U' L ({ frames := 0, cells := 0, slots := 0, locals := 0 } : Room).cells ({ frames := 0, cells := 0, slots := 0, locals := 0 } : Room).slots) := by
  refine MetFree.of_bodySF (plainFor_of_name own_pn_com_example_tempora_tempora_core_Terms_Role) hisR ?_
  intro p e s m args below meth c s₁ Bd hml0 hP hK
  obtain ⟨rfl, hZ, hh⟩ := hP
  have hx := Bd.exec
  have hby := Bd.bytes
  have hml : c.maxLocals = 1 := hml0
  have hown : s.vm.findClass "com/example/tempora/tempora/core/Terms$Role" = some m.cls := findClass_of_methodNamed Bd.named
  have hnm := (name_of_methodNamed Bd.named Bd.method).1
  have hlk : meth.locks = false := BodyLoose.notSynchronized Bd
  have X0 : Stand p l e ({ frames := 0, cells := 0, slots := 0, locals := 0 } : Room) s m #[(.ref (A 2))] below meth c s₁ [] 0 0 := Stand.of_body Bd
  have e0 : s₁.heap = h0 := by rw [← hh, Bd.state]; rfl
  have N0 := Fr.nil n0
  show own_Go p e below #[(.ref (A 2))] s (fun _ U o U' => ∃ v L, o = .returned v ∧ Q_own_m2 Z A h0 n0 v U'.heap L ∧ FrameEnd U o U' L ({ frames := 0, cells := 0, slots := 0, locals := 0 } : Room).cells ({ frames := 0, cells := 0, slots := 0, locals := 0 } : Room).slots) (s₁.setTop (entryFrame m #[(.ref (A 2))] 1))
  refine own_st (V := s₁.setTop (mkF m 0 #[.val (.ref (A 2))] [])) (fun t k => castTop (by first | (simp [entryFrame, mkF, argsToLocals, Value.category]; done) | rfl) k) ?_
  refine own_st (V := s₁.setTop (mkF m 1 #[.val (.ref (A 2))] [(.ref (A 2))])) (fun t k => XS.aloadN X0.here hx rfl (hb hby own_d1_0) rfl rfl k) ?_
  obtain ⟨T7, X7, e7, st7⟩ := getS2 X0 hx hZ hown (host := "") (Or.inl (hw _ (List.mem_of_getElem? (i := 44) rfl))) Via.refl e0 (own_S En 14 (i := 14) (n := "BEGAN") rfl) (g := (mkF m 1 #[.val (.ref (A 2))] [(.ref (A 2))])) rfl (hb hby own_d1_1)
  refine own_st (V := T7.setTop (mkF m 4 #[.val (.ref (A 2))] [(.ref (A 14)), (.ref (A 2))])) (fun t k => st7 _ k) ?_
  refine own_st (V := T7.setTop (mkF m 7 #[.val (.ref (A 2))] [])) (fun t k => Jvm.RoadKit.acmp (g := (mkF m 4 #[.val (.ref (A 2))] [(.ref (A 14)), (.ref (A 2))])) X7 hx rfl rfl rfl (pc0 := 4) (pc' := 7) (same := false) rfl (hb hby own_d1_4) rfl (decide_eq_false fun q => own_ne En 2 14 (i := 2) (n := "UPDATE_FREQUENCY") (j := 14) (n' := "BEGAN") rfl rfl (by decide) (Value.ref.inj q)) (by decide) (by decide) k) ?_
  refine own_st (V := T7.setTop (mkF m 8 #[.val (.ref (A 2))] [(.ref (A 2))])) (fun t k => XS.aloadN X7.here hx rfl (hb hby own_d1_7) rfl rfl k) ?_
  obtain ⟨T8, X8, e8, st8⟩ := getS2 X7 hx hZ hown (host := "") (Or.inl (hw _ (List.mem_of_getElem? (i := 45) rfl))) Via.refl e7 (own_S En 15 (i := 15) (n := "CEASED") rfl) (g := (mkF m 8 #[.val (.ref (A 2))] [(.ref (A 2))])) rfl (hb hby own_d1_8)
  refine own_st (V := T8.setTop (mkF m 11 #[.val (.ref (A 2))] [(.ref (A 15)), (.ref (A 2))])) (fun t k => st8 _ k) ?_
  refine own_st (V := T8.setTop (mkF m 14 #[.val (.ref (A 2))] [])) (fun t k => Jvm.RoadKit.acmp (g := (mkF m 11 #[.val (.ref (A 2))] [(.ref (A 15)), (.ref (A 2))])) X8 hx rfl rfl rfl (pc0 := 11) (pc' := 14) (same := false) rfl (hb hby own_d1_11) rfl (decide_eq_false fun q => own_ne En 2 15 (i := 2) (n := "UPDATE_FREQUENCY") (j := 15) (n' := "CEASED") rfl rfl (by decide) (Value.ref.inj q)) (by decide) (by decide) k) ?_
  refine own_st (V := T8.setTop (mkF m 15 #[.val (.ref (A 2))] [(.ref (A 2))])) (fun t k => XS.aloadN X8.here hx rfl (hb hby own_d1_14) rfl rfl k) ?_
  obtain ⟨T9, X9, e9, st9⟩ := getS2 X8 hx hZ hown (host := "") (Or.inl (hw _ (List.mem_of_getElem? (i := 46) rfl))) Via.refl e8 (own_S En 16 (i := 16) (n := "BEGAN_AND_CEASED") rfl) (g := (mkF m 15 #[.val (.ref (A 2))] [(.ref (A 2))])) rfl (hb hby own_d1_15)
  refine own_st (V := T9.setTop (mkF m 18 #[.val (.ref (A 2))] [(.ref (A 16)), (.ref (A 2))])) (fun t k => st9 _ k) ?_
  refine own_st (V := T9.setTop (mkF m 25 #[.val (.ref (A 2))] [])) (fun t k => Jvm.RoadKit.acmp (g := (mkF m 18 #[.val (.ref (A 2))] [(.ref (A 16)), (.ref (A 2))])) X9 hx rfl rfl rfl (pc0 := 18) (pc' := 25) (same := false) rfl (hb hby own_d1_18) rfl (decide_eq_false fun q => own_ne En 2 16 (i := 2) (n := "UPDATE_FREQUENCY") (j := 16) (n' := "BEGAN_AND_CEASED") rfl rfl (by decide) (Value.ref.inj q)) (by decide) (by decide) k) ?_
  refine own_st (V := T9.setTop (mkF m 26 #[.val (.ref (A 2))] [(.int (0 : Int32))])) (fun t k => XS.iconst X9.here hx rfl (hb hby own_d1_25) k) ?_
  exact own_ret X9 hx hlk Bd.returns (by decide +kernel) (Or.inl ⟨rfl, by simp, _, rfl⟩) (hb hby own_d1_26) (by decide) (by decide) (by show Q_own_m2 Z A h0 n0 _ T9.heap _; rw [e9]; exact ⟨rfl, N0, rfl⟩)
def Q_own_m3 (Z : State) (A : Nat → Addr) (h0 : Heap) (n0 : Nat) (v : Option Value) (h : Heap) (L : List Loc) : Prop := v = some (.int (0 : Int32)) ∧ Fr n0 L ∧ h = h0
set_option maxRecDepth 65536 in
set_option maxHeartbeats 40000000 in
theorem own_m3 (l : Launch) (Z : State) (a0 : Array Value) (hw : ∀ d ∈ tables_1, d.before a0 Z = true) (ws : List Jvm.Cond) (A : Nat → Addr) (h0 : Heap) (n0 : Nat) (Z0 : n0 ≤ h0.size) (En : own_En Z h0 A) :
    MetFree l (⟨"com/example/tempora/tempora/core/Terms$Role", "isNotePhrase", "()Z"⟩ : MethodName) (head1 (Jvm.Cond.code (⟨"com/example/tempora/tempora/core/Terms$Role", "isNotePhrase", "()Z"⟩ : MethodName) prog_30_method_4_code 1 (some .boolean) :: ws) ({ frames := 0, cells := 0, slots := 0, locals := 0 } : Room)) (fun a U => a = #[(.ref (A 3))] ∧ Z.Warmed39 U.vm ∧ U.heap = h0) (fun _ _ _ _ _ => True) (fun _ U o U' => ∃ v L, o = .returned v ∧ Q_own_m3 Z A h0 n0 v U'.heap L ∧ FrameEnd U o U' L ({ frames := 0, cells := 0, slots := 0, locals := 0 } : Room).cells ({ frames := 0, cells := 0, slots := 0, locals := 0 } : Room).slots) := by
  refine MetFree.of_bodySF (plainFor_of_name own_pn_com_example_tempora_tempora_core_Terms_Role) hisR ?_
  intro p e s m args below meth c s₁ Bd hml0 hP hK
  obtain ⟨rfl, hZ, hh⟩ := hP
  have hx := Bd.exec
  have hby := Bd.bytes
  have hml : c.maxLocals = 1 := hml0
  have hown : s.vm.findClass "com/example/tempora/tempora/core/Terms$Role" = some m.cls := findClass_of_methodNamed Bd.named
  have hnm := (name_of_methodNamed Bd.named Bd.method).1
  have hlk : meth.locks = false := BodyLoose.notSynchronized Bd
  have X0 : Stand p l e ({ frames := 0, cells := 0, slots := 0, locals := 0 } : Room) s m #[(.ref (A 3))] below meth c s₁ [] 0 0 := Stand.of_body Bd
  have e0 : s₁.heap = h0 := by rw [← hh, Bd.state]; rfl
  have N0 := Fr.nil n0
  show own_Go p e below #[(.ref (A 3))] s (fun _ U o U' => ∃ v L, o = .returned v ∧ Q_own_m3 Z A h0 n0 v U'.heap L ∧ FrameEnd U o U' L ({ frames := 0, cells := 0, slots := 0, locals := 0 } : Room).cells ({ frames := 0, cells := 0, slots := 0, locals := 0 } : Room).slots) (s₁.setTop (entryFrame m #[(.ref (A 3))] 1))
  refine own_st (V := s₁.setTop (mkF m 0 #[.val (.ref (A 3))] [])) (fun t k => castTop (by first | (simp [entryFrame, mkF, argsToLocals, Value.category]; done) | rfl) k) ?_
  refine own_st (V := s₁.setTop (mkF m 1 #[.val (.ref (A 3))] [(.ref (A 3))])) (fun t k => XS.aloadN X0.here hx rfl (hb hby own_d1_0) rfl rfl k) ?_
  obtain ⟨T10, X10, e10, st10⟩ := getS2 X0 hx hZ hown (host := "") (Or.inl (hw _ (List.mem_of_getElem? (i := 44) rfl))) Via.refl e0 (own_S En 14 (i := 14) (n := "BEGAN") rfl) (g := (mkF m 1 #[.val (.ref (A 3))] [(.ref (A 3))])) rfl (hb hby own_d1_1)
  refine own_st (V := T10.setTop (mkF m 4 #[.val (.ref (A 3))] [(.ref (A 14)), (.ref (A 3))])) (fun t k => st10 _ k) ?_
  refine own_st (V := T10.setTop (mkF m 7 #[.val (.ref (A 3))] [])) (fun t k => Jvm.RoadKit.acmp (g := (mkF m 4 #[.val (.ref (A 3))] [(.ref (A 14)), (.ref (A 3))])) X10 hx rfl rfl rfl (pc0 := 4) (pc' := 7) (same := false) rfl (hb hby own_d1_4) rfl (decide_eq_false fun q => own_ne En 3 14 (i := 3) (n := "TRAILING_UPDATE") (j := 14) (n' := "BEGAN") rfl rfl (by decide) (Value.ref.inj q)) (by decide) (by decide) k) ?_
  refine own_st (V := T10.setTop (mkF m 8 #[.val (.ref (A 3))] [(.ref (A 3))])) (fun t k => XS.aloadN X10.here hx rfl (hb hby own_d1_7) rfl rfl k) ?_
  obtain ⟨T11, X11, e11, st11⟩ := getS2 X10 hx hZ hown (host := "") (Or.inl (hw _ (List.mem_of_getElem? (i := 45) rfl))) Via.refl e10 (own_S En 15 (i := 15) (n := "CEASED") rfl) (g := (mkF m 8 #[.val (.ref (A 3))] [(.ref (A 3))])) rfl (hb hby own_d1_8)
  refine own_st (V := T11.setTop (mkF m 11 #[.val (.ref (A 3))] [(.ref (A 15)), (.ref (A 3))])) (fun t k => st11 _ k) ?_
  refine own_st (V := T11.setTop (mkF m 14 #[.val (.ref (A 3))] [])) (fun t k => Jvm.RoadKit.acmp (g := (mkF m 11 #[.val (.ref (A 3))] [(.ref (A 15)), (.ref (A 3))])) X11 hx rfl rfl rfl (pc0 := 11) (pc' := 14) (same := false) rfl (hb hby own_d1_11) rfl (decide_eq_false fun q => own_ne En 3 15 (i := 3) (n := "TRAILING_UPDATE") (j := 15) (n' := "CEASED") rfl rfl (by decide) (Value.ref.inj q)) (by decide) (by decide) k) ?_
  refine own_st (V := T11.setTop (mkF m 15 #[.val (.ref (A 3))] [(.ref (A 3))])) (fun t k => XS.aloadN X11.here hx rfl (hb hby own_d1_14) rfl rfl k) ?_
  obtain ⟨T12, X12, e12, st12⟩ := getS2 X11 hx hZ hown (host := "") (Or.inl (hw _ (List.mem_of_getElem? (i := 46) rfl))) Via.refl e11 (own_S En 16 (i := 16) (n := "BEGAN_AND_CEASED") rfl) (g := (mkF m 15 #[.val (.ref (A 3))] [(.ref (A 3))])) rfl (hb hby own_d1_15)
  refine own_st (V := T12.setTop (mkF m 18 #[.val (.ref (A 3))] [(.ref (A 16)), (.ref (A 3))])) (fun t k => st12 _ k) ?_
  refine own_st (V := T12.setTop (mkF m 25 #[.val (.ref (A 3))] [])) (fun t k => Jvm.RoadKit.acmp (g := (mkF m 18 #[.val (.ref (A 3))] [(.ref (A 16)), (.ref (A 3))])) X12 hx rfl rfl rfl (pc0 := 18) (pc' := 25) (same := false) rfl (hb hby own_d1_18) rfl (decide_eq_false fun q => own_ne En 3 16 (i := 3) (n := "TRAILING_UPDATE") (j := 16) (n' := "BEGAN_AND_CEASED") rfl rfl (by decide) (Value.ref.inj q)) (by decide) (by decide) k) ?_
  refine own_st (V := T12.setTop (mkF m 26 #[.val (.ref (A 3))] [(.int (0 : Int32))])) (fun t k => XS.iconst X12.here hx rfl (hb hby own_d1_25) k) ?_
  exact own_ret X12 hx hlk Bd.returns (by decide +kernel) (Or.inl ⟨rfl, by simp, _, rfl⟩) (hb hby own_d1_26) (by decide) (by decide) (by show Q_own_m3 Z A h0 n0 _ T12.heap _; rw [e12]; exact ⟨rfl, N0, rfl⟩)
def Q_own_m4 (Z : State) (A : Nat → Addr) (h0 : Heap) (n0 : Nat) (v : Option Value) (h : Heap) (L : List Loc) : Prop := v = some (.int (0 : Int32)) ∧ Fr n0 L ∧ h = h0
set_option maxRecDepth 65536 in
set_option maxHeartbeats 40000000 in
theorem own_m4 (l : Launch) (Z : State) (a0 : Array Value) (hw : ∀ d ∈ tables_1, d.before a0 Z = true) (ws : List Jvm.Cond) (A : Nat → Addr) (h0 : Heap) (n0 : Nat) (Z0 : n0 ≤ h0.size) (En : own_En Z h0 A) :
    MetFree l (⟨"com/example/tempora/tempora/core/Terms$Role", "isNotePhrase", "()Z"⟩ : MethodName) (head1 (Jvm.Cond.code (⟨"com/example/tempora/tempora/core/Terms$Role", "isNotePhrase", "()Z"⟩ : MethodName) prog_30_method_4_code 1 (some .boolean) :: ws) ({ frames := 0, cells := 0, slots := 0, locals := 0 } : Room)) (fun a U => a = #[(.ref (A 4))] ∧ Z.Warmed39 U.vm ∧ U.heap = h0) (fun _ _ _ _ _ => True) (fun _ U o U' => ∃ v L, o = .returned v ∧ Q_own_m4 Z A h0 n0 v U'.heap L ∧ FrameEnd U o U' L ({ frames := 0, cells := 0, slots := 0, locals := 0 } : Room).cells ({ frames := 0, cells := 0, slots := 0, locals := 0 } : Room).slots) := by
  refine MetFree.of_bodySF (plainFor_of_name own_pn_com_example_tempora_tempora_core_Terms_Role) hisR ?_
  intro p e s m args below meth c s₁ Bd hml0 hP hK
  obtain ⟨rfl, hZ, hh⟩ := hP
  have hx := Bd.exec
  have hby := Bd.bytes
  have hml : c.maxLocals = 1 := hml0
  have hown : s.vm.findClass "com/example/tempora/tempora/core/Terms$Role" = some m.cls := findClass_of_methodNamed Bd.named
  have hnm := (name_of_methodNamed Bd.named Bd.method).1
  have hlk : meth.locks = false := BodyLoose.notSynchronized Bd
  have X0 : Stand p l e ({ frames := 0, cells := 0, slots := 0, locals := 0 } : Room) s m #[(.ref (A 4))] below meth c s₁ [] 0 0 := Stand.of_body Bd
  have e0 : s₁.heap = h0 := by rw [← hh, Bd.state]; rfl
  have N0 := Fr.nil n0
  show own_Go p e below #[(.ref (A 4))] s (fun _ U o U' => ∃ v L, o = .returned v ∧ Q_own_m4 Z A h0 n0 v U'.heap L ∧ FrameEnd U o U' L ({ frames := 0, cells := 0, slots := 0, locals := 0 } : Room).cells ({ frames := 0, cells := 0, slots := 0, locals := 0 } : Room).slots) (s₁.setTop (entryFrame m #[(.ref (A 4))] 1))
  refine own_st (V := s₁.setTop (mkF m 0 #[.val (.ref (A 4))] [])) (fun t k => castTop (by first | (simp [entryFrame, mkF, argsToLocals, Value.category]; done) | rfl) k) ?_
  refine own_st (V := s₁.setTop (mkF m 1 #[.val (.ref (A 4))] [(.ref (A 4))])) (fun t k => XS.aloadN X0.here hx rfl (hb hby own_d1_0) rfl rfl k) ?_
  obtain ⟨T13, X13, e13, st13⟩ := getS2 X0 hx hZ hown (host := "") (Or.inl (hw _ (List.mem_of_getElem? (i := 44) rfl))) Via.refl e0 (own_S En 14 (i := 14) (n := "BEGAN") rfl) (g := (mkF m 1 #[.val (.ref (A 4))] [(.ref (A 4))])) rfl (hb hby own_d1_1)
  refine own_st (V := T13.setTop (mkF m 4 #[.val (.ref (A 4))] [(.ref (A 14)), (.ref (A 4))])) (fun t k => st13 _ k) ?_
  refine own_st (V := T13.setTop (mkF m 7 #[.val (.ref (A 4))] [])) (fun t k => Jvm.RoadKit.acmp (g := (mkF m 4 #[.val (.ref (A 4))] [(.ref (A 14)), (.ref (A 4))])) X13 hx rfl rfl rfl (pc0 := 4) (pc' := 7) (same := false) rfl (hb hby own_d1_4) rfl (decide_eq_false fun q => own_ne En 4 14 (i := 4) (n := "NUMBER") (j := 14) (n' := "BEGAN") rfl rfl (by decide) (Value.ref.inj q)) (by decide) (by decide) k) ?_
  refine own_st (V := T13.setTop (mkF m 8 #[.val (.ref (A 4))] [(.ref (A 4))])) (fun t k => XS.aloadN X13.here hx rfl (hb hby own_d1_7) rfl rfl k) ?_
  obtain ⟨T14, X14, e14, st14⟩ := getS2 X13 hx hZ hown (host := "") (Or.inl (hw _ (List.mem_of_getElem? (i := 45) rfl))) Via.refl e13 (own_S En 15 (i := 15) (n := "CEASED") rfl) (g := (mkF m 8 #[.val (.ref (A 4))] [(.ref (A 4))])) rfl (hb hby own_d1_8)
  refine own_st (V := T14.setTop (mkF m 11 #[.val (.ref (A 4))] [(.ref (A 15)), (.ref (A 4))])) (fun t k => st14 _ k) ?_
  refine own_st (V := T14.setTop (mkF m 14 #[.val (.ref (A 4))] [])) (fun t k => Jvm.RoadKit.acmp (g := (mkF m 11 #[.val (.ref (A 4))] [(.ref (A 15)), (.ref (A 4))])) X14 hx rfl rfl rfl (pc0 := 11) (pc' := 14) (same := false) rfl (hb hby own_d1_11) rfl (decide_eq_false fun q => own_ne En 4 15 (i := 4) (n := "NUMBER") (j := 15) (n' := "CEASED") rfl rfl (by decide) (Value.ref.inj q)) (by decide) (by decide) k) ?_
  refine own_st (V := T14.setTop (mkF m 15 #[.val (.ref (A 4))] [(.ref (A 4))])) (fun t k => XS.aloadN X14.here hx rfl (hb hby own_d1_14) rfl rfl k) ?_
  obtain ⟨T15, X15, e15, st15⟩ := getS2 X14 hx hZ hown (host := "") (Or.inl (hw _ (List.mem_of_getElem? (i := 46) rfl))) Via.refl e14 (own_S En 16 (i := 16) (n := "BEGAN_AND_CEASED") rfl) (g := (mkF m 15 #[.val (.ref (A 4))] [(.ref (A 4))])) rfl (hb hby own_d1_15)
  refine own_st (V := T15.setTop (mkF m 18 #[.val (.ref (A 4))] [(.ref (A 16)), (.ref (A 4))])) (fun t k => st15 _ k) ?_
  refine own_st (V := T15.setTop (mkF m 25 #[.val (.ref (A 4))] [])) (fun t k => Jvm.RoadKit.acmp (g := (mkF m 18 #[.val (.ref (A 4))] [(.ref (A 16)), (.ref (A 4))])) X15 hx rfl rfl rfl (pc0 := 18) (pc' := 25) (same := false) rfl (hb hby own_d1_18) rfl (decide_eq_false fun q => own_ne En 4 16 (i := 4) (n := "NUMBER") (j := 16) (n' := "BEGAN_AND_CEASED") rfl rfl (by decide) (Value.ref.inj q)) (by decide) (by decide) k) ?_
  refine own_st (V := T15.setTop (mkF m 26 #[.val (.ref (A 4))] [(.int (0 : Int32))])) (fun t k => XS.iconst X15.here hx rfl (hb hby own_d1_25) k) ?_
  exact own_ret X15 hx hlk Bd.returns (by decide +kernel) (Or.inl ⟨rfl, by simp, _, rfl⟩) (hb hby own_d1_26) (by decide) (by decide) (by show Q_own_m4 Z A h0 n0 _ T15.heap _; rw [e15]; exact ⟨rfl, N0, rfl⟩)
def Q_own_m5 (Z : State) (A : Nat → Addr) (h0 : Heap) (n0 : Nat) (v : Option Value) (h : Heap) (L : List Loc) : Prop := v = some (.int (0 : Int32)) ∧ Fr n0 L ∧ h = h0
set_option maxRecDepth 65536 in
set_option maxHeartbeats 40000000 in
theorem own_m5 (l : Launch) (Z : State) (a0 : Array Value) (hw : ∀ d ∈ tables_1, d.before a0 Z = true) (ws : List Jvm.Cond) (A : Nat → Addr) (h0 : Heap) (n0 : Nat) (Z0 : n0 ≤ h0.size) (En : own_En Z h0 A) :
    MetFree l (⟨"com/example/tempora/tempora/core/Terms$Role", "isNotePhrase", "()Z"⟩ : MethodName) (head1 (Jvm.Cond.code (⟨"com/example/tempora/tempora/core/Terms$Role", "isNotePhrase", "()Z"⟩ : MethodName) prog_30_method_4_code 1 (some .boolean) :: ws) ({ frames := 0, cells := 0, slots := 0, locals := 0 } : Room)) (fun a U => a = #[(.ref (A 5))] ∧ Z.Warmed39 U.vm ∧ U.heap = h0) (fun _ _ _ _ _ => True) (fun _ U o U' => ∃ v L, o = .returned v ∧ Q_own_m5 Z A h0 n0 v U'.heap L ∧ FrameEnd U o U' L ({ frames := 0, cells := 0, slots := 0, locals := 0 } : Room).cells ({ frames := 0, cells := 0, slots := 0, locals := 0 } : Room).slots) := by
  refine MetFree.of_bodySF (plainFor_of_name own_pn_com_example_tempora_tempora_core_Terms_Role) hisR ?_
  intro p e s m args below meth c s₁ Bd hml0 hP hK
  obtain ⟨rfl, hZ, hh⟩ := hP
  have hx := Bd.exec
  have hby := Bd.bytes
  have hml : c.maxLocals = 1 := hml0
  have hown : s.vm.findClass "com/example/tempora/tempora/core/Terms$Role" = some m.cls := findClass_of_methodNamed Bd.named
  have hnm := (name_of_methodNamed Bd.named Bd.method).1
  have hlk : meth.locks = false := BodyLoose.notSynchronized Bd
  have X0 : Stand p l e ({ frames := 0, cells := 0, slots := 0, locals := 0 } : Room) s m #[(.ref (A 5))] below meth c s₁ [] 0 0 := Stand.of_body Bd
  have e0 : s₁.heap = h0 := by rw [← hh, Bd.state]; rfl
  have N0 := Fr.nil n0
  show own_Go p e below #[(.ref (A 5))] s (fun _ U o U' => ∃ v L, o = .returned v ∧ Q_own_m5 Z A h0 n0 v U'.heap L ∧ FrameEnd U o U' L ({ frames := 0, cells := 0, slots := 0, locals := 0 } : Room).cells ({ frames := 0, cells := 0, slots := 0, locals := 0 } : Room).slots) (s₁.setTop (entryFrame m #[(.ref (A 5))] 1))
  refine own_st (V := s₁.setTop (mkF m 0 #[.val (.ref (A 5))] [])) (fun t k => castTop (by first | (simp [entryFrame, mkF, argsToLocals, Value.category]; done) | rfl) k) ?_
  refine own_st (V := s₁.setTop (mkF m 1 #[.val (.ref (A 5))] [(.ref (A 5))])) (fun t k => XS.aloadN X0.here hx rfl (hb hby own_d1_0) rfl rfl k) ?_
  obtain ⟨T16, X16, e16, st16⟩ := getS2 X0 hx hZ hown (host := "") (Or.inl (hw _ (List.mem_of_getElem? (i := 44) rfl))) Via.refl e0 (own_S En 14 (i := 14) (n := "BEGAN") rfl) (g := (mkF m 1 #[.val (.ref (A 5))] [(.ref (A 5))])) rfl (hb hby own_d1_1)
  refine own_st (V := T16.setTop (mkF m 4 #[.val (.ref (A 5))] [(.ref (A 14)), (.ref (A 5))])) (fun t k => st16 _ k) ?_
  refine own_st (V := T16.setTop (mkF m 7 #[.val (.ref (A 5))] [])) (fun t k => Jvm.RoadKit.acmp (g := (mkF m 4 #[.val (.ref (A 5))] [(.ref (A 14)), (.ref (A 5))])) X16 hx rfl rfl rfl (pc0 := 4) (pc' := 7) (same := false) rfl (hb hby own_d1_4) rfl (decide_eq_false fun q => own_ne En 5 14 (i := 5) (n := "MULTIPLE") (j := 14) (n' := "BEGAN") rfl rfl (by decide) (Value.ref.inj q)) (by decide) (by decide) k) ?_
  refine own_st (V := T16.setTop (mkF m 8 #[.val (.ref (A 5))] [(.ref (A 5))])) (fun t k => XS.aloadN X16.here hx rfl (hb hby own_d1_7) rfl rfl k) ?_
  obtain ⟨T17, X17, e17, st17⟩ := getS2 X16 hx hZ hown (host := "") (Or.inl (hw _ (List.mem_of_getElem? (i := 45) rfl))) Via.refl e16 (own_S En 15 (i := 15) (n := "CEASED") rfl) (g := (mkF m 8 #[.val (.ref (A 5))] [(.ref (A 5))])) rfl (hb hby own_d1_8)
  refine own_st (V := T17.setTop (mkF m 11 #[.val (.ref (A 5))] [(.ref (A 15)), (.ref (A 5))])) (fun t k => st17 _ k) ?_
  refine own_st (V := T17.setTop (mkF m 14 #[.val (.ref (A 5))] [])) (fun t k => Jvm.RoadKit.acmp (g := (mkF m 11 #[.val (.ref (A 5))] [(.ref (A 15)), (.ref (A 5))])) X17 hx rfl rfl rfl (pc0 := 11) (pc' := 14) (same := false) rfl (hb hby own_d1_11) rfl (decide_eq_false fun q => own_ne En 5 15 (i := 5) (n := "MULTIPLE") (j := 15) (n' := "CEASED") rfl rfl (by decide) (Value.ref.inj q)) (by decide) (by decide) k) ?_
  refine own_st (V := T17.setTop (mkF m 15 #[.val (.ref (A 5))] [(.ref (A 5))])) (fun t k => XS.aloadN X17.here hx rfl (hb hby own_d1_14) rfl rfl k) ?_
  obtain ⟨T18, X18, e18, st18⟩ := getS2 X17 hx hZ hown (host := "") (Or.inl (hw _ (List.mem_of_getElem? (i := 46) rfl))) Via.refl e17 (own_S En 16 (i := 16) (n := "BEGAN_AND_CEASED") rfl) (g := (mkF m 15 #[.val (.ref (A 5))] [(.ref (A 5))])) rfl (hb hby own_d1_15)
  refine own_st (V := T18.setTop (mkF m 18 #[.val (.ref (A 5))] [(.ref (A 16)), (.ref (A 5))])) (fun t k => st18 _ k) ?_
  refine own_st (V := T18.setTop (mkF m 25 #[.val (.ref (A 5))] [])) (fun t k => Jvm.RoadKit.acmp (g := (mkF m 18 #[.val (.ref (A 5))] [(.ref (A 16)), (.ref (A 5))])) X18 hx rfl rfl rfl (pc0 := 18) (pc' := 25) (same := false) rfl (hb hby own_d1_18) rfl (decide_eq_false fun q => own_ne En 5 16 (i := 5) (n := "MULTIPLE") (j := 16) (n' := "BEGAN_AND_CEASED") rfl rfl (by decide) (Value.ref.inj q)) (by decide) (by decide) k) ?_
  refine own_st (V := T18.setTop (mkF m 26 #[.val (.ref (A 5))] [(.int (0 : Int32))])) (fun t k => XS.iconst X18.here hx rfl (hb hby own_d1_25) k) ?_
  exact own_ret X18 hx hlk Bd.returns (by decide +kernel) (Or.inl ⟨rfl, by simp, _, rfl⟩) (hb hby own_d1_26) (by decide) (by decide) (by show Q_own_m5 Z A h0 n0 _ T18.heap _; rw [e18]; exact ⟨rfl, N0, rfl⟩)
def Q_own_m6 (Z : State) (A : Nat → Addr) (h0 : Heap) (n0 : Nat) (v : Option Value) (h : Heap) (L : List Loc) : Prop := v = some (.int (0 : Int32)) ∧ Fr n0 L ∧ h = h0
set_option maxRecDepth 65536 in
set_option maxHeartbeats 40000000 in
theorem own_m6 (l : Launch) (Z : State) (a0 : Array Value) (hw : ∀ d ∈ tables_1, d.before a0 Z = true) (ws : List Jvm.Cond) (A : Nat → Addr) (h0 : Heap) (n0 : Nat) (Z0 : n0 ≤ h0.size) (En : own_En Z h0 A) :
    MetFree l (⟨"com/example/tempora/tempora/core/Terms$Role", "isNotePhrase", "()Z"⟩ : MethodName) (head1 (Jvm.Cond.code (⟨"com/example/tempora/tempora/core/Terms$Role", "isNotePhrase", "()Z"⟩ : MethodName) prog_30_method_4_code 1 (some .boolean) :: ws) ({ frames := 0, cells := 0, slots := 0, locals := 0 } : Room)) (fun a U => a = #[(.ref (A 6))] ∧ Z.Warmed39 U.vm ∧ U.heap = h0) (fun _ _ _ _ _ => True) (fun _ U o U' => ∃ v L, o = .returned v ∧ Q_own_m6 Z A h0 n0 v U'.heap L ∧ FrameEnd U o U' L ({ frames := 0, cells := 0, slots := 0, locals := 0 } : Room).cells ({ frames := 0, cells := 0, slots := 0, locals := 0 } : Room).slots) := by
  refine MetFree.of_bodySF (plainFor_of_name own_pn_com_example_tempora_tempora_core_Terms_Role) hisR ?_
  intro p e s m args below meth c s₁ Bd hml0 hP hK
  obtain ⟨rfl, hZ, hh⟩ := hP
  have hx := Bd.exec
  have hby := Bd.bytes
  have hml : c.maxLocals = 1 := hml0
  have hown : s.vm.findClass "com/example/tempora/tempora/core/Terms$Role" = some m.cls := findClass_of_methodNamed Bd.named
  have hnm := (name_of_methodNamed Bd.named Bd.method).1
  have hlk : meth.locks = false := BodyLoose.notSynchronized Bd
  have X0 : Stand p l e ({ frames := 0, cells := 0, slots := 0, locals := 0 } : Room) s m #[(.ref (A 6))] below meth c s₁ [] 0 0 := Stand.of_body Bd
  have e0 : s₁.heap = h0 := by rw [← hh, Bd.state]; rfl
  have N0 := Fr.nil n0
  show own_Go p e below #[(.ref (A 6))] s (fun _ U o U' => ∃ v L, o = .returned v ∧ Q_own_m6 Z A h0 n0 v U'.heap L ∧ FrameEnd U o U' L ({ frames := 0, cells := 0, slots := 0, locals := 0 } : Room).cells ({ frames := 0, cells := 0, slots := 0, locals := 0 } : Room).slots) (s₁.setTop (entryFrame m #[(.ref (A 6))] 1))
  refine own_st (V := s₁.setTop (mkF m 0 #[.val (.ref (A 6))] [])) (fun t k => castTop (by first | (simp [entryFrame, mkF, argsToLocals, Value.category]; done) | rfl) k) ?_
  refine own_st (V := s₁.setTop (mkF m 1 #[.val (.ref (A 6))] [(.ref (A 6))])) (fun t k => XS.aloadN X0.here hx rfl (hb hby own_d1_0) rfl rfl k) ?_
  obtain ⟨T19, X19, e19, st19⟩ := getS2 X0 hx hZ hown (host := "") (Or.inl (hw _ (List.mem_of_getElem? (i := 44) rfl))) Via.refl e0 (own_S En 14 (i := 14) (n := "BEGAN") rfl) (g := (mkF m 1 #[.val (.ref (A 6))] [(.ref (A 6))])) rfl (hb hby own_d1_1)
  refine own_st (V := T19.setTop (mkF m 4 #[.val (.ref (A 6))] [(.ref (A 14)), (.ref (A 6))])) (fun t k => st19 _ k) ?_
  refine own_st (V := T19.setTop (mkF m 7 #[.val (.ref (A 6))] [])) (fun t k => Jvm.RoadKit.acmp (g := (mkF m 4 #[.val (.ref (A 6))] [(.ref (A 14)), (.ref (A 6))])) X19 hx rfl rfl rfl (pc0 := 4) (pc' := 7) (same := false) rfl (hb hby own_d1_4) rfl (decide_eq_false fun q => own_ne En 6 14 (i := 6) (n := "UNIT") (j := 14) (n' := "BEGAN") rfl rfl (by decide) (Value.ref.inj q)) (by decide) (by decide) k) ?_
  refine own_st (V := T19.setTop (mkF m 8 #[.val (.ref (A 6))] [(.ref (A 6))])) (fun t k => XS.aloadN X19.here hx rfl (hb hby own_d1_7) rfl rfl k) ?_
  obtain ⟨T20, X20, e20, st20⟩ := getS2 X19 hx hZ hown (host := "") (Or.inl (hw _ (List.mem_of_getElem? (i := 45) rfl))) Via.refl e19 (own_S En 15 (i := 15) (n := "CEASED") rfl) (g := (mkF m 8 #[.val (.ref (A 6))] [(.ref (A 6))])) rfl (hb hby own_d1_8)
  refine own_st (V := T20.setTop (mkF m 11 #[.val (.ref (A 6))] [(.ref (A 15)), (.ref (A 6))])) (fun t k => st20 _ k) ?_
  refine own_st (V := T20.setTop (mkF m 14 #[.val (.ref (A 6))] [])) (fun t k => Jvm.RoadKit.acmp (g := (mkF m 11 #[.val (.ref (A 6))] [(.ref (A 15)), (.ref (A 6))])) X20 hx rfl rfl rfl (pc0 := 11) (pc' := 14) (same := false) rfl (hb hby own_d1_11) rfl (decide_eq_false fun q => own_ne En 6 15 (i := 6) (n := "UNIT") (j := 15) (n' := "CEASED") rfl rfl (by decide) (Value.ref.inj q)) (by decide) (by decide) k) ?_
  refine own_st (V := T20.setTop (mkF m 15 #[.val (.ref (A 6))] [(.ref (A 6))])) (fun t k => XS.aloadN X20.here hx rfl (hb hby own_d1_14) rfl rfl k) ?_
  obtain ⟨T21, X21, e21, st21⟩ := getS2 X20 hx hZ hown (host := "") (Or.inl (hw _ (List.mem_of_getElem? (i := 46) rfl))) Via.refl e20 (own_S En 16 (i := 16) (n := "BEGAN_AND_CEASED") rfl) (g := (mkF m 15 #[.val (.ref (A 6))] [(.ref (A 6))])) rfl (hb hby own_d1_15)
  refine own_st (V := T21.setTop (mkF m 18 #[.val (.ref (A 6))] [(.ref (A 16)), (.ref (A 6))])) (fun t k => st21 _ k) ?_
  refine own_st (V := T21.setTop (mkF m 25 #[.val (.ref (A 6))] [])) (fun t k => Jvm.RoadKit.acmp (g := (mkF m 18 #[.val (.ref (A 6))] [(.ref (A 16)), (.ref (A 6))])) X21 hx rfl rfl rfl (pc0 := 18) (pc' := 25) (same := false) rfl (hb hby own_d1_18) rfl (decide_eq_false fun q => own_ne En 6 16 (i := 6) (n := "UNIT") (j := 16) (n' := "BEGAN_AND_CEASED") rfl rfl (by decide) (Value.ref.inj q)) (by decide) (by decide) k) ?_
  refine own_st (V := T21.setTop (mkF m 26 #[.val (.ref (A 6))] [(.int (0 : Int32))])) (fun t k => XS.iconst X21.here hx rfl (hb hby own_d1_25) k) ?_
  exact own_ret X21 hx hlk Bd.returns (by decide +kernel) (Or.inl ⟨rfl, by simp, _, rfl⟩) (hb hby own_d1_26) (by decide) (by decide) (by show Q_own_m6 Z A h0 n0 _ T21.heap _; rw [e21]; exact ⟨rfl, N0, rfl⟩)
def Q_own_m7 (Z : State) (A : Nat → Addr) (h0 : Heap) (n0 : Nat) (v : Option Value) (h : Heap) (L : List Loc) : Prop := v = some (.int (0 : Int32)) ∧ Fr n0 L ∧ h = h0
set_option maxRecDepth 65536 in
set_option maxHeartbeats 40000000 in
theorem own_m7 (l : Launch) (Z : State) (a0 : Array Value) (hw : ∀ d ∈ tables_1, d.before a0 Z = true) (ws : List Jvm.Cond) (A : Nat → Addr) (h0 : Heap) (n0 : Nat) (Z0 : n0 ≤ h0.size) (En : own_En Z h0 A) :
    MetFree l (⟨"com/example/tempora/tempora/core/Terms$Role", "isNotePhrase", "()Z"⟩ : MethodName) (head1 (Jvm.Cond.code (⟨"com/example/tempora/tempora/core/Terms$Role", "isNotePhrase", "()Z"⟩ : MethodName) prog_30_method_4_code 1 (some .boolean) :: ws) ({ frames := 0, cells := 0, slots := 0, locals := 0 } : Room)) (fun a U => a = #[(.ref (A 7))] ∧ Z.Warmed39 U.vm ∧ U.heap = h0) (fun _ _ _ _ _ => True) (fun _ U o U' => ∃ v L, o = .returned v ∧ Q_own_m7 Z A h0 n0 v U'.heap L ∧ FrameEnd U o U' L ({ frames := 0, cells := 0, slots := 0, locals := 0 } : Room).cells ({ frames := 0, cells := 0, slots := 0, locals := 0 } : Room).slots) := by
  refine MetFree.of_bodySF (plainFor_of_name own_pn_com_example_tempora_tempora_core_Terms_Role) hisR ?_
  intro p e s m args below meth c s₁ Bd hml0 hP hK
  obtain ⟨rfl, hZ, hh⟩ := hP
  have hx := Bd.exec
  have hby := Bd.bytes
  have hml : c.maxLocals = 1 := hml0
  have hown : s.vm.findClass "com/example/tempora/tempora/core/Terms$Role" = some m.cls := findClass_of_methodNamed Bd.named
  have hnm := (name_of_methodNamed Bd.named Bd.method).1
  have hlk : meth.locks = false := BodyLoose.notSynchronized Bd
  have X0 : Stand p l e ({ frames := 0, cells := 0, slots := 0, locals := 0 } : Room) s m #[(.ref (A 7))] below meth c s₁ [] 0 0 := Stand.of_body Bd
  have e0 : s₁.heap = h0 := by rw [← hh, Bd.state]; rfl
  have N0 := Fr.nil n0
  show own_Go p e below #[(.ref (A 7))] s (fun _ U o U' => ∃ v L, o = .returned v ∧ Q_own_m7 Z A h0 n0 v U'.heap L ∧ FrameEnd U o U' L ({ frames := 0, cells := 0, slots := 0, locals := 0 } : Room).cells ({ frames := 0, cells := 0, slots := 0, locals := 0 } : Room).slots) (s₁.setTop (entryFrame m #[(.ref (A 7))] 1))
  refine own_st (V := s₁.setTop (mkF m 0 #[.val (.ref (A 7))] [])) (fun t k => castTop (by first | (simp [entryFrame, mkF, argsToLocals, Value.category]; done) | rfl) k) ?_
  refine own_st (V := s₁.setTop (mkF m 1 #[.val (.ref (A 7))] [(.ref (A 7))])) (fun t k => XS.aloadN X0.here hx rfl (hb hby own_d1_0) rfl rfl k) ?_
  obtain ⟨T22, X22, e22, st22⟩ := getS2 X0 hx hZ hown (host := "") (Or.inl (hw _ (List.mem_of_getElem? (i := 44) rfl))) Via.refl e0 (own_S En 14 (i := 14) (n := "BEGAN") rfl) (g := (mkF m 1 #[.val (.ref (A 7))] [(.ref (A 7))])) rfl (hb hby own_d1_1)
  refine own_st (V := T22.setTop (mkF m 4 #[.val (.ref (A 7))] [(.ref (A 14)), (.ref (A 7))])) (fun t k => st22 _ k) ?_
  refine own_st (V := T22.setTop (mkF m 7 #[.val (.ref (A 7))] [])) (fun t k => Jvm.RoadKit.acmp (g := (mkF m 4 #[.val (.ref (A 7))] [(.ref (A 14)), (.ref (A 7))])) X22 hx rfl rfl rfl (pc0 := 4) (pc' := 7) (same := false) rfl (hb hby own_d1_4) rfl (decide_eq_false fun q => own_ne En 7 14 (i := 7) (n := "PERIOD") (j := 14) (n' := "BEGAN") rfl rfl (by decide) (Value.ref.inj q)) (by decide) (by decide) k) ?_
  refine own_st (V := T22.setTop (mkF m 8 #[.val (.ref (A 7))] [(.ref (A 7))])) (fun t k => XS.aloadN X22.here hx rfl (hb hby own_d1_7) rfl rfl k) ?_
  obtain ⟨T23, X23, e23, st23⟩ := getS2 X22 hx hZ hown (host := "") (Or.inl (hw _ (List.mem_of_getElem? (i := 45) rfl))) Via.refl e22 (own_S En 15 (i := 15) (n := "CEASED") rfl) (g := (mkF m 8 #[.val (.ref (A 7))] [(.ref (A 7))])) rfl (hb hby own_d1_8)
  refine own_st (V := T23.setTop (mkF m 11 #[.val (.ref (A 7))] [(.ref (A 15)), (.ref (A 7))])) (fun t k => st23 _ k) ?_
  refine own_st (V := T23.setTop (mkF m 14 #[.val (.ref (A 7))] [])) (fun t k => Jvm.RoadKit.acmp (g := (mkF m 11 #[.val (.ref (A 7))] [(.ref (A 15)), (.ref (A 7))])) X23 hx rfl rfl rfl (pc0 := 11) (pc' := 14) (same := false) rfl (hb hby own_d1_11) rfl (decide_eq_false fun q => own_ne En 7 15 (i := 7) (n := "PERIOD") (j := 15) (n' := "CEASED") rfl rfl (by decide) (Value.ref.inj q)) (by decide) (by decide) k) ?_
  refine own_st (V := T23.setTop (mkF m 15 #[.val (.ref (A 7))] [(.ref (A 7))])) (fun t k => XS.aloadN X23.here hx rfl (hb hby own_d1_14) rfl rfl k) ?_
  obtain ⟨T24, X24, e24, st24⟩ := getS2 X23 hx hZ hown (host := "") (Or.inl (hw _ (List.mem_of_getElem? (i := 46) rfl))) Via.refl e23 (own_S En 16 (i := 16) (n := "BEGAN_AND_CEASED") rfl) (g := (mkF m 15 #[.val (.ref (A 7))] [(.ref (A 7))])) rfl (hb hby own_d1_15)
  refine own_st (V := T24.setTop (mkF m 18 #[.val (.ref (A 7))] [(.ref (A 16)), (.ref (A 7))])) (fun t k => st24 _ k) ?_
  refine own_st (V := T24.setTop (mkF m 25 #[.val (.ref (A 7))] [])) (fun t k => Jvm.RoadKit.acmp (g := (mkF m 18 #[.val (.ref (A 7))] [(.ref (A 16)), (.ref (A 7))])) X24 hx rfl rfl rfl (pc0 := 18) (pc' := 25) (same := false) rfl (hb hby own_d1_18) rfl (decide_eq_false fun q => own_ne En 7 16 (i := 7) (n := "PERIOD") (j := 16) (n' := "BEGAN_AND_CEASED") rfl rfl (by decide) (Value.ref.inj q)) (by decide) (by decide) k) ?_
  refine own_st (V := T24.setTop (mkF m 26 #[.val (.ref (A 7))] [(.int (0 : Int32))])) (fun t k => XS.iconst X24.here hx rfl (hb hby own_d1_25) k) ?_
  exact own_ret X24 hx hlk Bd.returns (by decide +kernel) (Or.inl ⟨rfl, by simp, _, rfl⟩) (hb hby own_d1_26) (by decide) (by decide) (by show Q_own_m7 Z A h0 n0 _ T24.heap _; rw [e24]; exact ⟨rfl, N0, rfl⟩)
def Q_own_m8 (Z : State) (A : Nat → Addr) (h0 : Heap) (n0 : Nat) (v : Option Value) (h : Heap) (L : List Loc) : Prop := v = some (.int (0 : Int32)) ∧ Fr n0 L ∧ h = h0
set_option maxRecDepth 65536 in
set_option maxHeartbeats 40000000 in
theorem own_m8 (l : Launch) (Z : State) (a0 : Array Value) (hw : ∀ d ∈ tables_1, d.before a0 Z = true) (ws : List Jvm.Cond) (A : Nat → Addr) (h0 : Heap) (n0 : Nat) (Z0 : n0 ≤ h0.size) (En : own_En Z h0 A) :
    MetFree l (⟨"com/example/tempora/tempora/core/Terms$Role", "isNotePhrase", "()Z"⟩ : MethodName) (head1 (Jvm.Cond.code (⟨"com/example/tempora/tempora/core/Terms$Role", "isNotePhrase", "()Z"⟩ : MethodName) prog_30_method_4_code 1 (some .boolean) :: ws) ({ frames := 0, cells := 0, slots := 0, locals := 0 } : Room)) (fun a U => a = #[(.ref (A 8))] ∧ Z.Warmed39 U.vm ∧ U.heap = h0) (fun _ _ _ _ _ => True) (fun _ U o U' => ∃ v L, o = .returned v ∧ Q_own_m8 Z A h0 n0 v U'.heap L ∧ FrameEnd U o U' L ({ frames := 0, cells := 0, slots := 0, locals := 0 } : Room).cells ({ frames := 0, cells := 0, slots := 0, locals := 0 } : Room).slots) := by
  refine MetFree.of_bodySF (plainFor_of_name own_pn_com_example_tempora_tempora_core_Terms_Role) hisR ?_
  intro p e s m args below meth c s₁ Bd hml0 hP hK
  obtain ⟨rfl, hZ, hh⟩ := hP
  have hx := Bd.exec
  have hby := Bd.bytes
  have hml : c.maxLocals = 1 := hml0
  have hown : s.vm.findClass "com/example/tempora/tempora/core/Terms$Role" = some m.cls := findClass_of_methodNamed Bd.named
  have hnm := (name_of_methodNamed Bd.named Bd.method).1
  have hlk : meth.locks = false := BodyLoose.notSynchronized Bd
  have X0 : Stand p l e ({ frames := 0, cells := 0, slots := 0, locals := 0 } : Room) s m #[(.ref (A 8))] below meth c s₁ [] 0 0 := Stand.of_body Bd
  have e0 : s₁.heap = h0 := by rw [← hh, Bd.state]; rfl
  have N0 := Fr.nil n0
  show own_Go p e below #[(.ref (A 8))] s (fun _ U o U' => ∃ v L, o = .returned v ∧ Q_own_m8 Z A h0 n0 v U'.heap L ∧ FrameEnd U o U' L ({ frames := 0, cells := 0, slots := 0, locals := 0 } : Room).cells ({ frames := 0, cells := 0, slots := 0, locals := 0 } : Room).slots) (s₁.setTop (entryFrame m #[(.ref (A 8))] 1))
  refine own_st (V := s₁.setTop (mkF m 0 #[.val (.ref (A 8))] [])) (fun t k => castTop (by first | (simp [entryFrame, mkF, argsToLocals, Value.category]; done) | rfl) k) ?_
  refine own_st (V := s₁.setTop (mkF m 1 #[.val (.ref (A 8))] [(.ref (A 8))])) (fun t k => XS.aloadN X0.here hx rfl (hb hby own_d1_0) rfl rfl k) ?_
  obtain ⟨T25, X25, e25, st25⟩ := getS2 X0 hx hZ hown (host := "") (Or.inl (hw _ (List.mem_of_getElem? (i := 44) rfl))) Via.refl e0 (own_S En 14 (i := 14) (n := "BEGAN") rfl) (g := (mkF m 1 #[.val (.ref (A 8))] [(.ref (A 8))])) rfl (hb hby own_d1_1)
  refine own_st (V := T25.setTop (mkF m 4 #[.val (.ref (A 8))] [(.ref (A 14)), (.ref (A 8))])) (fun t k => st25 _ k) ?_
  refine own_st (V := T25.setTop (mkF m 7 #[.val (.ref (A 8))] [])) (fun t k => Jvm.RoadKit.acmp (g := (mkF m 4 #[.val (.ref (A 8))] [(.ref (A 14)), (.ref (A 8))])) X25 hx rfl rfl rfl (pc0 := 4) (pc' := 7) (same := false) rfl (hb hby own_d1_4) rfl (decide_eq_false fun q => own_ne En 8 14 (i := 8) (n := "EXCEPT") (j := 14) (n' := "BEGAN") rfl rfl (by decide) (Value.ref.inj q)) (by decide) (by decide) k) ?_
  refine own_st (V := T25.setTop (mkF m 8 #[.val (.ref (A 8))] [(.ref (A 8))])) (fun t k => XS.aloadN X25.here hx rfl (hb hby own_d1_7) rfl rfl k) ?_
  obtain ⟨T26, X26, e26, st26⟩ := getS2 X25 hx hZ hown (host := "") (Or.inl (hw _ (List.mem_of_getElem? (i := 45) rfl))) Via.refl e25 (own_S En 15 (i := 15) (n := "CEASED") rfl) (g := (mkF m 8 #[.val (.ref (A 8))] [(.ref (A 8))])) rfl (hb hby own_d1_8)
  refine own_st (V := T26.setTop (mkF m 11 #[.val (.ref (A 8))] [(.ref (A 15)), (.ref (A 8))])) (fun t k => st26 _ k) ?_
  refine own_st (V := T26.setTop (mkF m 14 #[.val (.ref (A 8))] [])) (fun t k => Jvm.RoadKit.acmp (g := (mkF m 11 #[.val (.ref (A 8))] [(.ref (A 15)), (.ref (A 8))])) X26 hx rfl rfl rfl (pc0 := 11) (pc' := 14) (same := false) rfl (hb hby own_d1_11) rfl (decide_eq_false fun q => own_ne En 8 15 (i := 8) (n := "EXCEPT") (j := 15) (n' := "CEASED") rfl rfl (by decide) (Value.ref.inj q)) (by decide) (by decide) k) ?_
  refine own_st (V := T26.setTop (mkF m 15 #[.val (.ref (A 8))] [(.ref (A 8))])) (fun t k => XS.aloadN X26.here hx rfl (hb hby own_d1_14) rfl rfl k) ?_
  obtain ⟨T27, X27, e27, st27⟩ := getS2 X26 hx hZ hown (host := "") (Or.inl (hw _ (List.mem_of_getElem? (i := 46) rfl))) Via.refl e26 (own_S En 16 (i := 16) (n := "BEGAN_AND_CEASED") rfl) (g := (mkF m 15 #[.val (.ref (A 8))] [(.ref (A 8))])) rfl (hb hby own_d1_15)
  refine own_st (V := T27.setTop (mkF m 18 #[.val (.ref (A 8))] [(.ref (A 16)), (.ref (A 8))])) (fun t k => st27 _ k) ?_
  refine own_st (V := T27.setTop (mkF m 25 #[.val (.ref (A 8))] [])) (fun t k => Jvm.RoadKit.acmp (g := (mkF m 18 #[.val (.ref (A 8))] [(.ref (A 16)), (.ref (A 8))])) X27 hx rfl rfl rfl (pc0 := 18) (pc' := 25) (same := false) rfl (hb hby own_d1_18) rfl (decide_eq_false fun q => own_ne En 8 16 (i := 8) (n := "EXCEPT") (j := 16) (n' := "BEGAN_AND_CEASED") rfl rfl (by decide) (Value.ref.inj q)) (by decide) (by decide) k) ?_
  refine own_st (V := T27.setTop (mkF m 26 #[.val (.ref (A 8))] [(.int (0 : Int32))])) (fun t k => XS.iconst X27.here hx rfl (hb hby own_d1_25) k) ?_
  exact own_ret X27 hx hlk Bd.returns (by decide +kernel) (Or.inl ⟨rfl, by simp, _, rfl⟩) (hb hby own_d1_26) (by decide) (by decide) (by show Q_own_m8 Z A h0 n0 _ T27.heap _; rw [e27]; exact ⟨rfl, N0, rfl⟩)
def Q_own_m9 (Z : State) (A : Nat → Addr) (h0 : Heap) (n0 : Nat) (v : Option Value) (h : Heap) (L : List Loc) : Prop := v = some (.int (0 : Int32)) ∧ Fr n0 L ∧ h = h0
set_option maxRecDepth 65536 in
set_option maxHeartbeats 40000000 in
theorem own_m9 (l : Launch) (Z : State) (a0 : Array Value) (hw : ∀ d ∈ tables_1, d.before a0 Z = true) (ws : List Jvm.Cond) (A : Nat → Addr) (h0 : Heap) (n0 : Nat) (Z0 : n0 ≤ h0.size) (En : own_En Z h0 A) :
    MetFree l (⟨"com/example/tempora/tempora/core/Terms$Role", "isNotePhrase", "()Z"⟩ : MethodName) (head1 (Jvm.Cond.code (⟨"com/example/tempora/tempora/core/Terms$Role", "isNotePhrase", "()Z"⟩ : MethodName) prog_30_method_4_code 1 (some .boolean) :: ws) ({ frames := 0, cells := 0, slots := 0, locals := 0 } : Room)) (fun a U => a = #[(.ref (A 9))] ∧ Z.Warmed39 U.vm ∧ U.heap = h0) (fun _ _ _ _ _ => True) (fun _ U o U' => ∃ v L, o = .returned v ∧ Q_own_m9 Z A h0 n0 v U'.heap L ∧ FrameEnd U o U' L ({ frames := 0, cells := 0, slots := 0, locals := 0 } : Room).cells ({ frames := 0, cells := 0, slots := 0, locals := 0 } : Room).slots) := by
  refine MetFree.of_bodySF (plainFor_of_name own_pn_com_example_tempora_tempora_core_Terms_Role) hisR ?_
  intro p e s m args below meth c s₁ Bd hml0 hP hK
  obtain ⟨rfl, hZ, hh⟩ := hP
  have hx := Bd.exec
  have hby := Bd.bytes
  have hml : c.maxLocals = 1 := hml0
  have hown : s.vm.findClass "com/example/tempora/tempora/core/Terms$Role" = some m.cls := findClass_of_methodNamed Bd.named
  have hnm := (name_of_methodNamed Bd.named Bd.method).1
  have hlk : meth.locks = false := BodyLoose.notSynchronized Bd
  have X0 : Stand p l e ({ frames := 0, cells := 0, slots := 0, locals := 0 } : Room) s m #[(.ref (A 9))] below meth c s₁ [] 0 0 := Stand.of_body Bd
  have e0 : s₁.heap = h0 := by rw [← hh, Bd.state]; rfl
  have N0 := Fr.nil n0
  show own_Go p e below #[(.ref (A 9))] s (fun _ U o U' => ∃ v L, o = .returned v ∧ Q_own_m9 Z A h0 n0 v U'.heap L ∧ FrameEnd U o U' L ({ frames := 0, cells := 0, slots := 0, locals := 0 } : Room).cells ({ frames := 0, cells := 0, slots := 0, locals := 0 } : Room).slots) (s₁.setTop (entryFrame m #[(.ref (A 9))] 1))
  refine own_st (V := s₁.setTop (mkF m 0 #[.val (.ref (A 9))] [])) (fun t k => castTop (by first | (simp [entryFrame, mkF, argsToLocals, Value.category]; done) | rfl) k) ?_
  refine own_st (V := s₁.setTop (mkF m 1 #[.val (.ref (A 9))] [(.ref (A 9))])) (fun t k => XS.aloadN X0.here hx rfl (hb hby own_d1_0) rfl rfl k) ?_
  obtain ⟨T28, X28, e28, st28⟩ := getS2 X0 hx hZ hown (host := "") (Or.inl (hw _ (List.mem_of_getElem? (i := 44) rfl))) Via.refl e0 (own_S En 14 (i := 14) (n := "BEGAN") rfl) (g := (mkF m 1 #[.val (.ref (A 9))] [(.ref (A 9))])) rfl (hb hby own_d1_1)
  refine own_st (V := T28.setTop (mkF m 4 #[.val (.ref (A 9))] [(.ref (A 14)), (.ref (A 9))])) (fun t k => st28 _ k) ?_
  refine own_st (V := T28.setTop (mkF m 7 #[.val (.ref (A 9))] [])) (fun t k => Jvm.RoadKit.acmp (g := (mkF m 4 #[.val (.ref (A 9))] [(.ref (A 14)), (.ref (A 9))])) X28 hx rfl rfl rfl (pc0 := 4) (pc' := 7) (same := false) rfl (hb hby own_d1_4) rfl (decide_eq_false fun q => own_ne En 9 14 (i := 9) (n := "MONTH") (j := 14) (n' := "BEGAN") rfl rfl (by decide) (Value.ref.inj q)) (by decide) (by decide) k) ?_
  refine own_st (V := T28.setTop (mkF m 8 #[.val (.ref (A 9))] [(.ref (A 9))])) (fun t k => XS.aloadN X28.here hx rfl (hb hby own_d1_7) rfl rfl k) ?_
  obtain ⟨T29, X29, e29, st29⟩ := getS2 X28 hx hZ hown (host := "") (Or.inl (hw _ (List.mem_of_getElem? (i := 45) rfl))) Via.refl e28 (own_S En 15 (i := 15) (n := "CEASED") rfl) (g := (mkF m 8 #[.val (.ref (A 9))] [(.ref (A 9))])) rfl (hb hby own_d1_8)
  refine own_st (V := T29.setTop (mkF m 11 #[.val (.ref (A 9))] [(.ref (A 15)), (.ref (A 9))])) (fun t k => st29 _ k) ?_
  refine own_st (V := T29.setTop (mkF m 14 #[.val (.ref (A 9))] [])) (fun t k => Jvm.RoadKit.acmp (g := (mkF m 11 #[.val (.ref (A 9))] [(.ref (A 15)), (.ref (A 9))])) X29 hx rfl rfl rfl (pc0 := 11) (pc' := 14) (same := false) rfl (hb hby own_d1_11) rfl (decide_eq_false fun q => own_ne En 9 15 (i := 9) (n := "MONTH") (j := 15) (n' := "CEASED") rfl rfl (by decide) (Value.ref.inj q)) (by decide) (by decide) k) ?_
  refine own_st (V := T29.setTop (mkF m 15 #[.val (.ref (A 9))] [(.ref (A 9))])) (fun t k => XS.aloadN X29.here hx rfl (hb hby own_d1_14) rfl rfl k) ?_
  obtain ⟨T30, X30, e30, st30⟩ := getS2 X29 hx hZ hown (host := "") (Or.inl (hw _ (List.mem_of_getElem? (i := 46) rfl))) Via.refl e29 (own_S En 16 (i := 16) (n := "BEGAN_AND_CEASED") rfl) (g := (mkF m 15 #[.val (.ref (A 9))] [(.ref (A 9))])) rfl (hb hby own_d1_15)
  refine own_st (V := T30.setTop (mkF m 18 #[.val (.ref (A 9))] [(.ref (A 16)), (.ref (A 9))])) (fun t k => st30 _ k) ?_
  refine own_st (V := T30.setTop (mkF m 25 #[.val (.ref (A 9))] [])) (fun t k => Jvm.RoadKit.acmp (g := (mkF m 18 #[.val (.ref (A 9))] [(.ref (A 16)), (.ref (A 9))])) X30 hx rfl rfl rfl (pc0 := 18) (pc' := 25) (same := false) rfl (hb hby own_d1_18) rfl (decide_eq_false fun q => own_ne En 9 16 (i := 9) (n := "MONTH") (j := 16) (n' := "BEGAN_AND_CEASED") rfl rfl (by decide) (Value.ref.inj q)) (by decide) (by decide) k) ?_
  refine own_st (V := T30.setTop (mkF m 26 #[.val (.ref (A 9))] [(.int (0 : Int32))])) (fun t k => XS.iconst X30.here hx rfl (hb hby own_d1_25) k) ?_
  exact own_ret X30 hx hlk Bd.returns (by decide +kernel) (Or.inl ⟨rfl, by simp, _, rfl⟩) (hb hby own_d1_26) (by decide) (by decide) (by show Q_own_m9 Z A h0 n0 _ T30.heap _; rw [e30]; exact ⟨rfl, N0, rfl⟩)
def Q_own_m10 (Z : State) (A : Nat → Addr) (h0 : Heap) (n0 : Nat) (v : Option Value) (h : Heap) (L : List Loc) : Prop := v = some (.int (0 : Int32)) ∧ Fr n0 L ∧ h = h0
set_option maxRecDepth 65536 in
set_option maxHeartbeats 40000000 in
theorem own_m10 (l : Launch) (Z : State) (a0 : Array Value) (hw : ∀ d ∈ tables_1, d.before a0 Z = true) (ws : List Jvm.Cond) (A : Nat → Addr) (h0 : Heap) (n0 : Nat) (Z0 : n0 ≤ h0.size) (En : own_En Z h0 A) :
    MetFree l (⟨"com/example/tempora/tempora/core/Terms$Role", "isNotePhrase", "()Z"⟩ : MethodName) (head1 (Jvm.Cond.code (⟨"com/example/tempora/tempora/core/Terms$Role", "isNotePhrase", "()Z"⟩ : MethodName) prog_30_method_4_code 1 (some .boolean) :: ws) ({ frames := 0, cells := 0, slots := 0, locals := 0 } : Room)) (fun a U => a = #[(.ref (A 10))] ∧ Z.Warmed39 U.vm ∧ U.heap = h0) (fun _ _ _ _ _ => True) (fun _ U o U' => ∃ v L, o = .returned v ∧ Q_own_m10 Z A h0 n0 v U'.heap L ∧ FrameEnd U o U' L ({ frames := 0, cells := 0, slots := 0, locals := 0 } : Room).cells ({ frames := 0, cells := 0, slots := 0, locals := 0 } : Room).slots) := by
  refine MetFree.of_bodySF (plainFor_of_name own_pn_com_example_tempora_tempora_core_Terms_Role) hisR ?_
  intro p e s m args below meth c s₁ Bd hml0 hP hK
  obtain ⟨rfl, hZ, hh⟩ := hP
  have hx := Bd.exec
  have hby := Bd.bytes
  have hml : c.maxLocals = 1 := hml0
  have hown : s.vm.findClass "com/example/tempora/tempora/core/Terms$Role" = some m.cls := findClass_of_methodNamed Bd.named
  have hnm := (name_of_methodNamed Bd.named Bd.method).1
  have hlk : meth.locks = false := BodyLoose.notSynchronized Bd
  have X0 : Stand p l e ({ frames := 0, cells := 0, slots := 0, locals := 0 } : Room) s m #[(.ref (A 10))] below meth c s₁ [] 0 0 := Stand.of_body Bd
  have e0 : s₁.heap = h0 := by rw [← hh, Bd.state]; rfl
  have N0 := Fr.nil n0
  show own_Go p e below #[(.ref (A 10))] s (fun _ U o U' => ∃ v L, o = .returned v ∧ Q_own_m10 Z A h0 n0 v U'.heap L ∧ FrameEnd U o U' L ({ frames := 0, cells := 0, slots := 0, locals := 0 } : Room).cells ({ frames := 0, cells := 0, slots := 0, locals := 0 } : Room).slots) (s₁.setTop (entryFrame m #[(.ref (A 10))] 1))
  refine own_st (V := s₁.setTop (mkF m 0 #[.val (.ref (A 10))] [])) (fun t k => castTop (by first | (simp [entryFrame, mkF, argsToLocals, Value.category]; done) | rfl) k) ?_
  refine own_st (V := s₁.setTop (mkF m 1 #[.val (.ref (A 10))] [(.ref (A 10))])) (fun t k => XS.aloadN X0.here hx rfl (hb hby own_d1_0) rfl rfl k) ?_
  obtain ⟨T31, X31, e31, st31⟩ := getS2 X0 hx hZ hown (host := "") (Or.inl (hw _ (List.mem_of_getElem? (i := 44) rfl))) Via.refl e0 (own_S En 14 (i := 14) (n := "BEGAN") rfl) (g := (mkF m 1 #[.val (.ref (A 10))] [(.ref (A 10))])) rfl (hb hby own_d1_1)
  refine own_st (V := T31.setTop (mkF m 4 #[.val (.ref (A 10))] [(.ref (A 14)), (.ref (A 10))])) (fun t k => st31 _ k) ?_
  refine own_st (V := T31.setTop (mkF m 7 #[.val (.ref (A 10))] [])) (fun t k => Jvm.RoadKit.acmp (g := (mkF m 4 #[.val (.ref (A 10))] [(.ref (A 14)), (.ref (A 10))])) X31 hx rfl rfl rfl (pc0 := 4) (pc' := 7) (same := false) rfl (hb hby own_d1_4) rfl (decide_eq_false fun q => own_ne En 10 14 (i := 10) (n := "SEASON") (j := 14) (n' := "BEGAN") rfl rfl (by decide) (Value.ref.inj q)) (by decide) (by decide) k) ?_
  refine own_st (V := T31.setTop (mkF m 8 #[.val (.ref (A 10))] [(.ref (A 10))])) (fun t k => XS.aloadN X31.here hx rfl (hb hby own_d1_7) rfl rfl k) ?_
  obtain ⟨T32, X32, e32, st32⟩ := getS2 X31 hx hZ hown (host := "") (Or.inl (hw _ (List.mem_of_getElem? (i := 45) rfl))) Via.refl e31 (own_S En 15 (i := 15) (n := "CEASED") rfl) (g := (mkF m 8 #[.val (.ref (A 10))] [(.ref (A 10))])) rfl (hb hby own_d1_8)
  refine own_st (V := T32.setTop (mkF m 11 #[.val (.ref (A 10))] [(.ref (A 15)), (.ref (A 10))])) (fun t k => st32 _ k) ?_
  refine own_st (V := T32.setTop (mkF m 14 #[.val (.ref (A 10))] [])) (fun t k => Jvm.RoadKit.acmp (g := (mkF m 11 #[.val (.ref (A 10))] [(.ref (A 15)), (.ref (A 10))])) X32 hx rfl rfl rfl (pc0 := 11) (pc' := 14) (same := false) rfl (hb hby own_d1_11) rfl (decide_eq_false fun q => own_ne En 10 15 (i := 10) (n := "SEASON") (j := 15) (n' := "CEASED") rfl rfl (by decide) (Value.ref.inj q)) (by decide) (by decide) k) ?_
  refine own_st (V := T32.setTop (mkF m 15 #[.val (.ref (A 10))] [(.ref (A 10))])) (fun t k => XS.aloadN X32.here hx rfl (hb hby own_d1_14) rfl rfl k) ?_
  obtain ⟨T33, X33, e33, st33⟩ := getS2 X32 hx hZ hown (host := "") (Or.inl (hw _ (List.mem_of_getElem? (i := 46) rfl))) Via.refl e32 (own_S En 16 (i := 16) (n := "BEGAN_AND_CEASED") rfl) (g := (mkF m 15 #[.val (.ref (A 10))] [(.ref (A 10))])) rfl (hb hby own_d1_15)
  refine own_st (V := T33.setTop (mkF m 18 #[.val (.ref (A 10))] [(.ref (A 16)), (.ref (A 10))])) (fun t k => st33 _ k) ?_
  refine own_st (V := T33.setTop (mkF m 25 #[.val (.ref (A 10))] [])) (fun t k => Jvm.RoadKit.acmp (g := (mkF m 18 #[.val (.ref (A 10))] [(.ref (A 16)), (.ref (A 10))])) X33 hx rfl rfl rfl (pc0 := 18) (pc' := 25) (same := false) rfl (hb hby own_d1_18) rfl (decide_eq_false fun q => own_ne En 10 16 (i := 10) (n := "SEASON") (j := 16) (n' := "BEGAN_AND_CEASED") rfl rfl (by decide) (Value.ref.inj q)) (by decide) (by decide) k) ?_
  refine own_st (V := T33.setTop (mkF m 26 #[.val (.ref (A 10))] [(.int (0 : Int32))])) (fun t k => XS.iconst X33.here hx rfl (hb hby own_d1_25) k) ?_
  exact own_ret X33 hx hlk Bd.returns (by decide +kernel) (Or.inl ⟨rfl, by simp, _, rfl⟩) (hb hby own_d1_26) (by decide) (by decide) (by show Q_own_m10 Z A h0 n0 _ T33.heap _; rw [e33]; exact ⟨rfl, N0, rfl⟩)
def Q_own_m11 (Z : State) (A : Nat → Addr) (h0 : Heap) (n0 : Nat) (v : Option Value) (h : Heap) (L : List Loc) : Prop := v = some (.int (0 : Int32)) ∧ Fr n0 L ∧ h = h0
set_option maxRecDepth 65536 in
set_option maxHeartbeats 40000000 in
theorem own_m11 (l : Launch) (Z : State) (a0 : Array Value) (hw : ∀ d ∈ tables_1, d.before a0 Z = true) (ws : List Jvm.Cond) (A : Nat → Addr) (h0 : Heap) (n0 : Nat) (Z0 : n0 ≤ h0.size) (En : own_En Z h0 A) :
    MetFree l (⟨"com/example/tempora/tempora/core/Terms$Role", "isNotePhrase", "()Z"⟩ : MethodName) (head1 (Jvm.Cond.code (⟨"com/example/tempora/tempora/core/Terms$Role", "isNotePhrase", "()Z"⟩ : MethodName) prog_30_method_4_code 1 (some .boolean) :: ws) ({ frames := 0, cells := 0, slots := 0, locals := 0 } : Room)) (fun a U => a = #[(.ref (A 11))] ∧ Z.Warmed39 U.vm ∧ U.heap = h0) (fun _ _ _ _ _ => True) (fun _ U o U' => ∃ v L, o = .returned v ∧ Q_own_m11 Z A h0 n0 v U'.heap L ∧ FrameEnd U o U' L ({ frames := 0, cells := 0, slots := 0, locals := 0 } : Room).cells ({ frames := 0, cells := 0, slots := 0, locals := 0 } : Room).slots) := by
  refine MetFree.of_bodySF (plainFor_of_name own_pn_com_example_tempora_tempora_core_Terms_Role) hisR ?_
  intro p e s m args below meth c s₁ Bd hml0 hP hK
  obtain ⟨rfl, hZ, hh⟩ := hP
  have hx := Bd.exec
  have hby := Bd.bytes
  have hml : c.maxLocals = 1 := hml0
  have hown : s.vm.findClass "com/example/tempora/tempora/core/Terms$Role" = some m.cls := findClass_of_methodNamed Bd.named
  have hnm := (name_of_methodNamed Bd.named Bd.method).1
  have hlk : meth.locks = false := BodyLoose.notSynchronized Bd
  have X0 : Stand p l e ({ frames := 0, cells := 0, slots := 0, locals := 0 } : Room) s m #[(.ref (A 11))] below meth c s₁ [] 0 0 := Stand.of_body Bd
  have e0 : s₁.heap = h0 := by rw [← hh, Bd.state]; rfl
  have N0 := Fr.nil n0
  show own_Go p e below #[(.ref (A 11))] s (fun _ U o U' => ∃ v L, o = .returned v ∧ Q_own_m11 Z A h0 n0 v U'.heap L ∧ FrameEnd U o U' L ({ frames := 0, cells := 0, slots := 0, locals := 0 } : Room).cells ({ frames := 0, cells := 0, slots := 0, locals := 0 } : Room).slots) (s₁.setTop (entryFrame m #[(.ref (A 11))] 1))
  refine own_st (V := s₁.setTop (mkF m 0 #[.val (.ref (A 11))] [])) (fun t k => castTop (by first | (simp [entryFrame, mkF, argsToLocals, Value.category]; done) | rfl) k) ?_
  refine own_st (V := s₁.setTop (mkF m 1 #[.val (.ref (A 11))] [(.ref (A 11))])) (fun t k => XS.aloadN X0.here hx rfl (hb hby own_d1_0) rfl rfl k) ?_
  obtain ⟨T34, X34, e34, st34⟩ := getS2 X0 hx hZ hown (host := "") (Or.inl (hw _ (List.mem_of_getElem? (i := 44) rfl))) Via.refl e0 (own_S En 14 (i := 14) (n := "BEGAN") rfl) (g := (mkF m 1 #[.val (.ref (A 11))] [(.ref (A 11))])) rfl (hb hby own_d1_1)
  refine own_st (V := T34.setTop (mkF m 4 #[.val (.ref (A 11))] [(.ref (A 14)), (.ref (A 11))])) (fun t k => st34 _ k) ?_
  refine own_st (V := T34.setTop (mkF m 7 #[.val (.ref (A 11))] [])) (fun t k => Jvm.RoadKit.acmp (g := (mkF m 4 #[.val (.ref (A 11))] [(.ref (A 14)), (.ref (A 11))])) X34 hx rfl rfl rfl (pc0 := 4) (pc' := 7) (same := false) rfl (hb hby own_d1_4) rfl (decide_eq_false fun q => own_ne En 11 14 (i := 11) (n := "WITH") (j := 14) (n' := "BEGAN") rfl rfl (by decide) (Value.ref.inj q)) (by decide) (by decide) k) ?_
  refine own_st (V := T34.setTop (mkF m 8 #[.val (.ref (A 11))] [(.ref (A 11))])) (fun t k => XS.aloadN X34.here hx rfl (hb hby own_d1_7) rfl rfl k) ?_
  obtain ⟨T35, X35, e35, st35⟩ := getS2 X34 hx hZ hown (host := "") (Or.inl (hw _ (List.mem_of_getElem? (i := 45) rfl))) Via.refl e34 (own_S En 15 (i := 15) (n := "CEASED") rfl) (g := (mkF m 8 #[.val (.ref (A 11))] [(.ref (A 11))])) rfl (hb hby own_d1_8)
  refine own_st (V := T35.setTop (mkF m 11 #[.val (.ref (A 11))] [(.ref (A 15)), (.ref (A 11))])) (fun t k => st35 _ k) ?_
  refine own_st (V := T35.setTop (mkF m 14 #[.val (.ref (A 11))] [])) (fun t k => Jvm.RoadKit.acmp (g := (mkF m 11 #[.val (.ref (A 11))] [(.ref (A 15)), (.ref (A 11))])) X35 hx rfl rfl rfl (pc0 := 11) (pc' := 14) (same := false) rfl (hb hby own_d1_11) rfl (decide_eq_false fun q => own_ne En 11 15 (i := 11) (n := "WITH") (j := 15) (n' := "CEASED") rfl rfl (by decide) (Value.ref.inj q)) (by decide) (by decide) k) ?_
  refine own_st (V := T35.setTop (mkF m 15 #[.val (.ref (A 11))] [(.ref (A 11))])) (fun t k => XS.aloadN X35.here hx rfl (hb hby own_d1_14) rfl rfl k) ?_
  obtain ⟨T36, X36, e36, st36⟩ := getS2 X35 hx hZ hown (host := "") (Or.inl (hw _ (List.mem_of_getElem? (i := 46) rfl))) Via.refl e35 (own_S En 16 (i := 16) (n := "BEGAN_AND_CEASED") rfl) (g := (mkF m 15 #[.val (.ref (A 11))] [(.ref (A 11))])) rfl (hb hby own_d1_15)
  refine own_st (V := T36.setTop (mkF m 18 #[.val (.ref (A 11))] [(.ref (A 16)), (.ref (A 11))])) (fun t k => st36 _ k) ?_
  refine own_st (V := T36.setTop (mkF m 25 #[.val (.ref (A 11))] [])) (fun t k => Jvm.RoadKit.acmp (g := (mkF m 18 #[.val (.ref (A 11))] [(.ref (A 16)), (.ref (A 11))])) X36 hx rfl rfl rfl (pc0 := 18) (pc' := 25) (same := false) rfl (hb hby own_d1_18) rfl (decide_eq_false fun q => own_ne En 11 16 (i := 11) (n := "WITH") (j := 16) (n' := "BEGAN_AND_CEASED") rfl rfl (by decide) (Value.ref.inj q)) (by decide) (by decide) k) ?_
  refine own_st (V := T36.setTop (mkF m 26 #[.val (.ref (A 11))] [(.int (0 : Int32))])) (fun t k => XS.iconst X36.here hx rfl (hb hby own_d1_25) k) ?_
  exact own_ret X36 hx hlk Bd.returns (by decide +kernel) (Or.inl ⟨rfl, by simp, _, rfl⟩) (hb hby own_d1_26) (by decide) (by decide) (by show Q_own_m11 Z A h0 n0 _ T36.heap _; rw [e36]; exact ⟨rfl, N0, rfl⟩)
def Q_own_m12 (Z : State) (A : Nat → Addr) (h0 : Heap) (n0 : Nat) (v : Option Value) (h : Heap) (L : List Loc) : Prop := v = some (.int (0 : Int32)) ∧ Fr n0 L ∧ h = h0
set_option maxRecDepth 65536 in
set_option maxHeartbeats 40000000 in
theorem own_m12 (l : Launch) (Z : State) (a0 : Array Value) (hw : ∀ d ∈ tables_1, d.before a0 Z = true) (ws : List Jvm.Cond) (A : Nat → Addr) (h0 : Heap) (n0 : Nat) (Z0 : n0 ≤ h0.size) (En : own_En Z h0 A) :
    MetFree l (⟨"com/example/tempora/tempora/core/Terms$Role", "isNotePhrase", "()Z"⟩ : MethodName) (head1 (Jvm.Cond.code (⟨"com/example/tempora/tempora/core/Terms$Role", "isNotePhrase", "()Z"⟩ : MethodName) prog_30_method_4_code 1 (some .boolean) :: ws) ({ frames := 0, cells := 0, slots := 0, locals := 0 } : Room)) (fun a U => a = #[(.ref (A 12))] ∧ Z.Warmed39 U.vm ∧ U.heap = h0) (fun _ _ _ _ _ => True) (fun _ U o U' => ∃ v L, o = .returned v ∧ Q_own_m12 Z A h0 n0 v U'.heap L ∧ FrameEnd U o U' L ({ frames := 0, cells := 0, slots := 0, locals := 0 } : Room).cells ({ frames := 0, cells := 0, slots := 0, locals := 0 } : Room).slots) := by
  refine MetFree.of_bodySF (plainFor_of_name own_pn_com_example_tempora_tempora_core_Terms_Role) hisR ?_
  intro p e s m args below meth c s₁ Bd hml0 hP hK
  obtain ⟨rfl, hZ, hh⟩ := hP
  have hx := Bd.exec
  have hby := Bd.bytes
  have hml : c.maxLocals = 1 := hml0
  have hown : s.vm.findClass "com/example/tempora/tempora/core/Terms$Role" = some m.cls := findClass_of_methodNamed Bd.named
  have hnm := (name_of_methodNamed Bd.named Bd.method).1
  have hlk : meth.locks = false := BodyLoose.notSynchronized Bd
  have X0 : Stand p l e ({ frames := 0, cells := 0, slots := 0, locals := 0 } : Room) s m #[(.ref (A 12))] below meth c s₁ [] 0 0 := Stand.of_body Bd
  have e0 : s₁.heap = h0 := by rw [← hh, Bd.state]; rfl
  have N0 := Fr.nil n0
  show own_Go p e below #[(.ref (A 12))] s (fun _ U o U' => ∃ v L, o = .returned v ∧ Q_own_m12 Z A h0 n0 v U'.heap L ∧ FrameEnd U o U' L ({ frames := 0, cells := 0, slots := 0, locals := 0 } : Room).cells ({ frames := 0, cells := 0, slots := 0, locals := 0 } : Room).slots) (s₁.setTop (entryFrame m #[(.ref (A 12))] 1))
  refine own_st (V := s₁.setTop (mkF m 0 #[.val (.ref (A 12))] [])) (fun t k => castTop (by first | (simp [entryFrame, mkF, argsToLocals, Value.category]; done) | rfl) k) ?_
  refine own_st (V := s₁.setTop (mkF m 1 #[.val (.ref (A 12))] [(.ref (A 12))])) (fun t k => XS.aloadN X0.here hx rfl (hb hby own_d1_0) rfl rfl k) ?_
  obtain ⟨T37, X37, e37, st37⟩ := getS2 X0 hx hZ hown (host := "") (Or.inl (hw _ (List.mem_of_getElem? (i := 44) rfl))) Via.refl e0 (own_S En 14 (i := 14) (n := "BEGAN") rfl) (g := (mkF m 1 #[.val (.ref (A 12))] [(.ref (A 12))])) rfl (hb hby own_d1_1)
  refine own_st (V := T37.setTop (mkF m 4 #[.val (.ref (A 12))] [(.ref (A 14)), (.ref (A 12))])) (fun t k => st37 _ k) ?_
  refine own_st (V := T37.setTop (mkF m 7 #[.val (.ref (A 12))] [])) (fun t k => Jvm.RoadKit.acmp (g := (mkF m 4 #[.val (.ref (A 12))] [(.ref (A 14)), (.ref (A 12))])) X37 hx rfl rfl rfl (pc0 := 4) (pc' := 7) (same := false) rfl (hb hby own_d1_4) rfl (decide_eq_false fun q => own_ne En 12 14 (i := 12) (n := "ADDED_ISSUE") (j := 14) (n' := "BEGAN") rfl rfl (by decide) (Value.ref.inj q)) (by decide) (by decide) k) ?_
  refine own_st (V := T37.setTop (mkF m 8 #[.val (.ref (A 12))] [(.ref (A 12))])) (fun t k => XS.aloadN X37.here hx rfl (hb hby own_d1_7) rfl rfl k) ?_
  obtain ⟨T38, X38, e38, st38⟩ := getS2 X37 hx hZ hown (host := "") (Or.inl (hw _ (List.mem_of_getElem? (i := 45) rfl))) Via.refl e37 (own_S En 15 (i := 15) (n := "CEASED") rfl) (g := (mkF m 8 #[.val (.ref (A 12))] [(.ref (A 12))])) rfl (hb hby own_d1_8)
  refine own_st (V := T38.setTop (mkF m 11 #[.val (.ref (A 12))] [(.ref (A 15)), (.ref (A 12))])) (fun t k => st38 _ k) ?_
  refine own_st (V := T38.setTop (mkF m 14 #[.val (.ref (A 12))] [])) (fun t k => Jvm.RoadKit.acmp (g := (mkF m 11 #[.val (.ref (A 12))] [(.ref (A 15)), (.ref (A 12))])) X38 hx rfl rfl rfl (pc0 := 11) (pc' := 14) (same := false) rfl (hb hby own_d1_11) rfl (decide_eq_false fun q => own_ne En 12 15 (i := 12) (n := "ADDED_ISSUE") (j := 15) (n' := "CEASED") rfl rfl (by decide) (Value.ref.inj q)) (by decide) (by decide) k) ?_
  refine own_st (V := T38.setTop (mkF m 15 #[.val (.ref (A 12))] [(.ref (A 12))])) (fun t k => XS.aloadN X38.here hx rfl (hb hby own_d1_14) rfl rfl k) ?_
  obtain ⟨T39, X39, e39, st39⟩ := getS2 X38 hx hZ hown (host := "") (Or.inl (hw _ (List.mem_of_getElem? (i := 46) rfl))) Via.refl e38 (own_S En 16 (i := 16) (n := "BEGAN_AND_CEASED") rfl) (g := (mkF m 15 #[.val (.ref (A 12))] [(.ref (A 12))])) rfl (hb hby own_d1_15)
  refine own_st (V := T39.setTop (mkF m 18 #[.val (.ref (A 12))] [(.ref (A 16)), (.ref (A 12))])) (fun t k => st39 _ k) ?_
  refine own_st (V := T39.setTop (mkF m 25 #[.val (.ref (A 12))] [])) (fun t k => Jvm.RoadKit.acmp (g := (mkF m 18 #[.val (.ref (A 12))] [(.ref (A 16)), (.ref (A 12))])) X39 hx rfl rfl rfl (pc0 := 18) (pc' := 25) (same := false) rfl (hb hby own_d1_18) rfl (decide_eq_false fun q => own_ne En 12 16 (i := 12) (n := "ADDED_ISSUE") (j := 16) (n' := "BEGAN_AND_CEASED") rfl rfl (by decide) (Value.ref.inj q)) (by decide) (by decide) k) ?_
  refine own_st (V := T39.setTop (mkF m 26 #[.val (.ref (A 12))] [(.int (0 : Int32))])) (fun t k => XS.iconst X39.here hx rfl (hb hby own_d1_25) k) ?_
  exact own_ret X39 hx hlk Bd.returns (by decide +kernel) (Or.inl ⟨rfl, by simp, _, rfl⟩) (hb hby own_d1_26) (by decide) (by decide) (by show Q_own_m12 Z A h0 n0 _ T39.heap _; rw [e39]; exact ⟨rfl, N0, rfl⟩)
def Q_own_m13 (Z : State) (A : Nat → Addr) (h0 : Heap) (n0 : Nat) (v : Option Value) (h : Heap) (L : List Loc) : Prop := v = some (.int (0 : Int32)) ∧ Fr n0 L ∧ h = h0
set_option maxRecDepth 65536 in
set_option maxHeartbeats 40000000 in
theorem own_m13 (l : Launch) (Z : State) (a0 : Array Value) (hw : ∀ d ∈ tables_1, d.before a0 Z = true) (ws : List Jvm.Cond) (A : Nat → Addr) (h0 : Heap) (n0 : Nat) (Z0 : n0 ≤ h0.size) (En : own_En Z h0 A) :
    MetFree l (⟨"com/example/tempora/tempora/core/Terms$Role", "isNotePhrase", "()Z"⟩ : MethodName) (head1 (Jvm.Cond.code (⟨"com/example/tempora/tempora/core/Terms$Role", "isNotePhrase", "()Z"⟩ : MethodName) prog_30_method_4_code 1 (some .boolean) :: ws) ({ frames := 0, cells := 0, slots := 0, locals := 0 } : Room)) (fun a U => a = #[(.ref (A 13))] ∧ Z.Warmed39 U.vm ∧ U.heap = h0) (fun _ _ _ _ _ => True) (fun _ U o U' => ∃ v L, o = .returned v ∧ Q_own_m13 Z A h0 n0 v U'.heap L ∧ FrameEnd U o U' L ({ frames := 0, cells := 0, slots := 0, locals := 0 } : Room).cells ({ frames := 0, cells := 0, slots := 0, locals := 0 } : Room).slots) := by
  refine MetFree.of_bodySF (plainFor_of_name own_pn_com_example_tempora_tempora_core_Terms_Role) hisR ?_
  intro p e s m args below meth c s₁ Bd hml0 hP hK
  obtain ⟨rfl, hZ, hh⟩ := hP
  have hx := Bd.exec
  have hby := Bd.bytes
  have hml : c.maxLocals = 1 := hml0
  have hown : s.vm.findClass "com/example/tempora/tempora/core/Terms$Role" = some m.cls := findClass_of_methodNamed Bd.named
  have hnm := (name_of_methodNamed Bd.named Bd.method).1
  have hlk : meth.locks = false := BodyLoose.notSynchronized Bd
  have X0 : Stand p l e ({ frames := 0, cells := 0, slots := 0, locals := 0 } : Room) s m #[(.ref (A 13))] below meth c s₁ [] 0 0 := Stand.of_body Bd
  have e0 : s₁.heap = h0 := by rw [← hh, Bd.state]; rfl
  have N0 := Fr.nil n0
  show own_Go p e below #[(.ref (A 13))] s (fun _ U o U' => ∃ v L, o = .returned v ∧ Q_own_m13 Z A h0 n0 v U'.heap L ∧ FrameEnd U o U' L ({ frames := 0, cells := 0, slots := 0, locals := 0 } : Room).cells ({ frames := 0, cells := 0, slots := 0, locals := 0 } : Room).slots) (s₁.setTop (entryFrame m #[(.ref (A 13))] 1))
  refine own_st (V := s₁.setTop (mkF m 0 #[.val (.ref (A 13))] [])) (fun t k => castTop (by first | (simp [entryFrame, mkF, argsToLocals, Value.category]; done) | rfl) k) ?_
  refine own_st (V := s₁.setTop (mkF m 1 #[.val (.ref (A 13))] [(.ref (A 13))])) (fun t k => XS.aloadN X0.here hx rfl (hb hby own_d1_0) rfl rfl k) ?_
  obtain ⟨T40, X40, e40, st40⟩ := getS2 X0 hx hZ hown (host := "") (Or.inl (hw _ (List.mem_of_getElem? (i := 44) rfl))) Via.refl e0 (own_S En 14 (i := 14) (n := "BEGAN") rfl) (g := (mkF m 1 #[.val (.ref (A 13))] [(.ref (A 13))])) rfl (hb hby own_d1_1)
  refine own_st (V := T40.setTop (mkF m 4 #[.val (.ref (A 13))] [(.ref (A 14)), (.ref (A 13))])) (fun t k => st40 _ k) ?_
  refine own_st (V := T40.setTop (mkF m 7 #[.val (.ref (A 13))] [])) (fun t k => Jvm.RoadKit.acmp (g := (mkF m 4 #[.val (.ref (A 13))] [(.ref (A 14)), (.ref (A 13))])) X40 hx rfl rfl rfl (pc0 := 4) (pc' := 7) (same := false) rfl (hb hby own_d1_4) rfl (decide_eq_false fun q => own_ne En 13 14 (i := 13) (n := "INCLUDING") (j := 14) (n' := "BEGAN") rfl rfl (by decide) (Value.ref.inj q)) (by decide) (by decide) k) ?_
  refine own_st (V := T40.setTop (mkF m 8 #[.val (.ref (A 13))] [(.ref (A 13))])) (fun t k => XS.aloadN X40.here hx rfl (hb hby own_d1_7) rfl rfl k) ?_
  obtain ⟨T41, X41, e41, st41⟩ := getS2 X40 hx hZ hown (host := "") (Or.inl (hw _ (List.mem_of_getElem? (i := 45) rfl))) Via.refl e40 (own_S En 15 (i := 15) (n := "CEASED") rfl) (g := (mkF m 8 #[.val (.ref (A 13))] [(.ref (A 13))])) rfl (hb hby own_d1_8)
  refine own_st (V := T41.setTop (mkF m 11 #[.val (.ref (A 13))] [(.ref (A 15)), (.ref (A 13))])) (fun t k => st41 _ k) ?_
  refine own_st (V := T41.setTop (mkF m 14 #[.val (.ref (A 13))] [])) (fun t k => Jvm.RoadKit.acmp (g := (mkF m 11 #[.val (.ref (A 13))] [(.ref (A 15)), (.ref (A 13))])) X41 hx rfl rfl rfl (pc0 := 11) (pc' := 14) (same := false) rfl (hb hby own_d1_11) rfl (decide_eq_false fun q => own_ne En 13 15 (i := 13) (n := "INCLUDING") (j := 15) (n' := "CEASED") rfl rfl (by decide) (Value.ref.inj q)) (by decide) (by decide) k) ?_
  refine own_st (V := T41.setTop (mkF m 15 #[.val (.ref (A 13))] [(.ref (A 13))])) (fun t k => XS.aloadN X41.here hx rfl (hb hby own_d1_14) rfl rfl k) ?_
  obtain ⟨T42, X42, e42, st42⟩ := getS2 X41 hx hZ hown (host := "") (Or.inl (hw _ (List.mem_of_getElem? (i := 46) rfl))) Via.refl e41 (own_S En 16 (i := 16) (n := "BEGAN_AND_CEASED") rfl) (g := (mkF m 15 #[.val (.ref (A 13))] [(.ref (A 13))])) rfl (hb hby own_d1_15)
  refine own_st (V := T42.setTop (mkF m 18 #[.val (.ref (A 13))] [(.ref (A 16)), (.ref (A 13))])) (fun t k => st42 _ k) ?_
  refine own_st (V := T42.setTop (mkF m 25 #[.val (.ref (A 13))] [])) (fun t k => Jvm.RoadKit.acmp (g := (mkF m 18 #[.val (.ref (A 13))] [(.ref (A 16)), (.ref (A 13))])) X42 hx rfl rfl rfl (pc0 := 18) (pc' := 25) (same := false) rfl (hb hby own_d1_18) rfl (decide_eq_false fun q => own_ne En 13 16 (i := 13) (n := "INCLUDING") (j := 16) (n' := "BEGAN_AND_CEASED") rfl rfl (by decide) (Value.ref.inj q)) (by decide) (by decide) k) ?_
  refine own_st (V := T42.setTop (mkF m 26 #[.val (.ref (A 13))] [(.int (0 : Int32))])) (fun t k => XS.iconst X42.here hx rfl (hb hby own_d1_25) k) ?_
  exact own_ret X42 hx hlk Bd.returns (by decide +kernel) (Or.inl ⟨rfl, by simp, _, rfl⟩) (hb hby own_d1_26) (by decide) (by decide) (by show Q_own_m13 Z A h0 n0 _ T42.heap _; rw [e42]; exact ⟨rfl, N0, rfl⟩)
def Q_own_m14 (Z : State) (A : Nat → Addr) (h0 : Heap) (n0 : Nat) (v : Option Value) (h : Heap) (L : List Loc) : Prop := v = some (.int (1 : Int32)) ∧ Fr n0 L ∧ h = h0
theorem own_d1_21 : decode prog_30_method_4_code 21 = .ok (.iconst 1, 1) := by decide +kernel
theorem own_d1_22 : decode prog_30_method_4_code 22 = .ok (.goto 4, 3) := by decide +kernel
set_option maxRecDepth 65536 in
set_option maxHeartbeats 40000000 in
theorem own_m14 (l : Launch) (Z : State) (a0 : Array Value) (hw : ∀ d ∈ tables_1, d.before a0 Z = true) (ws : List Jvm.Cond) (A : Nat → Addr) (h0 : Heap) (n0 : Nat) (Z0 : n0 ≤ h0.size) (En : own_En Z h0 A) :
    MetFree l (⟨"com/example/tempora/tempora/core/Terms$Role", "isNotePhrase", "()Z"⟩ : MethodName) (head1 (Jvm.Cond.code (⟨"com/example/tempora/tempora/core/Terms$Role", "isNotePhrase", "()Z"⟩ : MethodName) prog_30_method_4_code 1 (some .boolean) :: ws) ({ frames := 0, cells := 0, slots := 0, locals := 0 } : Room)) (fun a U => a = #[(.ref (A 14))] ∧ Z.Warmed39 U.vm ∧ U.heap = h0) (fun _ _ _ _ _ => True) (fun _ U o U' => ∃ v L, o = .returned v ∧ Q_own_m14 Z A h0 n0 v U'.heap L ∧ FrameEnd U o U' L ({ frames := 0, cells := 0, slots := 0, locals := 0 } : Room).cells ({ frames := 0, cells := 0, slots := 0, locals := 0 } : Room).slots) := by
  refine MetFree.of_bodySF (plainFor_of_name own_pn_com_example_tempora_tempora_core_Terms_Role) hisR ?_
  intro p e s m args below meth c s₁ Bd hml0 hP hK
  obtain ⟨rfl, hZ, hh⟩ := hP
  have hx := Bd.exec
  have hby := Bd.bytes
  have hml : c.maxLocals = 1 := hml0
  have hown : s.vm.findClass "com/example/tempora/tempora/core/Terms$Role" = some m.cls := findClass_of_methodNamed Bd.named
  have hnm := (name_of_methodNamed Bd.named Bd.method).1
  have hlk : meth.locks = false := BodyLoose.notSynchronized Bd
  have X0 : Stand p l e ({ frames := 0, cells := 0, slots := 0, locals := 0 } : Room) s m #[(.ref (A 14))] below meth c s₁ [] 0 0 := Stand.of_body Bd
  have e0 : s₁.heap = h0 := by rw [← hh, Bd.state]; rfl
  have N0 := Fr.nil n0
  show own_Go p e below #[(.ref (A 14))] s (fun _ U o U' => ∃ v L, o = .returned v ∧ Q_own_m14 Z A h0 n0 v U'.heap L ∧ FrameEnd U o U' L ({ frames := 0, cells := 0, slots := 0, locals := 0 } : Room).cells ({ frames := 0, cells := 0, slots := 0, locals := 0 } : Room).slots) (s₁.setTop (entryFrame m #[(.ref (A 14))] 1))
  refine own_st (V := s₁.setTop (mkF m 0 #[.val (.ref (A 14))] [])) (fun t k => castTop (by first | (simp [entryFrame, mkF, argsToLocals, Value.category]; done) | rfl) k) ?_
  refine own_st (V := s₁.setTop (mkF m 1 #[.val (.ref (A 14))] [(.ref (A 14))])) (fun t k => XS.aloadN X0.here hx rfl (hb hby own_d1_0) rfl rfl k) ?_
  obtain ⟨T43, X43, e43, st43⟩ := getS2 X0 hx hZ hown (host := "") (Or.inl (hw _ (List.mem_of_getElem? (i := 44) rfl))) Via.refl e0 (own_S En 14 (i := 14) (n := "BEGAN") rfl) (g := (mkF m 1 #[.val (.ref (A 14))] [(.ref (A 14))])) rfl (hb hby own_d1_1)
  refine own_st (V := T43.setTop (mkF m 4 #[.val (.ref (A 14))] [(.ref (A 14)), (.ref (A 14))])) (fun t k => st43 _ k) ?_
  refine own_st (V := T43.setTop (mkF m 21 #[.val (.ref (A 14))] [])) (fun t k => Jvm.RoadKit.acmp (g := (mkF m 4 #[.val (.ref (A 14))] [(.ref (A 14)), (.ref (A 14))])) X43 hx rfl rfl rfl (pc0 := 4) (pc' := 21) (same := true) rfl (hb hby own_d1_4) rfl (decide_eq_true rfl) (by decide) (by decide) k) ?_
  refine own_st (V := T43.setTop (mkF m 22 #[.val (.ref (A 14))] [(.int (1 : Int32))])) (fun t k => XS.iconst X43.here hx rfl (hb hby own_d1_21) k) ?_
  refine own_st (V := T43.setTop (mkF m 26 #[.val (.ref (A 14))] [(.int (1 : Int32))])) (fun t k => XS.goto X43.here hx rfl (pc0 := 22) (pc' := 26) rfl (hb hby own_d1_22) (by decide) (by decide) k) ?_
  exact own_ret X43 hx hlk Bd.returns (by decide +kernel) (Or.inl ⟨rfl, by simp, _, rfl⟩) (hb hby own_d1_26) (by decide) (by decide) (by show Q_own_m14 Z A h0 n0 _ T43.heap _; rw [e43]; exact ⟨rfl, N0, rfl⟩)
def Q_own_m15 (Z : State) (A : Nat → Addr) (h0 : Heap) (n0 : Nat) (v : Option Value) (h : Heap) (L : List Loc) : Prop := v = some (.int (1 : Int32)) ∧ Fr n0 L ∧ h = h0
set_option maxRecDepth 65536 in
set_option maxHeartbeats 40000000 in
theorem own_m15 (l : Launch) (Z : State) (a0 : Array Value) (hw : ∀ d ∈ tables_1, d.before a0 Z = true) (ws : List Jvm.Cond) (A : Nat → Addr) (h0 : Heap) (n0 : Nat) (Z0 : n0 ≤ h0.size) (En : own_En Z h0 A) :
    MetFree l (⟨"com/example/tempora/tempora/core/Terms$Role", "isNotePhrase", "()Z"⟩ : MethodName) (head1 (Jvm.Cond.code (⟨"com/example/tempora/tempora/core/Terms$Role", "isNotePhrase", "()Z"⟩ : MethodName) prog_30_method_4_code 1 (some .boolean) :: ws) ({ frames := 0, cells := 0, slots := 0, locals := 0 } : Room)) (fun a U => a = #[(.ref (A 15))] ∧ Z.Warmed39 U.vm ∧ U.heap = h0) (fun _ _ _ _ _ => True) (fun _ U o U' => ∃ v L, o = .returned v ∧ Q_own_m15 Z A h0 n0 v U'.heap L ∧ FrameEnd U o U' L ({ frames := 0, cells := 0, slots := 0, locals := 0 } : Room).cells ({ frames := 0, cells := 0, slots := 0, locals := 0 } : Room).slots) := by
  refine MetFree.of_bodySF (plainFor_of_name own_pn_com_example_tempora_tempora_core_Terms_Role) hisR ?_
  intro p e s m args below meth c s₁ Bd hml0 hP hK
  obtain ⟨rfl, hZ, hh⟩ := hP
  have hx := Bd.exec
  have hby := Bd.bytes
  have hml : c.maxLocals = 1 := hml0
  have hown : s.vm.findClass "com/example/tempora/tempora/core/Terms$Role" = some m.cls := findClass_of_methodNamed Bd.named
  have hnm := (name_of_methodNamed Bd.named Bd.method).1
  have hlk : meth.locks = false := BodyLoose.notSynchronized Bd
  have X0 : Stand p l e ({ frames := 0, cells := 0, slots := 0, locals := 0 } : Room) s m #[(.ref (A 15))] below meth c s₁ [] 0 0 := Stand.of_body Bd
  have e0 : s₁.heap = h0 := by rw [← hh, Bd.state]; rfl
  have N0 := Fr.nil n0
  show own_Go p e below #[(.ref (A 15))] s (fun _ U o U' => ∃ v L, o = .returned v ∧ Q_own_m15 Z A h0 n0 v U'.heap L ∧ FrameEnd U o U' L ({ frames := 0, cells := 0, slots := 0, locals := 0 } : Room).cells ({ frames := 0, cells := 0, slots := 0, locals := 0 } : Room).slots) (s₁.setTop (entryFrame m #[(.ref (A 15))] 1))
  refine own_st (V := s₁.setTop (mkF m 0 #[.val (.ref (A 15))] [])) (fun t k => castTop (by first | (simp [entryFrame, mkF, argsToLocals, Value.category]; done) | rfl) k) ?_
  refine own_st (V := s₁.setTop (mkF m 1 #[.val (.ref (A 15))] [(.ref (A 15))])) (fun t k => XS.aloadN X0.here hx rfl (hb hby own_d1_0) rfl rfl k) ?_
  obtain ⟨T44, X44, e44, st44⟩ := getS2 X0 hx hZ hown (host := "") (Or.inl (hw _ (List.mem_of_getElem? (i := 44) rfl))) Via.refl e0 (own_S En 14 (i := 14) (n := "BEGAN") rfl) (g := (mkF m 1 #[.val (.ref (A 15))] [(.ref (A 15))])) rfl (hb hby own_d1_1)
  refine own_st (V := T44.setTop (mkF m 4 #[.val (.ref (A 15))] [(.ref (A 14)), (.ref (A 15))])) (fun t k => st44 _ k) ?_
  refine own_st (V := T44.setTop (mkF m 7 #[.val (.ref (A 15))] [])) (fun t k => Jvm.RoadKit.acmp (g := (mkF m 4 #[.val (.ref (A 15))] [(.ref (A 14)), (.ref (A 15))])) X44 hx rfl rfl rfl (pc0 := 4) (pc' := 7) (same := false) rfl (hb hby own_d1_4) rfl (decide_eq_false fun q => own_ne En 15 14 (i := 15) (n := "CEASED") (j := 14) (n' := "BEGAN") rfl rfl (by decide) (Value.ref.inj q)) (by decide) (by decide) k) ?_
  refine own_st (V := T44.setTop (mkF m 8 #[.val (.ref (A 15))] [(.ref (A 15))])) (fun t k => XS.aloadN X44.here hx rfl (hb hby own_d1_7) rfl rfl k) ?_
  obtain ⟨T45, X45, e45, st45⟩ := getS2 X44 hx hZ hown (host := "") (Or.inl (hw _ (List.mem_of_getElem? (i := 45) rfl))) Via.refl e44 (own_S En 15 (i := 15) (n := "CEASED") rfl) (g := (mkF m 8 #[.val (.ref (A 15))] [(.ref (A 15))])) rfl (hb hby own_d1_8)
  refine own_st (V := T45.setTop (mkF m 11 #[.val (.ref (A 15))] [(.ref (A 15)), (.ref (A 15))])) (fun t k => st45 _ k) ?_
  refine own_st (V := T45.setTop (mkF m 21 #[.val (.ref (A 15))] [])) (fun t k => Jvm.RoadKit.acmp (g := (mkF m 11 #[.val (.ref (A 15))] [(.ref (A 15)), (.ref (A 15))])) X45 hx rfl rfl rfl (pc0 := 11) (pc' := 21) (same := true) rfl (hb hby own_d1_11) rfl (decide_eq_true rfl) (by decide) (by decide) k) ?_
  refine own_st (V := T45.setTop (mkF m 22 #[.val (.ref (A 15))] [(.int (1 : Int32))])) (fun t k => XS.iconst X45.here hx rfl (hb hby own_d1_21) k) ?_
  refine own_st (V := T45.setTop (mkF m 26 #[.val (.ref (A 15))] [(.int (1 : Int32))])) (fun t k => XS.goto X45.here hx rfl (pc0 := 22) (pc' := 26) rfl (hb hby own_d1_22) (by decide) (by decide) k) ?_
  exact own_ret X45 hx hlk Bd.returns (by decide +kernel) (Or.inl ⟨rfl, by simp, _, rfl⟩) (hb hby own_d1_26) (by decide) (by decide) (by show Q_own_m15 Z A h0 n0 _ T45.heap _; rw [e45]; exact ⟨rfl, N0, rfl⟩)
def Q_own_m16 (Z : State) (A : Nat → Addr) (h0 : Heap) (n0 : Nat) (v : Option Value) (h : Heap) (L : List Loc) : Prop := v = some (.int (1 : Int32)) ∧ Fr n0 L ∧ h = h0
set_option maxRecDepth 65536 in
set_option maxHeartbeats 40000000 in
theorem own_m16 (l : Launch) (Z : State) (a0 : Array Value) (hw : ∀ d ∈ tables_1, d.before a0 Z = true) (ws : List Jvm.Cond) (A : Nat → Addr) (h0 : Heap) (n0 : Nat) (Z0 : n0 ≤ h0.size) (En : own_En Z h0 A) :
    MetFree l (⟨"com/example/tempora/tempora/core/Terms$Role", "isNotePhrase", "()Z"⟩ : MethodName) (head1 (Jvm.Cond.code (⟨"com/example/tempora/tempora/core/Terms$Role", "isNotePhrase", "()Z"⟩ : MethodName) prog_30_method_4_code 1 (some .boolean) :: ws) ({ frames := 0, cells := 0, slots := 0, locals := 0 } : Room)) (fun a U => a = #[(.ref (A 16))] ∧ Z.Warmed39 U.vm ∧ U.heap = h0) (fun _ _ _ _ _ => True) (fun _ U o U' => ∃ v L, o = .returned v ∧ Q_own_m16 Z A h0 n0 v U'.heap L ∧ FrameEnd U o U' L ({ frames := 0, cells := 0, slots := 0, locals := 0 } : Room).cells ({ frames := 0, cells := 0, slots := 0, locals := 0 } : Room).slots) := by
  refine MetFree.of_bodySF (plainFor_of_name own_pn_com_example_tempora_tempora_core_Terms_Role) hisR ?_
  intro p e s m args below meth c s₁ Bd hml0 hP hK
  obtain ⟨rfl, hZ, hh⟩ := hP
  have hx := Bd.exec
  have hby := Bd.bytes
  have hml : c.maxLocals = 1 := hml0
  have hown : s.vm.findClass "com/example/tempora/tempora/core/Terms$Role" = some m.cls := findClass_of_methodNamed Bd.named
  have hnm := (name_of_methodNamed Bd.named Bd.method).1
  have hlk : meth.locks = false := BodyLoose.notSynchronized Bd
  have X0 : Stand p l e ({ frames := 0, cells := 0, slots := 0, locals := 0 } : Room) s m #[(.ref (A 16))] below meth c s₁ [] 0 0 := Stand.of_body Bd
  have e0 : s₁.heap = h0 := by rw [← hh, Bd.state]; rfl
  have N0 := Fr.nil n0
  show own_Go p e below #[(.ref (A 16))] s (fun _ U o U' => ∃ v L, o = .returned v ∧ Q_own_m16 Z A h0 n0 v U'.heap L ∧ FrameEnd U o U' L ({ frames := 0, cells := 0, slots := 0, locals := 0 } : Room).cells ({ frames := 0, cells := 0, slots := 0, locals := 0 } : Room).slots) (s₁.setTop (entryFrame m #[(.ref (A 16))] 1))
  refine own_st (V := s₁.setTop (mkF m 0 #[.val (.ref (A 16))] [])) (fun t k => castTop (by first | (simp [entryFrame, mkF, argsToLocals, Value.category]; done) | rfl) k) ?_
  refine own_st (V := s₁.setTop (mkF m 1 #[.val (.ref (A 16))] [(.ref (A 16))])) (fun t k => XS.aloadN X0.here hx rfl (hb hby own_d1_0) rfl rfl k) ?_
  obtain ⟨T46, X46, e46, st46⟩ := getS2 X0 hx hZ hown (host := "") (Or.inl (hw _ (List.mem_of_getElem? (i := 44) rfl))) Via.refl e0 (own_S En 14 (i := 14) (n := "BEGAN") rfl) (g := (mkF m 1 #[.val (.ref (A 16))] [(.ref (A 16))])) rfl (hb hby own_d1_1)
  refine own_st (V := T46.setTop (mkF m 4 #[.val (.ref (A 16))] [(.ref (A 14)), (.ref (A 16))])) (fun t k => st46 _ k) ?_
  refine own_st (V := T46.setTop (mkF m 7 #[.val (.ref (A 16))] [])) (fun t k => Jvm.RoadKit.acmp (g := (mkF m 4 #[.val (.ref (A 16))] [(.ref (A 14)), (.ref (A 16))])) X46 hx rfl rfl rfl (pc0 := 4) (pc' := 7) (same := false) rfl (hb hby own_d1_4) rfl (decide_eq_false fun q => own_ne En 16 14 (i := 16) (n := "BEGAN_AND_CEASED") (j := 14) (n' := "BEGAN") rfl rfl (by decide) (Value.ref.inj q)) (by decide) (by decide) k) ?_
  refine own_st (V := T46.setTop (mkF m 8 #[.val (.ref (A 16))] [(.ref (A 16))])) (fun t k => XS.aloadN X46.here hx rfl (hb hby own_d1_7) rfl rfl k) ?_
  obtain ⟨T47, X47, e47, st47⟩ := getS2 X46 hx hZ hown (host := "") (Or.inl (hw _ (List.mem_of_getElem? (i := 45) rfl))) Via.refl e46 (own_S En 15 (i := 15) (n := "CEASED") rfl) (g := (mkF m 8 #[.val (.ref (A 16))] [(.ref (A 16))])) rfl (hb hby own_d1_8)
  refine own_st (V := T47.setTop (mkF m 11 #[.val (.ref (A 16))] [(.ref (A 15)), (.ref (A 16))])) (fun t k => st47 _ k) ?_
  refine own_st (V := T47.setTop (mkF m 14 #[.val (.ref (A 16))] [])) (fun t k => Jvm.RoadKit.acmp (g := (mkF m 11 #[.val (.ref (A 16))] [(.ref (A 15)), (.ref (A 16))])) X47 hx rfl rfl rfl (pc0 := 11) (pc' := 14) (same := false) rfl (hb hby own_d1_11) rfl (decide_eq_false fun q => own_ne En 16 15 (i := 16) (n := "BEGAN_AND_CEASED") (j := 15) (n' := "CEASED") rfl rfl (by decide) (Value.ref.inj q)) (by decide) (by decide) k) ?_
  refine own_st (V := T47.setTop (mkF m 15 #[.val (.ref (A 16))] [(.ref (A 16))])) (fun t k => XS.aloadN X47.here hx rfl (hb hby own_d1_14) rfl rfl k) ?_
  obtain ⟨T48, X48, e48, st48⟩ := getS2 X47 hx hZ hown (host := "") (Or.inl (hw _ (List.mem_of_getElem? (i := 46) rfl))) Via.refl e47 (own_S En 16 (i := 16) (n := "BEGAN_AND_CEASED") rfl) (g := (mkF m 15 #[.val (.ref (A 16))] [(.ref (A 16))])) rfl (hb hby own_d1_15)
  refine own_st (V := T48.setTop (mkF m 18 #[.val (.ref (A 16))] [(.ref (A 16)), (.ref (A 16))])) (fun t k => st48 _ k) ?_
  refine own_st (V := T48.setTop (mkF m 21 #[.val (.ref (A 16))] [])) (fun t k => Jvm.RoadKit.acmp (g := (mkF m 18 #[.val (.ref (A 16))] [(.ref (A 16)), (.ref (A 16))])) X48 hx rfl rfl rfl (pc0 := 18) (pc' := 21) (same := true) rfl (hb hby own_d1_18) rfl (decide_eq_true rfl) (by decide) (by decide) k) ?_
  refine own_st (V := T48.setTop (mkF m 22 #[.val (.ref (A 16))] [(.int (1 : Int32))])) (fun t k => XS.iconst X48.here hx rfl (hb hby own_d1_21) k) ?_
  refine own_st (V := T48.setTop (mkF m 26 #[.val (.ref (A 16))] [(.int (1 : Int32))])) (fun t k => XS.goto X48.here hx rfl (pc0 := 22) (pc' := 26) rfl (hb hby own_d1_22) (by decide) (by decide) k) ?_
  exact own_ret X48 hx hlk Bd.returns (by decide +kernel) (Or.inl ⟨rfl, by simp, _, rfl⟩) (hb hby own_d1_26) (by decide) (by decide) (by show Q_own_m16 Z A h0 n0 _ T48.heap _; rw [e48]; exact ⟨rfl, N0, rfl⟩)
theorem own_c (x : Int32) : ((x &&& (2147483647 : Int32)) % (17 : Int32)) = (0 : Int32) ∨ ((x &&& (2147483647 : Int32)) % (17 : Int32)) = (1 : Int32) ∨ ((x &&& (2147483647 : Int32)) % (17 : Int32)) = (2 : Int32) ∨ ((x &&& (2147483647 : Int32)) % (17 : Int32)) = (3 : Int32) ∨ ((x &&& (2147483647 : Int32)) % (17 : Int32)) = (4 : Int32) ∨ ((x &&& (2147483647 : Int32)) % (17 : Int32)) = (5 : Int32) ∨ ((x &&& (2147483647 : Int32)) % (17 : Int32)) = (6 : Int32) ∨ ((x &&& (2147483647 : Int32)) % (17 : Int32)) = (7 : Int32) ∨ ((x &&& (2147483647 : Int32)) % (17 : Int32)) = (8 : Int32) ∨ ((x &&& (2147483647 : Int32)) % (17 : Int32)) = (9 : Int32) ∨ ((x &&& (2147483647 : Int32)) % (17 : Int32)) = (10 : Int32) ∨ ((x &&& (2147483647 : Int32)) % (17 : Int32)) = (11 : Int32) ∨ ((x &&& (2147483647 : Int32)) % (17 : Int32)) = (12 : Int32) ∨ ((x &&& (2147483647 : Int32)) % (17 : Int32)) = (13 : Int32) ∨ ((x &&& (2147483647 : Int32)) % (17 : Int32)) = (14 : Int32) ∨ ((x &&& (2147483647 : Int32)) % (17 : Int32)) = (15 : Int32) ∨ ((x &&& (2147483647 : Int32)) % (17 : Int32)) = (16 : Int32) := by
  have h := c_mask x 2147483647 31 (by decide) (by decide)
  have q := (c_irem (x &&& (2147483647 : Int32)) (17 : Int32) 17 (by decide)).1 (by omega)
  have e : ∀ k : Int32, ((x &&& (2147483647 : Int32)) % (17 : Int32)).toInt = k.toInt → ((x &&& (2147483647 : Int32)) % (17 : Int32)) = k := fun k q => Int32.toInt_inj.mp q
  have b : ((x &&& (2147483647 : Int32)) % (17 : Int32)).toInt = 0 ∨ ((x &&& (2147483647 : Int32)) % (17 : Int32)).toInt = 1 ∨ ((x &&& (2147483647 : Int32)) % (17 : Int32)).toInt = 2 ∨ ((x &&& (2147483647 : Int32)) % (17 : Int32)).toInt = 3 ∨ ((x &&& (2147483647 : Int32)) % (17 : Int32)).toInt = 4 ∨ ((x &&& (2147483647 : Int32)) % (17 : Int32)).toInt = 5 ∨ ((x &&& (2147483647 : Int32)) % (17 : Int32)).toInt = 6 ∨ ((x &&& (2147483647 : Int32)) % (17 : Int32)).toInt = 7 ∨ ((x &&& (2147483647 : Int32)) % (17 : Int32)).toInt = 8 ∨ ((x &&& (2147483647 : Int32)) % (17 : Int32)).toInt = 9 ∨ ((x &&& (2147483647 : Int32)) % (17 : Int32)).toInt = 10 ∨ ((x &&& (2147483647 : Int32)) % (17 : Int32)).toInt = 11 ∨ ((x &&& (2147483647 : Int32)) % (17 : Int32)).toInt = 12 ∨ ((x &&& (2147483647 : Int32)) % (17 : Int32)).toInt = 13 ∨ ((x &&& (2147483647 : Int32)) % (17 : Int32)).toInt = 14 ∨ ((x &&& (2147483647 : Int32)) % (17 : Int32)).toInt = 15 ∨ ((x &&& (2147483647 : Int32)) % (17 : Int32)).toInt = 16 := by omega
  rcases b with b | b | b | b | b | b | b | b | b | b | b | b | b | b | b | b | b
  · exact Or.inl (e 0 b)
  · exact Or.inr (Or.inl (e 1 b))
  · exact Or.inr (Or.inr (Or.inl (e 2 b)))
  · exact Or.inr (Or.inr (Or.inr (Or.inl (e 3 b))))
  · exact Or.inr (Or.inr (Or.inr (Or.inr (Or.inl (e 4 b)))))
  · exact Or.inr (Or.inr (Or.inr (Or.inr (Or.inr (Or.inl (e 5 b))))))
  · exact Or.inr (Or.inr (Or.inr (Or.inr (Or.inr (Or.inr (Or.inl (e 6 b)))))))
  · exact Or.inr (Or.inr (Or.inr (Or.inr (Or.inr (Or.inr (Or.inr (Or.inl (e 7 b))))))))
  · exact Or.inr (Or.inr (Or.inr (Or.inr (Or.inr (Or.inr (Or.inr (Or.inr (Or.inl (e 8 b)))))))))
  · exact Or.inr (Or.inr (Or.inr (Or.inr (Or.inr (Or.inr (Or.inr (Or.inr (Or.inr (Or.inl (e 9 b))))))))))
  · exact Or.inr (Or.inr (Or.inr (Or.inr (Or.inr (Or.inr (Or.inr (Or.inr (Or.inr (Or.inr (Or.inl (e 10 b)))))))))))
  · exact Or.inr (Or.inr (Or.inr (Or.inr (Or.inr (Or.inr (Or.inr (Or.inr (Or.inr (Or.inr (Or.inr (Or.inl (e 11 b))))))))))))
  · exact Or.inr (Or.inr (Or.inr (Or.inr (Or.inr (Or.inr (Or.inr (Or.inr (Or.inr (Or.inr (Or.inr (Or.inr (Or.inl (e 12 b)))))))))))))
  · exact Or.inr (Or.inr (Or.inr (Or.inr (Or.inr (Or.inr (Or.inr (Or.inr (Or.inr (Or.inr (Or.inr (Or.inr (Or.inr (Or.inl (e 13 b))))))))))))))
  · exact Or.inr (Or.inr (Or.inr (Or.inr (Or.inr (Or.inr (Or.inr (Or.inr (Or.inr (Or.inr (Or.inr (Or.inr (Or.inr (Or.inr (Or.inl (e 14 b)))))))))))))))
  · exact Or.inr (Or.inr (Or.inr (Or.inr (Or.inr (Or.inr (Or.inr (Or.inr (Or.inr (Or.inr (Or.inr (Or.inr (Or.inr (Or.inr (Or.inr (Or.inl (e 15 b))))))))))))))))
  · exact Or.inr (Or.inr (Or.inr (Or.inr (Or.inr (Or.inr (Or.inr (Or.inr (Or.inr (Or.inr (Or.inr (Or.inr (Or.inr (Or.inr (Or.inr (Or.inr (e 16 b))))))))))))))))
def own_Q0 (Z : State) (p1 : Int32) (A : Nat → Addr) (h0 : Heap) (n0 : Nat) (v : Option Value) (h : Heap) (L : List Loc) : Prop := v = some (.int (1 : Int32)) ∧ Fr n0 L
theorem own_pd0 : parseMethodDescriptor "()Z" = some ⟨[], some .boolean⟩ := by decide +kernel
theorem own_pn_com_example_tempora_tempora_core_RoleIsNotePhrasePinLaw : plainName "com/example/tempora/tempora/core/RoleIsNotePhrasePinLaw" = true := by first | (simp [plainName, overriddenIn]; done) | decide +kernel
set_option maxRecDepth 65536 in
set_option maxHeartbeats 40000000 in
theorem own_law0 (l : Launch) (Z : State) (a0 : Array Value) (hw : ∀ d ∈ tables_1, d.before a0 Z = true) (ws : List Jvm.Cond) (p1 : Int32) (A : Nat → Addr) (h0 : Heap) (n0 : Nat) (Z0 : n0 ≤ h0.size) (En : own_En Z h0 A) :
    MetFree l x (head1 (Jvm.Cond.code x code maxLocals ret :: ws) room_1) (fun a U => a = #[(.int p1)] ∧ Z.Warmed39 U.vm ∧ U.heap = h0) (fun _ _ _ _ _ => True) (fun _ U o U' => ∃ v L, o = .returned v ∧ own_Q0 Z p1 A h0 n0 v U'.heap L ∧ FrameEnd U o U' L room_1.cells room_1.slots) := by
  refine MetFree.of_bodySF (plainFor_of_name own_pn_com_example_tempora_tempora_core_RoleIsNotePhrasePinLaw) hisR ?_
  intro p e s m args below meth c s₁ Bd hml0 hP hK
  obtain ⟨rfl, hZ, hh⟩ := hP
  have hx := Bd.exec
  have hby := Bd.bytes
  have hml : c.maxLocals = 5 := hml0
  have hown : s.vm.findClass "com/example/tempora/tempora/core/RoleIsNotePhrasePinLaw" = some m.cls := findClass_of_methodNamed Bd.named
  have hnm := (name_of_methodNamed Bd.named Bd.method).1
  have hlk : meth.locks = false := BodyLoose.notSynchronized Bd
  have X0 : Stand p l e room_1 s m #[(.int p1)] below meth c s₁ [] 0 0 := Stand.of_body Bd
  have e0 : s₁.heap = h0 := by rw [← hh, Bd.state]; rfl
  have N0 := Fr.nil n0
  show own_Go p e below #[(.int p1)] s (fun _ U o U' => ∃ v L, o = .returned v ∧ own_Q0 Z p1 A h0 n0 v U'.heap L ∧ FrameEnd U o U' L room_1.cells room_1.slots) (s₁.setTop (entryFrame m #[(.int p1)] maxLocals))
  refine own_st (V := s₁.setTop (mkF m 0 #[.val (.int p1), .unset, .unset, .unset, .unset] [])) (fun t k => castTop (by first | (simp [entryFrame, mkF, argsToLocals, Value.category, maxLocals]; done) | rfl) k) ?_
  refine own_st (V := s₁.setTop (mkF m 2 #[.val (.int p1), .unset, .unset, .unset, .unset] [(.int (17 : Int32))])) (fun t k => XS.bipush X0.here hx rfl (hb hby at_0) k) ?_
  obtain ⟨T49, h49, k49, X49, e49, E49, A49, O49, st49⟩ := newR X0 hx hZ hown (hw _ (List.mem_of_getElem? (i := 0) rfl)) (hw _ (List.mem_of_getElem? (i := 1) rfl)) e0 (g := (mkF m 2 #[.val (.int p1), .unset, .unset, .unset, .unset] [(.int (17 : Int32))])) rfl (hb hby at_2) rfl (by decide) (cap := 17) (by decide) (by decide) (by decide) (by decide)
  obtain ⟨b49, g49⟩ : ∃ z, z = h0.size := ⟨_, rfl⟩
  rw [← g49] at A49 st49
  have gb_b49 : n0 ≤ b49 := Nat.le_trans Z0 (Nat.le_of_eq g49.symm)
  have Z0_49 : n0 ≤ h49.size := Nat.le_trans Z0 E49.1
  have hne_b49 : ∀ q ∈ own_cs, A q.1 ≠ b49 := fun q hq => Nat.ne_of_lt (Nat.lt_of_lt_of_le (En q hq).2.1.lt (Nat.le_of_eq g49.symm))
  have En_49 := En.ext E49
  have V_b49 : Arv Z h49 b49 k49 (.object "com/example/tempora/tempora/core/Terms$Role") (17 : Int32) [.null, .null, .null, .null, .null, .null, .null, .null, .null, .null, .null, .null, .null, .null, .null, .null, .null] .null := (Arv.new A49 (by decide)).pad (pad_rep [] .null 17)
  refine own_st (V := T49.setTop (mkF m 5 #[.val (.int p1), .unset, .unset, .unset, .unset] [(.ref b49)])) (fun t k => st49 _ k) ?_
  refine own_st (V := T49.setTop (mkF m 6 #[.val (.int p1), .unset, .unset, .unset, .unset] [(.ref b49), (.ref b49)])) (fun t k => XS.dup X49.here hx rfl (hb hby at_5) rfl rfl k) ?_
  refine own_st (V := T49.setTop (mkF m 7 #[.val (.int p1), .unset, .unset, .unset, .unset] [(.int (0 : Int32)), (.ref b49), (.ref b49)])) (fun t k => XS.iconst X49.here hx rfl (hb hby at_6) k) ?_
  obtain ⟨T50, X50, e50, st50⟩ := getS2 X49 hx hZ hown (host := "") (Or.inl (hw _ (List.mem_of_getElem? (i := 2) rfl))) Via.refl e49 (own_S En_49 0 (i := 0) (n := "NAME") rfl) (g := (mkF m 7 #[.val (.int p1), .unset, .unset, .unset, .unset] [(.int (0 : Int32)), (.ref b49), (.ref b49)])) rfl (hb hby at_7)
  refine own_st (V := T50.setTop (mkF m 10 #[.val (.int p1), .unset, .unset, .unset, .unset] [(.ref (A 0)), (.int (0 : Int32)), (.ref b49), (.ref b49)])) (fun t k => st50 _ k) ?_
  obtain ⟨cl51, Ar51, qk51, sz51, nn51, hs51, fs51⟩ := V_b49
  have hin51 : ¬ ((0 : Int32) < 0 ∨ cl51.slots.size ≤ ((0 : Int32)).toNatClampNeg) := inb_of sz51 ⟨by decide, by decide⟩
  obtain ⟨T51, h51, X51, e51, W51, st51⟩ := stR X50 hx hZ e50 Ar51 (j := (0 : Int32)) hin51 rfl (Sto.ofV Ar51 qk51 O49 (Ins.self (own_E En_49 0 (i := 0) (n := "NAME") rfl))) (g := (mkF m 10 #[.val (.int p1), .unset, .unset, .unset, .unset] [(.ref (A 0)), (.int (0 : Int32)), (.ref b49), (.ref b49)])) rfl rfl (hb hby at_10)
  have V_b49_51 : Arv Z h51 b49 k49 (.object "com/example/tempora/tempora/core/Terms$Role") (17 : Int32) [(.ref (A 0)), .null, .null, .null, .null, .null, .null, .null, .null, .null, .null, .null, .null, .null, .null, .null, .null] .null := Arv.set Ar51 qk51 sz51 nn51 hs51 fs51 rfl W51 0 rfl (Nat.le_of_ble_eq_true rfl)
  have N51 := Fr.snoc X51 N0 gb_b49
  have En_51 := En_49.wr W51 hne_b49
  have Z0_51 : n0 ≤ h51.size := by rw [W51.size]; exact Z0_49
  refine own_st (V := T51.setTop (mkF m 11 #[.val (.int p1), .unset, .unset, .unset, .unset] [(.ref b49)])) (fun t k => st51 _ k) ?_
  refine own_st (V := T51.setTop (mkF m 12 #[.val (.int p1), .unset, .unset, .unset, .unset] [(.ref b49), (.ref b49)])) (fun t k => XS.dup X51.here hx rfl (hb hby at_11) rfl rfl k) ?_
  refine own_st (V := T51.setTop (mkF m 13 #[.val (.int p1), .unset, .unset, .unset, .unset] [(.int (1 : Int32)), (.ref b49), (.ref b49)])) (fun t k => XS.iconst X51.here hx rfl (hb hby at_12) k) ?_
  obtain ⟨T52, X52, e52, st52⟩ := getS2 X51 hx hZ hown (host := "") (Or.inl (hw _ (List.mem_of_getElem? (i := 6) rfl))) Via.refl e51 (own_S En_51 1 (i := 1) (n := "UPDATE") rfl) (g := (mkF m 13 #[.val (.int p1), .unset, .unset, .unset, .unset] [(.int (1 : Int32)), (.ref b49), (.ref b49)])) rfl (hb hby at_13)
  refine own_st (V := T52.setTop (mkF m 16 #[.val (.int p1), .unset, .unset, .unset, .unset] [(.ref (A 1)), (.int (1 : Int32)), (.ref b49), (.ref b49)])) (fun t k => st52 _ k) ?_
  obtain ⟨cl53, Ar53, qk53, sz53, nn53, hs53, fs53⟩ := V_b49_51
  have hin53 : ¬ ((1 : Int32) < 0 ∨ cl53.slots.size ≤ ((1 : Int32)).toNatClampNeg) := inb_of sz53 ⟨by decide, by decide⟩
  obtain ⟨T53, h53, X53, e53, W53, st53⟩ := stR X52 hx hZ e52 Ar53 (j := (1 : Int32)) hin53 rfl (Sto.ofV Ar53 qk53 O49 (Ins.self (own_E En_51 1 (i := 1) (n := "UPDATE") rfl))) (g := (mkF m 16 #[.val (.int p1), .unset, .unset, .unset, .unset] [(.ref (A 1)), (.int (1 : Int32)), (.ref b49), (.ref b49)])) rfl rfl (hb hby at_16)
  have V_b49_53 : Arv Z h53 b49 k49 (.object "com/example/tempora/tempora/core/Terms$Role") (17 : Int32) [(.ref (A 0)), (.ref (A 1)), .null, .null, .null, .null, .null, .null, .null, .null, .null, .null, .null, .null, .null, .null, .null] .null := Arv.set Ar53 qk53 sz53 nn53 hs53 fs53 rfl W53 1 rfl (Nat.le_of_ble_eq_true rfl)
  have N53 := Fr.snoc X53 N51 gb_b49
  have En_53 := En_51.wr W53 hne_b49
  have Z0_53 : n0 ≤ h53.size := by rw [W53.size]; exact Z0_51
  refine own_st (V := T53.setTop (mkF m 17 #[.val (.int p1), .unset, .unset, .unset, .unset] [(.ref b49)])) (fun t k => st53 _ k) ?_
  refine own_st (V := T53.setTop (mkF m 18 #[.val (.int p1), .unset, .unset, .unset, .unset] [(.ref b49), (.ref b49)])) (fun t k => XS.dup X53.here hx rfl (hb hby at_17) rfl rfl k) ?_
  refine own_st (V := T53.setTop (mkF m 19 #[.val (.int p1), .unset, .unset, .unset, .unset] [(.int (2 : Int32)), (.ref b49), (.ref b49)])) (fun t k => XS.iconst X53.here hx rfl (hb hby at_18) k) ?_
  obtain ⟨T54, X54, e54, st54⟩ := getS2 X53 hx hZ hown (host := "") (Or.inl (hw _ (List.mem_of_getElem? (i := 8) rfl))) Via.refl e53 (own_S En_53 2 (i := 2) (n := "UPDATE_FREQUENCY") rfl) (g := (mkF m 19 #[.val (.int p1), .unset, .unset, .unset, .unset] [(.int (2 : Int32)), (.ref b49), (.ref b49)])) rfl (hb hby at_19)
  refine own_st (V := T54.setTop (mkF m 22 #[.val (.int p1), .unset, .unset, .unset, .unset] [(.ref (A 2)), (.int (2 : Int32)), (.ref b49), (.ref b49)])) (fun t k => st54 _ k) ?_
  obtain ⟨cl55, Ar55, qk55, sz55, nn55, hs55, fs55⟩ := V_b49_53
  have hin55 : ¬ ((2 : Int32) < 0 ∨ cl55.slots.size ≤ ((2 : Int32)).toNatClampNeg) := inb_of sz55 ⟨by decide, by decide⟩
  obtain ⟨T55, h55, X55, e55, W55, st55⟩ := stR X54 hx hZ e54 Ar55 (j := (2 : Int32)) hin55 rfl (Sto.ofV Ar55 qk55 O49 (Ins.self (own_E En_53 2 (i := 2) (n := "UPDATE_FREQUENCY") rfl))) (g := (mkF m 22 #[.val (.int p1), .unset, .unset, .unset, .unset] [(.ref (A 2)), (.int (2 : Int32)), (.ref b49), (.ref b49)])) rfl rfl (hb hby at_22)
  have V_b49_55 : Arv Z h55 b49 k49 (.object "com/example/tempora/tempora/core/Terms$Role") (17 : Int32) [(.ref (A 0)), (.ref (A 1)), (.ref (A 2)), .null, .null, .null, .null, .null, .null, .null, .null, .null, .null, .null, .null, .null, .null] .null := Arv.set Ar55 qk55 sz55 nn55 hs55 fs55 rfl W55 2 rfl (Nat.le_of_ble_eq_true rfl)
  have N55 := Fr.snoc X55 N53 gb_b49
  have En_55 := En_53.wr W55 hne_b49
  have Z0_55 : n0 ≤ h55.size := by rw [W55.size]; exact Z0_53
  refine own_st (V := T55.setTop (mkF m 23 #[.val (.int p1), .unset, .unset, .unset, .unset] [(.ref b49)])) (fun t k => st55 _ k) ?_
  refine own_st (V := T55.setTop (mkF m 24 #[.val (.int p1), .unset, .unset, .unset, .unset] [(.ref b49), (.ref b49)])) (fun t k => XS.dup X55.here hx rfl (hb hby at_23) rfl rfl k) ?_
  refine own_st (V := T55.setTop (mkF m 25 #[.val (.int p1), .unset, .unset, .unset, .unset] [(.int (3 : Int32)), (.ref b49), (.ref b49)])) (fun t k => XS.iconst X55.here hx rfl (hb hby at_24) k) ?_
  obtain ⟨T56, X56, e56, st56⟩ := getS2 X55 hx hZ hown (host := "") (Or.inl (hw _ (List.mem_of_getElem? (i := 10) rfl))) Via.refl e55 (own_S En_55 3 (i := 3) (n := "TRAILING_UPDATE") rfl) (g := (mkF m 25 #[.val (.int p1), .unset, .unset, .unset, .unset] [(.int (3 : Int32)), (.ref b49), (.ref b49)])) rfl (hb hby at_25)
  refine own_st (V := T56.setTop (mkF m 28 #[.val (.int p1), .unset, .unset, .unset, .unset] [(.ref (A 3)), (.int (3 : Int32)), (.ref b49), (.ref b49)])) (fun t k => st56 _ k) ?_
  obtain ⟨cl57, Ar57, qk57, sz57, nn57, hs57, fs57⟩ := V_b49_55
  have hin57 : ¬ ((3 : Int32) < 0 ∨ cl57.slots.size ≤ ((3 : Int32)).toNatClampNeg) := inb_of sz57 ⟨by decide, by decide⟩
  obtain ⟨T57, h57, X57, e57, W57, st57⟩ := stR X56 hx hZ e56 Ar57 (j := (3 : Int32)) hin57 rfl (Sto.ofV Ar57 qk57 O49 (Ins.self (own_E En_55 3 (i := 3) (n := "TRAILING_UPDATE") rfl))) (g := (mkF m 28 #[.val (.int p1), .unset, .unset, .unset, .unset] [(.ref (A 3)), (.int (3 : Int32)), (.ref b49), (.ref b49)])) rfl rfl (hb hby at_28)
  have V_b49_57 : Arv Z h57 b49 k49 (.object "com/example/tempora/tempora/core/Terms$Role") (17 : Int32) [(.ref (A 0)), (.ref (A 1)), (.ref (A 2)), (.ref (A 3)), .null, .null, .null, .null, .null, .null, .null, .null, .null, .null, .null, .null, .null] .null := Arv.set Ar57 qk57 sz57 nn57 hs57 fs57 rfl W57 3 rfl (Nat.le_of_ble_eq_true rfl)
  have N57 := Fr.snoc X57 N55 gb_b49
  have En_57 := En_55.wr W57 hne_b49
  have Z0_57 : n0 ≤ h57.size := by rw [W57.size]; exact Z0_55
  refine own_st (V := T57.setTop (mkF m 29 #[.val (.int p1), .unset, .unset, .unset, .unset] [(.ref b49)])) (fun t k => st57 _ k) ?_
  refine own_st (V := T57.setTop (mkF m 30 #[.val (.int p1), .unset, .unset, .unset, .unset] [(.ref b49), (.ref b49)])) (fun t k => XS.dup X57.here hx rfl (hb hby at_29) rfl rfl k) ?_
  refine own_st (V := T57.setTop (mkF m 31 #[.val (.int p1), .unset, .unset, .unset, .unset] [(.int (4 : Int32)), (.ref b49), (.ref b49)])) (fun t k => XS.iconst X57.here hx rfl (hb hby at_30) k) ?_
  obtain ⟨T58, X58, e58, st58⟩ := getS2 X57 hx hZ hown (host := "") (Or.inl (hw _ (List.mem_of_getElem? (i := 12) rfl))) Via.refl e57 (own_S En_57 4 (i := 4) (n := "NUMBER") rfl) (g := (mkF m 31 #[.val (.int p1), .unset, .unset, .unset, .unset] [(.int (4 : Int32)), (.ref b49), (.ref b49)])) rfl (hb hby at_31)
  refine own_st (V := T58.setTop (mkF m 34 #[.val (.int p1), .unset, .unset, .unset, .unset] [(.ref (A 4)), (.int (4 : Int32)), (.ref b49), (.ref b49)])) (fun t k => st58 _ k) ?_
  obtain ⟨cl59, Ar59, qk59, sz59, nn59, hs59, fs59⟩ := V_b49_57
  have hin59 : ¬ ((4 : Int32) < 0 ∨ cl59.slots.size ≤ ((4 : Int32)).toNatClampNeg) := inb_of sz59 ⟨by decide, by decide⟩
  obtain ⟨T59, h59, X59, e59, W59, st59⟩ := stR X58 hx hZ e58 Ar59 (j := (4 : Int32)) hin59 rfl (Sto.ofV Ar59 qk59 O49 (Ins.self (own_E En_57 4 (i := 4) (n := "NUMBER") rfl))) (g := (mkF m 34 #[.val (.int p1), .unset, .unset, .unset, .unset] [(.ref (A 4)), (.int (4 : Int32)), (.ref b49), (.ref b49)])) rfl rfl (hb hby at_34)
  have V_b49_59 : Arv Z h59 b49 k49 (.object "com/example/tempora/tempora/core/Terms$Role") (17 : Int32) [(.ref (A 0)), (.ref (A 1)), (.ref (A 2)), (.ref (A 3)), (.ref (A 4)), .null, .null, .null, .null, .null, .null, .null, .null, .null, .null, .null, .null] .null := Arv.set Ar59 qk59 sz59 nn59 hs59 fs59 rfl W59 4 rfl (Nat.le_of_ble_eq_true rfl)
  have N59 := Fr.snoc X59 N57 gb_b49
  have En_59 := En_57.wr W59 hne_b49
  have Z0_59 : n0 ≤ h59.size := by rw [W59.size]; exact Z0_57
  refine own_st (V := T59.setTop (mkF m 35 #[.val (.int p1), .unset, .unset, .unset, .unset] [(.ref b49)])) (fun t k => st59 _ k) ?_
  refine own_st (V := T59.setTop (mkF m 36 #[.val (.int p1), .unset, .unset, .unset, .unset] [(.ref b49), (.ref b49)])) (fun t k => XS.dup X59.here hx rfl (hb hby at_35) rfl rfl k) ?_
  refine own_st (V := T59.setTop (mkF m 37 #[.val (.int p1), .unset, .unset, .unset, .unset] [(.int (5 : Int32)), (.ref b49), (.ref b49)])) (fun t k => XS.iconst X59.here hx rfl (hb hby at_36) k) ?_
  obtain ⟨T60, X60, e60, st60⟩ := getS2 X59 hx hZ hown (host := "") (Or.inl (hw _ (List.mem_of_getElem? (i := 14) rfl))) Via.refl e59 (own_S En_59 5 (i := 5) (n := "MULTIPLE") rfl) (g := (mkF m 37 #[.val (.int p1), .unset, .unset, .unset, .unset] [(.int (5 : Int32)), (.ref b49), (.ref b49)])) rfl (hb hby at_37)
  refine own_st (V := T60.setTop (mkF m 40 #[.val (.int p1), .unset, .unset, .unset, .unset] [(.ref (A 5)), (.int (5 : Int32)), (.ref b49), (.ref b49)])) (fun t k => st60 _ k) ?_
  obtain ⟨cl61, Ar61, qk61, sz61, nn61, hs61, fs61⟩ := V_b49_59
  have hin61 : ¬ ((5 : Int32) < 0 ∨ cl61.slots.size ≤ ((5 : Int32)).toNatClampNeg) := inb_of sz61 ⟨by decide, by decide⟩
  obtain ⟨T61, h61, X61, e61, W61, st61⟩ := stR X60 hx hZ e60 Ar61 (j := (5 : Int32)) hin61 rfl (Sto.ofV Ar61 qk61 O49 (Ins.self (own_E En_59 5 (i := 5) (n := "MULTIPLE") rfl))) (g := (mkF m 40 #[.val (.int p1), .unset, .unset, .unset, .unset] [(.ref (A 5)), (.int (5 : Int32)), (.ref b49), (.ref b49)])) rfl rfl (hb hby at_40)
  have V_b49_61 : Arv Z h61 b49 k49 (.object "com/example/tempora/tempora/core/Terms$Role") (17 : Int32) [(.ref (A 0)), (.ref (A 1)), (.ref (A 2)), (.ref (A 3)), (.ref (A 4)), (.ref (A 5)), .null, .null, .null, .null, .null, .null, .null, .null, .null, .null, .null] .null := Arv.set Ar61 qk61 sz61 nn61 hs61 fs61 rfl W61 5 rfl (Nat.le_of_ble_eq_true rfl)
  have N61 := Fr.snoc X61 N59 gb_b49
  have En_61 := En_59.wr W61 hne_b49
  have Z0_61 : n0 ≤ h61.size := by rw [W61.size]; exact Z0_59
  refine own_st (V := T61.setTop (mkF m 41 #[.val (.int p1), .unset, .unset, .unset, .unset] [(.ref b49)])) (fun t k => st61 _ k) ?_
  refine own_st (V := T61.setTop (mkF m 42 #[.val (.int p1), .unset, .unset, .unset, .unset] [(.ref b49), (.ref b49)])) (fun t k => XS.dup X61.here hx rfl (hb hby at_41) rfl rfl k) ?_
  refine own_st (V := T61.setTop (mkF m 44 #[.val (.int p1), .unset, .unset, .unset, .unset] [(.int (6 : Int32)), (.ref b49), (.ref b49)])) (fun t k => XS.bipush X61.here hx rfl (hb hby at_42) k) ?_
  obtain ⟨T62, X62, e62, st62⟩ := getS2 X61 hx hZ hown (host := "") (Or.inl (hw _ (List.mem_of_getElem? (i := 16) rfl))) Via.refl e61 (own_S En_61 6 (i := 6) (n := "UNIT") rfl) (g := (mkF m 44 #[.val (.int p1), .unset, .unset, .unset, .unset] [(.int (6 : Int32)), (.ref b49), (.ref b49)])) rfl (hb hby at_44)
  refine own_st (V := T62.setTop (mkF m 47 #[.val (.int p1), .unset, .unset, .unset, .unset] [(.ref (A 6)), (.int (6 : Int32)), (.ref b49), (.ref b49)])) (fun t k => st62 _ k) ?_
  obtain ⟨cl63, Ar63, qk63, sz63, nn63, hs63, fs63⟩ := V_b49_61
  have hin63 : ¬ ((6 : Int32) < 0 ∨ cl63.slots.size ≤ ((6 : Int32)).toNatClampNeg) := inb_of sz63 ⟨by decide, by decide⟩
  obtain ⟨T63, h63, X63, e63, W63, st63⟩ := stR X62 hx hZ e62 Ar63 (j := (6 : Int32)) hin63 rfl (Sto.ofV Ar63 qk63 O49 (Ins.self (own_E En_61 6 (i := 6) (n := "UNIT") rfl))) (g := (mkF m 47 #[.val (.int p1), .unset, .unset, .unset, .unset] [(.ref (A 6)), (.int (6 : Int32)), (.ref b49), (.ref b49)])) rfl rfl (hb hby at_47)
  have V_b49_63 : Arv Z h63 b49 k49 (.object "com/example/tempora/tempora/core/Terms$Role") (17 : Int32) [(.ref (A 0)), (.ref (A 1)), (.ref (A 2)), (.ref (A 3)), (.ref (A 4)), (.ref (A 5)), (.ref (A 6)), .null, .null, .null, .null, .null, .null, .null, .null, .null, .null] .null := Arv.set Ar63 qk63 sz63 nn63 hs63 fs63 rfl W63 6 rfl (Nat.le_of_ble_eq_true rfl)
  have N63 := Fr.snoc X63 N61 gb_b49
  have En_63 := En_61.wr W63 hne_b49
  have Z0_63 : n0 ≤ h63.size := by rw [W63.size]; exact Z0_61
  refine own_st (V := T63.setTop (mkF m 48 #[.val (.int p1), .unset, .unset, .unset, .unset] [(.ref b49)])) (fun t k => st63 _ k) ?_
  refine own_st (V := T63.setTop (mkF m 49 #[.val (.int p1), .unset, .unset, .unset, .unset] [(.ref b49), (.ref b49)])) (fun t k => XS.dup X63.here hx rfl (hb hby at_48) rfl rfl k) ?_
  refine own_st (V := T63.setTop (mkF m 51 #[.val (.int p1), .unset, .unset, .unset, .unset] [(.int (7 : Int32)), (.ref b49), (.ref b49)])) (fun t k => XS.bipush X63.here hx rfl (hb hby at_49) k) ?_
  obtain ⟨T64, X64, e64, st64⟩ := getS2 X63 hx hZ hown (host := "") (Or.inl (hw _ (List.mem_of_getElem? (i := 18) rfl))) Via.refl e63 (own_S En_63 7 (i := 7) (n := "PERIOD") rfl) (g := (mkF m 51 #[.val (.int p1), .unset, .unset, .unset, .unset] [(.int (7 : Int32)), (.ref b49), (.ref b49)])) rfl (hb hby at_51)
  refine own_st (V := T64.setTop (mkF m 54 #[.val (.int p1), .unset, .unset, .unset, .unset] [(.ref (A 7)), (.int (7 : Int32)), (.ref b49), (.ref b49)])) (fun t k => st64 _ k) ?_
  obtain ⟨cl65, Ar65, qk65, sz65, nn65, hs65, fs65⟩ := V_b49_63
  have hin65 : ¬ ((7 : Int32) < 0 ∨ cl65.slots.size ≤ ((7 : Int32)).toNatClampNeg) := inb_of sz65 ⟨by decide, by decide⟩
  obtain ⟨T65, h65, X65, e65, W65, st65⟩ := stR X64 hx hZ e64 Ar65 (j := (7 : Int32)) hin65 rfl (Sto.ofV Ar65 qk65 O49 (Ins.self (own_E En_63 7 (i := 7) (n := "PERIOD") rfl))) (g := (mkF m 54 #[.val (.int p1), .unset, .unset, .unset, .unset] [(.ref (A 7)), (.int (7 : Int32)), (.ref b49), (.ref b49)])) rfl rfl (hb hby at_54)
  have V_b49_65 : Arv Z h65 b49 k49 (.object "com/example/tempora/tempora/core/Terms$Role") (17 : Int32) [(.ref (A 0)), (.ref (A 1)), (.ref (A 2)), (.ref (A 3)), (.ref (A 4)), (.ref (A 5)), (.ref (A 6)), (.ref (A 7)), .null, .null, .null, .null, .null, .null, .null, .null, .null] .null := Arv.set Ar65 qk65 sz65 nn65 hs65 fs65 rfl W65 7 rfl (Nat.le_of_ble_eq_true rfl)
  have N65 := Fr.snoc X65 N63 gb_b49
  have En_65 := En_63.wr W65 hne_b49
  have Z0_65 : n0 ≤ h65.size := by rw [W65.size]; exact Z0_63
  refine own_st (V := T65.setTop (mkF m 55 #[.val (.int p1), .unset, .unset, .unset, .unset] [(.ref b49)])) (fun t k => st65 _ k) ?_
  refine own_st (V := T65.setTop (mkF m 56 #[.val (.int p1), .unset, .unset, .unset, .unset] [(.ref b49), (.ref b49)])) (fun t k => XS.dup X65.here hx rfl (hb hby at_55) rfl rfl k) ?_
  refine own_st (V := T65.setTop (mkF m 58 #[.val (.int p1), .unset, .unset, .unset, .unset] [(.int (8 : Int32)), (.ref b49), (.ref b49)])) (fun t k => XS.bipush X65.here hx rfl (hb hby at_56) k) ?_
  obtain ⟨T66, X66, e66, st66⟩ := getS2 X65 hx hZ hown (host := "") (Or.inl (hw _ (List.mem_of_getElem? (i := 20) rfl))) Via.refl e65 (own_S En_65 8 (i := 8) (n := "EXCEPT") rfl) (g := (mkF m 58 #[.val (.int p1), .unset, .unset, .unset, .unset] [(.int (8 : Int32)), (.ref b49), (.ref b49)])) rfl (hb hby at_58)
  refine own_st (V := T66.setTop (mkF m 61 #[.val (.int p1), .unset, .unset, .unset, .unset] [(.ref (A 8)), (.int (8 : Int32)), (.ref b49), (.ref b49)])) (fun t k => st66 _ k) ?_
  obtain ⟨cl67, Ar67, qk67, sz67, nn67, hs67, fs67⟩ := V_b49_65
  have hin67 : ¬ ((8 : Int32) < 0 ∨ cl67.slots.size ≤ ((8 : Int32)).toNatClampNeg) := inb_of sz67 ⟨by decide, by decide⟩
  obtain ⟨T67, h67, X67, e67, W67, st67⟩ := stR X66 hx hZ e66 Ar67 (j := (8 : Int32)) hin67 rfl (Sto.ofV Ar67 qk67 O49 (Ins.self (own_E En_65 8 (i := 8) (n := "EXCEPT") rfl))) (g := (mkF m 61 #[.val (.int p1), .unset, .unset, .unset, .unset] [(.ref (A 8)), (.int (8 : Int32)), (.ref b49), (.ref b49)])) rfl rfl (hb hby at_61)
  have V_b49_67 : Arv Z h67 b49 k49 (.object "com/example/tempora/tempora/core/Terms$Role") (17 : Int32) [(.ref (A 0)), (.ref (A 1)), (.ref (A 2)), (.ref (A 3)), (.ref (A 4)), (.ref (A 5)), (.ref (A 6)), (.ref (A 7)), (.ref (A 8)), .null, .null, .null, .null, .null, .null, .null, .null] .null := Arv.set Ar67 qk67 sz67 nn67 hs67 fs67 rfl W67 8 rfl (Nat.le_of_ble_eq_true rfl)
  have N67 := Fr.snoc X67 N65 gb_b49
  have En_67 := En_65.wr W67 hne_b49
  have Z0_67 : n0 ≤ h67.size := by rw [W67.size]; exact Z0_65
  refine own_st (V := T67.setTop (mkF m 62 #[.val (.int p1), .unset, .unset, .unset, .unset] [(.ref b49)])) (fun t k => st67 _ k) ?_
  refine own_st (V := T67.setTop (mkF m 63 #[.val (.int p1), .unset, .unset, .unset, .unset] [(.ref b49), (.ref b49)])) (fun t k => XS.dup X67.here hx rfl (hb hby at_62) rfl rfl k) ?_
  refine own_st (V := T67.setTop (mkF m 65 #[.val (.int p1), .unset, .unset, .unset, .unset] [(.int (9 : Int32)), (.ref b49), (.ref b49)])) (fun t k => XS.bipush X67.here hx rfl (hb hby at_63) k) ?_
  obtain ⟨T68, X68, e68, st68⟩ := getS2 X67 hx hZ hown (host := "") (Or.inl (hw _ (List.mem_of_getElem? (i := 22) rfl))) Via.refl e67 (own_S En_67 9 (i := 9) (n := "MONTH") rfl) (g := (mkF m 65 #[.val (.int p1), .unset, .unset, .unset, .unset] [(.int (9 : Int32)), (.ref b49), (.ref b49)])) rfl (hb hby at_65)
  refine own_st (V := T68.setTop (mkF m 68 #[.val (.int p1), .unset, .unset, .unset, .unset] [(.ref (A 9)), (.int (9 : Int32)), (.ref b49), (.ref b49)])) (fun t k => st68 _ k) ?_
  obtain ⟨cl69, Ar69, qk69, sz69, nn69, hs69, fs69⟩ := V_b49_67
  have hin69 : ¬ ((9 : Int32) < 0 ∨ cl69.slots.size ≤ ((9 : Int32)).toNatClampNeg) := inb_of sz69 ⟨by decide, by decide⟩
  obtain ⟨T69, h69, X69, e69, W69, st69⟩ := stR X68 hx hZ e68 Ar69 (j := (9 : Int32)) hin69 rfl (Sto.ofV Ar69 qk69 O49 (Ins.self (own_E En_67 9 (i := 9) (n := "MONTH") rfl))) (g := (mkF m 68 #[.val (.int p1), .unset, .unset, .unset, .unset] [(.ref (A 9)), (.int (9 : Int32)), (.ref b49), (.ref b49)])) rfl rfl (hb hby at_68)
  have V_b49_69 : Arv Z h69 b49 k49 (.object "com/example/tempora/tempora/core/Terms$Role") (17 : Int32) [(.ref (A 0)), (.ref (A 1)), (.ref (A 2)), (.ref (A 3)), (.ref (A 4)), (.ref (A 5)), (.ref (A 6)), (.ref (A 7)), (.ref (A 8)), (.ref (A 9)), .null, .null, .null, .null, .null, .null, .null] .null := Arv.set Ar69 qk69 sz69 nn69 hs69 fs69 rfl W69 9 rfl (Nat.le_of_ble_eq_true rfl)
  have N69 := Fr.snoc X69 N67 gb_b49
  have En_69 := En_67.wr W69 hne_b49
  have Z0_69 : n0 ≤ h69.size := by rw [W69.size]; exact Z0_67
  refine own_st (V := T69.setTop (mkF m 69 #[.val (.int p1), .unset, .unset, .unset, .unset] [(.ref b49)])) (fun t k => st69 _ k) ?_
  refine own_st (V := T69.setTop (mkF m 70 #[.val (.int p1), .unset, .unset, .unset, .unset] [(.ref b49), (.ref b49)])) (fun t k => XS.dup X69.here hx rfl (hb hby at_69) rfl rfl k) ?_
  refine own_st (V := T69.setTop (mkF m 72 #[.val (.int p1), .unset, .unset, .unset, .unset] [(.int (10 : Int32)), (.ref b49), (.ref b49)])) (fun t k => XS.bipush X69.here hx rfl (hb hby at_70) k) ?_
  obtain ⟨T70, X70, e70, st70⟩ := getS2 X69 hx hZ hown (host := "") (Or.inl (hw _ (List.mem_of_getElem? (i := 24) rfl))) Via.refl e69 (own_S En_69 10 (i := 10) (n := "SEASON") rfl) (g := (mkF m 72 #[.val (.int p1), .unset, .unset, .unset, .unset] [(.int (10 : Int32)), (.ref b49), (.ref b49)])) rfl (hb hby at_72)
  refine own_st (V := T70.setTop (mkF m 75 #[.val (.int p1), .unset, .unset, .unset, .unset] [(.ref (A 10)), (.int (10 : Int32)), (.ref b49), (.ref b49)])) (fun t k => st70 _ k) ?_
  obtain ⟨cl71, Ar71, qk71, sz71, nn71, hs71, fs71⟩ := V_b49_69
  have hin71 : ¬ ((10 : Int32) < 0 ∨ cl71.slots.size ≤ ((10 : Int32)).toNatClampNeg) := inb_of sz71 ⟨by decide, by decide⟩
  obtain ⟨T71, h71, X71, e71, W71, st71⟩ := stR X70 hx hZ e70 Ar71 (j := (10 : Int32)) hin71 rfl (Sto.ofV Ar71 qk71 O49 (Ins.self (own_E En_69 10 (i := 10) (n := "SEASON") rfl))) (g := (mkF m 75 #[.val (.int p1), .unset, .unset, .unset, .unset] [(.ref (A 10)), (.int (10 : Int32)), (.ref b49), (.ref b49)])) rfl rfl (hb hby at_75)
  have V_b49_71 : Arv Z h71 b49 k49 (.object "com/example/tempora/tempora/core/Terms$Role") (17 : Int32) [(.ref (A 0)), (.ref (A 1)), (.ref (A 2)), (.ref (A 3)), (.ref (A 4)), (.ref (A 5)), (.ref (A 6)), (.ref (A 7)), (.ref (A 8)), (.ref (A 9)), (.ref (A 10)), .null, .null, .null, .null, .null, .null] .null := Arv.set Ar71 qk71 sz71 nn71 hs71 fs71 rfl W71 10 rfl (Nat.le_of_ble_eq_true rfl)
  have N71 := Fr.snoc X71 N69 gb_b49
  have En_71 := En_69.wr W71 hne_b49
  have Z0_71 : n0 ≤ h71.size := by rw [W71.size]; exact Z0_69
  refine own_st (V := T71.setTop (mkF m 76 #[.val (.int p1), .unset, .unset, .unset, .unset] [(.ref b49)])) (fun t k => st71 _ k) ?_
  refine own_st (V := T71.setTop (mkF m 77 #[.val (.int p1), .unset, .unset, .unset, .unset] [(.ref b49), (.ref b49)])) (fun t k => XS.dup X71.here hx rfl (hb hby at_76) rfl rfl k) ?_
  refine own_st (V := T71.setTop (mkF m 79 #[.val (.int p1), .unset, .unset, .unset, .unset] [(.int (11 : Int32)), (.ref b49), (.ref b49)])) (fun t k => XS.bipush X71.here hx rfl (hb hby at_77) k) ?_
  obtain ⟨T72, X72, e72, st72⟩ := getS2 X71 hx hZ hown (host := "") (Or.inl (hw _ (List.mem_of_getElem? (i := 26) rfl))) Via.refl e71 (own_S En_71 11 (i := 11) (n := "WITH") rfl) (g := (mkF m 79 #[.val (.int p1), .unset, .unset, .unset, .unset] [(.int (11 : Int32)), (.ref b49), (.ref b49)])) rfl (hb hby at_79)
  refine own_st (V := T72.setTop (mkF m 82 #[.val (.int p1), .unset, .unset, .unset, .unset] [(.ref (A 11)), (.int (11 : Int32)), (.ref b49), (.ref b49)])) (fun t k => st72 _ k) ?_
  obtain ⟨cl73, Ar73, qk73, sz73, nn73, hs73, fs73⟩ := V_b49_71
  have hin73 : ¬ ((11 : Int32) < 0 ∨ cl73.slots.size ≤ ((11 : Int32)).toNatClampNeg) := inb_of sz73 ⟨by decide, by decide⟩
  obtain ⟨T73, h73, X73, e73, W73, st73⟩ := stR X72 hx hZ e72 Ar73 (j := (11 : Int32)) hin73 rfl (Sto.ofV Ar73 qk73 O49 (Ins.self (own_E En_71 11 (i := 11) (n := "WITH") rfl))) (g := (mkF m 82 #[.val (.int p1), .unset, .unset, .unset, .unset] [(.ref (A 11)), (.int (11 : Int32)), (.ref b49), (.ref b49)])) rfl rfl (hb hby at_82)
  have V_b49_73 : Arv Z h73 b49 k49 (.object "com/example/tempora/tempora/core/Terms$Role") (17 : Int32) [(.ref (A 0)), (.ref (A 1)), (.ref (A 2)), (.ref (A 3)), (.ref (A 4)), (.ref (A 5)), (.ref (A 6)), (.ref (A 7)), (.ref (A 8)), (.ref (A 9)), (.ref (A 10)), (.ref (A 11)), .null, .null, .null, .null, .null] .null := Arv.set Ar73 qk73 sz73 nn73 hs73 fs73 rfl W73 11 rfl (Nat.le_of_ble_eq_true rfl)
  have N73 := Fr.snoc X73 N71 gb_b49
  have En_73 := En_71.wr W73 hne_b49
  have Z0_73 : n0 ≤ h73.size := by rw [W73.size]; exact Z0_71
  refine own_st (V := T73.setTop (mkF m 83 #[.val (.int p1), .unset, .unset, .unset, .unset] [(.ref b49)])) (fun t k => st73 _ k) ?_
  refine own_st (V := T73.setTop (mkF m 84 #[.val (.int p1), .unset, .unset, .unset, .unset] [(.ref b49), (.ref b49)])) (fun t k => XS.dup X73.here hx rfl (hb hby at_83) rfl rfl k) ?_
  refine own_st (V := T73.setTop (mkF m 86 #[.val (.int p1), .unset, .unset, .unset, .unset] [(.int (12 : Int32)), (.ref b49), (.ref b49)])) (fun t k => XS.bipush X73.here hx rfl (hb hby at_84) k) ?_
  obtain ⟨T74, X74, e74, st74⟩ := getS2 X73 hx hZ hown (host := "") (Or.inl (hw _ (List.mem_of_getElem? (i := 28) rfl))) Via.refl e73 (own_S En_73 12 (i := 12) (n := "ADDED_ISSUE") rfl) (g := (mkF m 86 #[.val (.int p1), .unset, .unset, .unset, .unset] [(.int (12 : Int32)), (.ref b49), (.ref b49)])) rfl (hb hby at_86)
  refine own_st (V := T74.setTop (mkF m 89 #[.val (.int p1), .unset, .unset, .unset, .unset] [(.ref (A 12)), (.int (12 : Int32)), (.ref b49), (.ref b49)])) (fun t k => st74 _ k) ?_
  obtain ⟨cl75, Ar75, qk75, sz75, nn75, hs75, fs75⟩ := V_b49_73
  have hin75 : ¬ ((12 : Int32) < 0 ∨ cl75.slots.size ≤ ((12 : Int32)).toNatClampNeg) := inb_of sz75 ⟨by decide, by decide⟩
  obtain ⟨T75, h75, X75, e75, W75, st75⟩ := stR X74 hx hZ e74 Ar75 (j := (12 : Int32)) hin75 rfl (Sto.ofV Ar75 qk75 O49 (Ins.self (own_E En_73 12 (i := 12) (n := "ADDED_ISSUE") rfl))) (g := (mkF m 89 #[.val (.int p1), .unset, .unset, .unset, .unset] [(.ref (A 12)), (.int (12 : Int32)), (.ref b49), (.ref b49)])) rfl rfl (hb hby at_89)
  have V_b49_75 : Arv Z h75 b49 k49 (.object "com/example/tempora/tempora/core/Terms$Role") (17 : Int32) [(.ref (A 0)), (.ref (A 1)), (.ref (A 2)), (.ref (A 3)), (.ref (A 4)), (.ref (A 5)), (.ref (A 6)), (.ref (A 7)), (.ref (A 8)), (.ref (A 9)), (.ref (A 10)), (.ref (A 11)), (.ref (A 12)), .null, .null, .null, .null] .null := Arv.set Ar75 qk75 sz75 nn75 hs75 fs75 rfl W75 12 rfl (Nat.le_of_ble_eq_true rfl)
  have N75 := Fr.snoc X75 N73 gb_b49
  have En_75 := En_73.wr W75 hne_b49
  have Z0_75 : n0 ≤ h75.size := by rw [W75.size]; exact Z0_73
  refine own_st (V := T75.setTop (mkF m 90 #[.val (.int p1), .unset, .unset, .unset, .unset] [(.ref b49)])) (fun t k => st75 _ k) ?_
  refine own_st (V := T75.setTop (mkF m 91 #[.val (.int p1), .unset, .unset, .unset, .unset] [(.ref b49), (.ref b49)])) (fun t k => XS.dup X75.here hx rfl (hb hby at_90) rfl rfl k) ?_
  refine own_st (V := T75.setTop (mkF m 93 #[.val (.int p1), .unset, .unset, .unset, .unset] [(.int (13 : Int32)), (.ref b49), (.ref b49)])) (fun t k => XS.bipush X75.here hx rfl (hb hby at_91) k) ?_
  obtain ⟨T76, X76, e76, st76⟩ := getS2 X75 hx hZ hown (host := "") (Or.inl (hw _ (List.mem_of_getElem? (i := 30) rfl))) Via.refl e75 (own_S En_75 13 (i := 13) (n := "INCLUDING") rfl) (g := (mkF m 93 #[.val (.int p1), .unset, .unset, .unset, .unset] [(.int (13 : Int32)), (.ref b49), (.ref b49)])) rfl (hb hby at_93)
  refine own_st (V := T76.setTop (mkF m 96 #[.val (.int p1), .unset, .unset, .unset, .unset] [(.ref (A 13)), (.int (13 : Int32)), (.ref b49), (.ref b49)])) (fun t k => st76 _ k) ?_
  obtain ⟨cl77, Ar77, qk77, sz77, nn77, hs77, fs77⟩ := V_b49_75
  have hin77 : ¬ ((13 : Int32) < 0 ∨ cl77.slots.size ≤ ((13 : Int32)).toNatClampNeg) := inb_of sz77 ⟨by decide, by decide⟩
  obtain ⟨T77, h77, X77, e77, W77, st77⟩ := stR X76 hx hZ e76 Ar77 (j := (13 : Int32)) hin77 rfl (Sto.ofV Ar77 qk77 O49 (Ins.self (own_E En_75 13 (i := 13) (n := "INCLUDING") rfl))) (g := (mkF m 96 #[.val (.int p1), .unset, .unset, .unset, .unset] [(.ref (A 13)), (.int (13 : Int32)), (.ref b49), (.ref b49)])) rfl rfl (hb hby at_96)
  have V_b49_77 : Arv Z h77 b49 k49 (.object "com/example/tempora/tempora/core/Terms$Role") (17 : Int32) [(.ref (A 0)), (.ref (A 1)), (.ref (A 2)), (.ref (A 3)), (.ref (A 4)), (.ref (A 5)), (.ref (A 6)), (.ref (A 7)), (.ref (A 8)), (.ref (A 9)), (.ref (A 10)), (.ref (A 11)), (.ref (A 12)), (.ref (A 13)), .null, .null, .null] .null := Arv.set Ar77 qk77 sz77 nn77 hs77 fs77 rfl W77 13 rfl (Nat.le_of_ble_eq_true rfl)
  have N77 := Fr.snoc X77 N75 gb_b49
  have En_77 := En_75.wr W77 hne_b49
  have Z0_77 : n0 ≤ h77.size := by rw [W77.size]; exact Z0_75
  refine own_st (V := T77.setTop (mkF m 97 #[.val (.int p1), .unset, .unset, .unset, .unset] [(.ref b49)])) (fun t k => st77 _ k) ?_
  refine own_st (V := T77.setTop (mkF m 98 #[.val (.int p1), .unset, .unset, .unset, .unset] [(.ref b49), (.ref b49)])) (fun t k => XS.dup X77.here hx rfl (hb hby at_97) rfl rfl k) ?_
  refine own_st (V := T77.setTop (mkF m 100 #[.val (.int p1), .unset, .unset, .unset, .unset] [(.int (14 : Int32)), (.ref b49), (.ref b49)])) (fun t k => XS.bipush X77.here hx rfl (hb hby at_98) k) ?_
  obtain ⟨T78, X78, e78, st78⟩ := getS2 X77 hx hZ hown (host := "") (Or.inl (hw _ (List.mem_of_getElem? (i := 32) rfl))) Via.refl e77 (own_S En_77 14 (i := 14) (n := "BEGAN") rfl) (g := (mkF m 100 #[.val (.int p1), .unset, .unset, .unset, .unset] [(.int (14 : Int32)), (.ref b49), (.ref b49)])) rfl (hb hby at_100)
  refine own_st (V := T78.setTop (mkF m 103 #[.val (.int p1), .unset, .unset, .unset, .unset] [(.ref (A 14)), (.int (14 : Int32)), (.ref b49), (.ref b49)])) (fun t k => st78 _ k) ?_
  obtain ⟨cl79, Ar79, qk79, sz79, nn79, hs79, fs79⟩ := V_b49_77
  have hin79 : ¬ ((14 : Int32) < 0 ∨ cl79.slots.size ≤ ((14 : Int32)).toNatClampNeg) := inb_of sz79 ⟨by decide, by decide⟩
  obtain ⟨T79, h79, X79, e79, W79, st79⟩ := stR X78 hx hZ e78 Ar79 (j := (14 : Int32)) hin79 rfl (Sto.ofV Ar79 qk79 O49 (Ins.self (own_E En_77 14 (i := 14) (n := "BEGAN") rfl))) (g := (mkF m 103 #[.val (.int p1), .unset, .unset, .unset, .unset] [(.ref (A 14)), (.int (14 : Int32)), (.ref b49), (.ref b49)])) rfl rfl (hb hby at_103)
  have V_b49_79 : Arv Z h79 b49 k49 (.object "com/example/tempora/tempora/core/Terms$Role") (17 : Int32) [(.ref (A 0)), (.ref (A 1)), (.ref (A 2)), (.ref (A 3)), (.ref (A 4)), (.ref (A 5)), (.ref (A 6)), (.ref (A 7)), (.ref (A 8)), (.ref (A 9)), (.ref (A 10)), (.ref (A 11)), (.ref (A 12)), (.ref (A 13)), (.ref (A 14)), .null, .null] .null := Arv.set Ar79 qk79 sz79 nn79 hs79 fs79 rfl W79 14 rfl (Nat.le_of_ble_eq_true rfl)
  have N79 := Fr.snoc X79 N77 gb_b49
  have En_79 := En_77.wr W79 hne_b49
  have Z0_79 : n0 ≤ h79.size := by rw [W79.size]; exact Z0_77
  refine own_st (V := T79.setTop (mkF m 104 #[.val (.int p1), .unset, .unset, .unset, .unset] [(.ref b49)])) (fun t k => st79 _ k) ?_
  refine own_st (V := T79.setTop (mkF m 105 #[.val (.int p1), .unset, .unset, .unset, .unset] [(.ref b49), (.ref b49)])) (fun t k => XS.dup X79.here hx rfl (hb hby at_104) rfl rfl k) ?_
  refine own_st (V := T79.setTop (mkF m 107 #[.val (.int p1), .unset, .unset, .unset, .unset] [(.int (15 : Int32)), (.ref b49), (.ref b49)])) (fun t k => XS.bipush X79.here hx rfl (hb hby at_105) k) ?_
  obtain ⟨T80, X80, e80, st80⟩ := getS2 X79 hx hZ hown (host := "") (Or.inl (hw _ (List.mem_of_getElem? (i := 34) rfl))) Via.refl e79 (own_S En_79 15 (i := 15) (n := "CEASED") rfl) (g := (mkF m 107 #[.val (.int p1), .unset, .unset, .unset, .unset] [(.int (15 : Int32)), (.ref b49), (.ref b49)])) rfl (hb hby at_107)
  refine own_st (V := T80.setTop (mkF m 110 #[.val (.int p1), .unset, .unset, .unset, .unset] [(.ref (A 15)), (.int (15 : Int32)), (.ref b49), (.ref b49)])) (fun t k => st80 _ k) ?_
  obtain ⟨cl81, Ar81, qk81, sz81, nn81, hs81, fs81⟩ := V_b49_79
  have hin81 : ¬ ((15 : Int32) < 0 ∨ cl81.slots.size ≤ ((15 : Int32)).toNatClampNeg) := inb_of sz81 ⟨by decide, by decide⟩
  obtain ⟨T81, h81, X81, e81, W81, st81⟩ := stR X80 hx hZ e80 Ar81 (j := (15 : Int32)) hin81 rfl (Sto.ofV Ar81 qk81 O49 (Ins.self (own_E En_79 15 (i := 15) (n := "CEASED") rfl))) (g := (mkF m 110 #[.val (.int p1), .unset, .unset, .unset, .unset] [(.ref (A 15)), (.int (15 : Int32)), (.ref b49), (.ref b49)])) rfl rfl (hb hby at_110)
  have V_b49_81 : Arv Z h81 b49 k49 (.object "com/example/tempora/tempora/core/Terms$Role") (17 : Int32) [(.ref (A 0)), (.ref (A 1)), (.ref (A 2)), (.ref (A 3)), (.ref (A 4)), (.ref (A 5)), (.ref (A 6)), (.ref (A 7)), (.ref (A 8)), (.ref (A 9)), (.ref (A 10)), (.ref (A 11)), (.ref (A 12)), (.ref (A 13)), (.ref (A 14)), (.ref (A 15)), .null] .null := Arv.set Ar81 qk81 sz81 nn81 hs81 fs81 rfl W81 15 rfl (Nat.le_of_ble_eq_true rfl)
  have N81 := Fr.snoc X81 N79 gb_b49
  have En_81 := En_79.wr W81 hne_b49
  have Z0_81 : n0 ≤ h81.size := by rw [W81.size]; exact Z0_79
  refine own_st (V := T81.setTop (mkF m 111 #[.val (.int p1), .unset, .unset, .unset, .unset] [(.ref b49)])) (fun t k => st81 _ k) ?_
  refine own_st (V := T81.setTop (mkF m 112 #[.val (.int p1), .unset, .unset, .unset, .unset] [(.ref b49), (.ref b49)])) (fun t k => XS.dup X81.here hx rfl (hb hby at_111) rfl rfl k) ?_
  refine own_st (V := T81.setTop (mkF m 114 #[.val (.int p1), .unset, .unset, .unset, .unset] [(.int (16 : Int32)), (.ref b49), (.ref b49)])) (fun t k => XS.bipush X81.here hx rfl (hb hby at_112) k) ?_
  obtain ⟨T82, X82, e82, st82⟩ := getS2 X81 hx hZ hown (host := "") (Or.inl (hw _ (List.mem_of_getElem? (i := 36) rfl))) Via.refl e81 (own_S En_81 16 (i := 16) (n := "BEGAN_AND_CEASED") rfl) (g := (mkF m 114 #[.val (.int p1), .unset, .unset, .unset, .unset] [(.int (16 : Int32)), (.ref b49), (.ref b49)])) rfl (hb hby at_114)
  refine own_st (V := T82.setTop (mkF m 117 #[.val (.int p1), .unset, .unset, .unset, .unset] [(.ref (A 16)), (.int (16 : Int32)), (.ref b49), (.ref b49)])) (fun t k => st82 _ k) ?_
  obtain ⟨cl83, Ar83, qk83, sz83, nn83, hs83, fs83⟩ := V_b49_81
  have hin83 : ¬ ((16 : Int32) < 0 ∨ cl83.slots.size ≤ ((16 : Int32)).toNatClampNeg) := inb_of sz83 ⟨by decide, by decide⟩
  obtain ⟨T83, h83, X83, e83, W83, st83⟩ := stR X82 hx hZ e82 Ar83 (j := (16 : Int32)) hin83 rfl (Sto.ofV Ar83 qk83 O49 (Ins.self (own_E En_81 16 (i := 16) (n := "BEGAN_AND_CEASED") rfl))) (g := (mkF m 117 #[.val (.int p1), .unset, .unset, .unset, .unset] [(.ref (A 16)), (.int (16 : Int32)), (.ref b49), (.ref b49)])) rfl rfl (hb hby at_117)
  have V_b49_83 : Arv Z h83 b49 k49 (.object "com/example/tempora/tempora/core/Terms$Role") (17 : Int32) [(.ref (A 0)), (.ref (A 1)), (.ref (A 2)), (.ref (A 3)), (.ref (A 4)), (.ref (A 5)), (.ref (A 6)), (.ref (A 7)), (.ref (A 8)), (.ref (A 9)), (.ref (A 10)), (.ref (A 11)), (.ref (A 12)), (.ref (A 13)), (.ref (A 14)), (.ref (A 15)), (.ref (A 16))] .null := Arv.set Ar83 qk83 sz83 nn83 hs83 fs83 rfl W83 16 rfl (Nat.le_of_ble_eq_true rfl)
  have N83 := Fr.snoc X83 N81 gb_b49
  have En_83 := En_81.wr W83 hne_b49
  have Z0_83 : n0 ≤ h83.size := by rw [W83.size]; exact Z0_81
  refine own_st (V := T83.setTop (mkF m 118 #[.val (.int p1), .unset, .unset, .unset, .unset] [(.ref b49)])) (fun t k => st83 _ k) ?_
  refine own_st (V := T83.setTop (mkF m 119 #[.val (.int p1), .val (.ref b49), .unset, .unset, .unset] [])) (fun t k => XS.astoreN X83.here hx rfl (hb hby at_118) rfl rfl (l' := #[.val (.int p1), .val (.ref b49), .unset, .unset, .unset]) rfl k) ?_
  refine own_st (V := T83.setTop (mkF m 120 #[.val (.int p1), .val (.ref b49), .unset, .unset, .unset] [(.int p1)])) (fun t k => XS.iloadN X83.here hx rfl (hb hby at_119) rfl k) ?_
  refine own_st (V := T83.setTop (mkF m 122 #[.val (.int p1), .val (.ref b49), .unset, .unset, .unset] [(.int (2147483647 : Int32)), (.int p1)])) (fun t k => X83.ldcInt hx hown (mvT hZ (hw _ (List.mem_of_getElem? (i := 38) rfl))) (g := (mkF m 120 #[.val (.int p1), .val (.ref b49), .unset, .unset, .unset] [(.int p1)])) rfl (hb hby at_120) t k) ?_
  refine own_st (V := T83.setTop (mkF m 123 #[.val (.int p1), .val (.ref b49), .unset, .unset, .unset] [(.int (p1 &&& (2147483647 : Int32)))])) (fun t k => XS.iand X83.here hx rfl (hb hby at_122) rfl k) ?_
  refine own_st (V := T83.setTop (mkF m 125 #[.val (.int p1), .val (.ref b49), .unset, .unset, .unset] [(.int (17 : Int32)), (.int (p1 &&& (2147483647 : Int32)))])) (fun t k => XS.bipush X83.here hx rfl (hb hby at_123) k) ?_
  refine own_st (V := T83.setTop (mkF m 126 #[.val (.int p1), .val (.ref b49), .unset, .unset, .unset] [(.int ((p1 &&& (2147483647 : Int32)) % (17 : Int32)))])) (fun t k => Jvm.RoadKit.iremM X83 hx rfl (hb hby at_125) rfl (by decide) k) ?_
  rcases own_c p1 with hs126 | hs126 | hs126 | hs126 | hs126 | hs126 | hs126 | hs126 | hs126 | hs126 | hs126 | hs126 | hs126 | hs126 | hs126 | hs126 | hs126
  · rw [hs126]
    refine own_st (V := T83.setTop (mkF m 127 #[.val (.int p1), .val (.ref b49), .val (.int (0 : Int32)), .unset, .unset] [])) (fun t k => XS.istoreN X83.here hx rfl (hb hby at_126) rfl (l' := #[.val (.int p1), .val (.ref b49), .val (.int (0 : Int32)), .unset, .unset]) rfl k) ?_
    refine own_st (V := T83.setTop (mkF m 128 #[.val (.int p1), .val (.ref b49), .val (.int (0 : Int32)), .unset, .unset] [(.ref b49)])) (fun t k => XS.aloadN X83.here hx rfl (hb hby at_127) rfl rfl k) ?_
    refine own_st (V := T83.setTop (mkF m 129 #[.val (.int p1), .val (.ref b49), .val (.int (0 : Int32)), .unset, .unset] [(.int (0 : Int32)), (.ref b49)])) (fun t k => XS.iloadN X83.here hx rfl (hb hby at_128) rfl k) ?_
    have V_b49_84 := V_b49_83
    obtain ⟨cl84, Ar84, qk84, sz84, nn84, hs84, fs84⟩ := V_b49_83
    have hin84 : ¬ ((0 : Int32) < 0 ∨ cl84.slots.size ≤ ((0 : Int32)).toNatClampNeg) := inb_of sz84 ⟨by decide, by decide⟩
    refine own_st (V := T83.setTop (mkF m 130 #[.val (.int p1), .val (.ref b49), .val (.int (0 : Int32)), .unset, .unset] [(.ref (A 0))])) (fun t k => X83.aaload hx (j := (0 : Int32)) (v := (.ref (A 0))) (by rw [e83]; exact Ar84.1) (State.isArrayOf_alike hZ.alike Ar84.2.1) rfl Ar84.2.2 hin84 (Has.at hs84 hin84 rfl) (g := (mkF m 129 #[.val (.int p1), .val (.ref b49), .val (.int (0 : Int32)), .unset, .unset] [(.int (0 : Int32)), (.ref b49)])) rfl rfl (hb hby at_129) _ k) ?_
    refine own_st (V := T83.setTop (mkF m 131 #[.val (.int p1), .val (.ref b49), .val (.int (0 : Int32)), .val (.ref (A 0)), .unset] [])) (fun t k => XS.astoreN X83.here hx rfl (hb hby at_130) rfl rfl (l' := #[.val (.int p1), .val (.ref b49), .val (.int (0 : Int32)), .val (.ref (A 0)), .unset]) rfl k) ?_
    refine own_st (V := T83.setTop (mkF m 132 #[.val (.int p1), .val (.ref b49), .val (.int (0 : Int32)), .val (.ref (A 0)), .unset] [(.int (0 : Int32))])) (fun t k => XS.iloadN X83.here hx rfl (hb hby at_131) rfl k) ?_
    refine own_st (V := T83.setTop (mkF m 134 #[.val (.int p1), .val (.ref b49), .val (.int (0 : Int32)), .val (.ref (A 0)), .unset] [(.int (14 : Int32)), (.int (0 : Int32))])) (fun t k => XS.bipush X83.here hx rfl (hb hby at_132) k) ?_
    refine own_st (V := T83.setTop (mkF m 141 #[.val (.int p1), .val (.ref b49), .val (.int (0 : Int32)), .val (.ref (A 0)), .unset] [])) (fun t k => XS.icmpYes X83.here hx rfl (pc0 := 134) (pc' := 141) rfl (hb hby at_134) rfl (tlt (by decide : (0 : Int32) < (14 : Int32))).1 (by decide) (by decide) k) ?_
    refine own_st (V := T83.setTop (mkF m 142 #[.val (.int p1), .val (.ref b49), .val (.int (0 : Int32)), .val (.ref (A 0)), .unset] [(.int (0 : Int32))])) (fun t k => XS.iconst X83.here hx rfl (hb hby at_141) k) ?_
    refine own_st (V := T83.setTop (mkF m 144 #[.val (.int p1), .val (.ref b49), .val (.int (0 : Int32)), .val (.ref (A 0)), .val (.int (0 : Int32))] [])) (fun t k => XS.istore X83.here hx rfl (hb hby at_142) rfl (l' := #[.val (.int p1), .val (.ref b49), .val (.int (0 : Int32)), .val (.ref (A 0)), .val (.int (0 : Int32))]) rfl k) ?_
    refine own_st (V := T83.setTop (mkF m 145 #[.val (.int p1), .val (.ref b49), .val (.int (0 : Int32)), .val (.ref (A 0)), .val (.int (0 : Int32))] [(.ref (A 0))])) (fun t k => XS.aloadN X83.here hx rfl (hb hby at_144) rfl rfl k) ?_
    obtain ⟨cq85, kq85, q85a, q85b, q85c⟩ := isOf hZ e83 (own_E En_83 0 (i := 0) (n := "NAME") rfl)
    obtain ⟨_, _, ⟨T85, L85, k85, n85⟩, -, X85, ⟨Lc85, hQ85, l85, y85, z85⟩, st85⟩ := X83.virtualBack hx (y := (⟨"com/example/tempora/tempora/core/Terms$Role", "isNotePhrase", "()Z"⟩ : MethodName)) (z := (⟨"com/example/tempora/tempora/core/Terms$Role", "isNotePhrase", "()Z"⟩ : MethodName)) hown (mvT hZ (hw _ (List.mem_of_getElem? (i := 39) rfl))) (mvT hZ (hw _ (List.mem_of_getElem? (i := 40) rfl))) (notFace_of_selects (args := #[]) (mvT hZ (hw _ (List.mem_of_getElem? (i := 42) rfl)))) (mvT hZ (hw _ (List.mem_of_getElem? (i := 42) rfl))) (mvT hZ (hw _ (List.mem_of_getElem? (i := 41) rfl))) (by decide) (backOf (W := 0) (own_m0 l Z a0 hw [] A h83 n0 Z0_83 En_83 ) hZ (hw _ (List.mem_of_getElem? (i := 43) rfl)) (hw _ (List.mem_of_getElem? (i := 3) rfl)) (by decide) (by decide)) q85a q85c (g := (mkF m 145 #[.val (.int p1), .val (.ref b49), .val (.int (0 : Int32)), .val (.ref (A 0)), .val (.int (0 : Int32))] [(.ref (A 0))])) rfl (by rw [hml]; rfl) (Steps.refl _) (argsL := []) (rest := []) (lenOf own_pd0 rfl) rfl (by show 2 * 0 + _ ≤ _; exact Nat.le_of_eq rfl) (hb hby at_145) (fun _ _ => ⟨rfl, e83, (by decide : 1 + 0 ≤ _), (by decide : 17 + 0 ≤ _)⟩)
    dsimp only [Pt.U, Pt.locs, Pt.cells, Pt.slots] at X85 l85 y85 z85 st85 hQ85
    subst l85 y85 z85
    obtain ⟨rfl, N85q, e85⟩ := hQ85
    have N85 := Fr.app N83 N85q
    refine own_st (V := T85.setTop (mkF m 148 #[.val (.int p1), .val (.ref b49), .val (.int (0 : Int32)), .val (.ref (A 0)), .val (.int (0 : Int32))] [(.int (0 : Int32))])) (fun t k => st85.trans k) ?_
    refine own_st (V := T85.setTop (mkF m 150 #[.val (.int p1), .val (.ref b49), .val (.int (0 : Int32)), .val (.ref (A 0)), .val (.int (0 : Int32))] [(.int (0 : Int32)), (.int (0 : Int32))])) (fun t k => XS.iload X85.here hx rfl (hb hby at_148) rfl k) ?_
    refine own_st (V := T85.setTop (mkF m 153 #[.val (.int p1), .val (.ref b49), .val (.int (0 : Int32)), .val (.ref (A 0)), .val (.int (0 : Int32))] [])) (fun t k => XS.icmpNo X85.here hx rfl (hb hby at_150) rfl (teq (by decide : (0 : Int32) = (0 : Int32))).2 k) ?_
    refine own_st (V := T85.setTop (mkF m 154 #[.val (.int p1), .val (.ref b49), .val (.int (0 : Int32)), .val (.ref (A 0)), .val (.int (0 : Int32))] [(.int (1 : Int32))])) (fun t k => XS.iconst X85.here hx rfl (hb hby at_153) k) ?_
    refine own_st (V := T85.setTop (mkF m 158 #[.val (.int p1), .val (.ref b49), .val (.int (0 : Int32)), .val (.ref (A 0)), .val (.int (0 : Int32))] [(.int (1 : Int32))])) (fun t k => XS.goto X85.here hx rfl (pc0 := 154) (pc' := 158) rfl (hb hby at_154) (by decide) (by decide) k) ?_
    exact own_ret X85 hx hlk Bd.returns (by decide +kernel) (Or.inl ⟨rfl, by simp, _, rfl⟩) (hb hby at_158) (by decide) (by decide) ⟨rfl, N85⟩
  · rw [hs126]
    refine own_st (V := T83.setTop (mkF m 127 #[.val (.int p1), .val (.ref b49), .val (.int (1 : Int32)), .unset, .unset] [])) (fun t k => XS.istoreN X83.here hx rfl (hb hby at_126) rfl (l' := #[.val (.int p1), .val (.ref b49), .val (.int (1 : Int32)), .unset, .unset]) rfl k) ?_
    refine own_st (V := T83.setTop (mkF m 128 #[.val (.int p1), .val (.ref b49), .val (.int (1 : Int32)), .unset, .unset] [(.ref b49)])) (fun t k => XS.aloadN X83.here hx rfl (hb hby at_127) rfl rfl k) ?_
    refine own_st (V := T83.setTop (mkF m 129 #[.val (.int p1), .val (.ref b49), .val (.int (1 : Int32)), .unset, .unset] [(.int (1 : Int32)), (.ref b49)])) (fun t k => XS.iloadN X83.here hx rfl (hb hby at_128) rfl k) ?_
    have V_b49_86 := V_b49_83
    obtain ⟨cl86, Ar86, qk86, sz86, nn86, hs86, fs86⟩ := V_b49_83
    have hin86 : ¬ ((1 : Int32) < 0 ∨ cl86.slots.size ≤ ((1 : Int32)).toNatClampNeg) := inb_of sz86 ⟨by decide, by decide⟩
    refine own_st (V := T83.setTop (mkF m 130 #[.val (.int p1), .val (.ref b49), .val (.int (1 : Int32)), .unset, .unset] [(.ref (A 1))])) (fun t k => X83.aaload hx (j := (1 : Int32)) (v := (.ref (A 1))) (by rw [e83]; exact Ar86.1) (State.isArrayOf_alike hZ.alike Ar86.2.1) rfl Ar86.2.2 hin86 (Has.at hs86 hin86 rfl) (g := (mkF m 129 #[.val (.int p1), .val (.ref b49), .val (.int (1 : Int32)), .unset, .unset] [(.int (1 : Int32)), (.ref b49)])) rfl rfl (hb hby at_129) _ k) ?_
    refine own_st (V := T83.setTop (mkF m 131 #[.val (.int p1), .val (.ref b49), .val (.int (1 : Int32)), .val (.ref (A 1)), .unset] [])) (fun t k => XS.astoreN X83.here hx rfl (hb hby at_130) rfl rfl (l' := #[.val (.int p1), .val (.ref b49), .val (.int (1 : Int32)), .val (.ref (A 1)), .unset]) rfl k) ?_
    refine own_st (V := T83.setTop (mkF m 132 #[.val (.int p1), .val (.ref b49), .val (.int (1 : Int32)), .val (.ref (A 1)), .unset] [(.int (1 : Int32))])) (fun t k => XS.iloadN X83.here hx rfl (hb hby at_131) rfl k) ?_
    refine own_st (V := T83.setTop (mkF m 134 #[.val (.int p1), .val (.ref b49), .val (.int (1 : Int32)), .val (.ref (A 1)), .unset] [(.int (14 : Int32)), (.int (1 : Int32))])) (fun t k => XS.bipush X83.here hx rfl (hb hby at_132) k) ?_
    refine own_st (V := T83.setTop (mkF m 141 #[.val (.int p1), .val (.ref b49), .val (.int (1 : Int32)), .val (.ref (A 1)), .unset] [])) (fun t k => XS.icmpYes X83.here hx rfl (pc0 := 134) (pc' := 141) rfl (hb hby at_134) rfl (tlt (by decide : (1 : Int32) < (14 : Int32))).1 (by decide) (by decide) k) ?_
    refine own_st (V := T83.setTop (mkF m 142 #[.val (.int p1), .val (.ref b49), .val (.int (1 : Int32)), .val (.ref (A 1)), .unset] [(.int (0 : Int32))])) (fun t k => XS.iconst X83.here hx rfl (hb hby at_141) k) ?_
    refine own_st (V := T83.setTop (mkF m 144 #[.val (.int p1), .val (.ref b49), .val (.int (1 : Int32)), .val (.ref (A 1)), .val (.int (0 : Int32))] [])) (fun t k => XS.istore X83.here hx rfl (hb hby at_142) rfl (l' := #[.val (.int p1), .val (.ref b49), .val (.int (1 : Int32)), .val (.ref (A 1)), .val (.int (0 : Int32))]) rfl k) ?_
    refine own_st (V := T83.setTop (mkF m 145 #[.val (.int p1), .val (.ref b49), .val (.int (1 : Int32)), .val (.ref (A 1)), .val (.int (0 : Int32))] [(.ref (A 1))])) (fun t k => XS.aloadN X83.here hx rfl (hb hby at_144) rfl rfl k) ?_
    obtain ⟨cq87, kq87, q87a, q87b, q87c⟩ := isOf hZ e83 (own_E En_83 1 (i := 1) (n := "UPDATE") rfl)
    obtain ⟨_, _, ⟨T87, L87, k87, n87⟩, -, X87, ⟨Lc87, hQ87, l87, y87, z87⟩, st87⟩ := X83.virtualBack hx (y := (⟨"com/example/tempora/tempora/core/Terms$Role", "isNotePhrase", "()Z"⟩ : MethodName)) (z := (⟨"com/example/tempora/tempora/core/Terms$Role", "isNotePhrase", "()Z"⟩ : MethodName)) hown (mvT hZ (hw _ (List.mem_of_getElem? (i := 39) rfl))) (mvT hZ (hw _ (List.mem_of_getElem? (i := 40) rfl))) (notFace_of_selects (args := #[]) (mvT hZ (hw _ (List.mem_of_getElem? (i := 42) rfl)))) (mvT hZ (hw _ (List.mem_of_getElem? (i := 42) rfl))) (mvT hZ (hw _ (List.mem_of_getElem? (i := 41) rfl))) (by decide) (backOf (W := 0) (own_m1 l Z a0 hw [] A h83 n0 Z0_83 En_83 ) hZ (hw _ (List.mem_of_getElem? (i := 43) rfl)) (hw _ (List.mem_of_getElem? (i := 3) rfl)) (by decide) (by decide)) q87a q87c (g := (mkF m 145 #[.val (.int p1), .val (.ref b49), .val (.int (1 : Int32)), .val (.ref (A 1)), .val (.int (0 : Int32))] [(.ref (A 1))])) rfl (by rw [hml]; rfl) (Steps.refl _) (argsL := []) (rest := []) (lenOf own_pd0 rfl) rfl (by show 2 * 0 + _ ≤ _; exact Nat.le_of_eq rfl) (hb hby at_145) (fun _ _ => ⟨rfl, e83, (by decide : 1 + 0 ≤ _), (by decide : 17 + 0 ≤ _)⟩)
    dsimp only [Pt.U, Pt.locs, Pt.cells, Pt.slots] at X87 l87 y87 z87 st87 hQ87
    subst l87 y87 z87
    obtain ⟨rfl, N87q, e87⟩ := hQ87
    have N87 := Fr.app N83 N87q
    refine own_st (V := T87.setTop (mkF m 148 #[.val (.int p1), .val (.ref b49), .val (.int (1 : Int32)), .val (.ref (A 1)), .val (.int (0 : Int32))] [(.int (0 : Int32))])) (fun t k => st87.trans k) ?_
    refine own_st (V := T87.setTop (mkF m 150 #[.val (.int p1), .val (.ref b49), .val (.int (1 : Int32)), .val (.ref (A 1)), .val (.int (0 : Int32))] [(.int (0 : Int32)), (.int (0 : Int32))])) (fun t k => XS.iload X87.here hx rfl (hb hby at_148) rfl k) ?_
    refine own_st (V := T87.setTop (mkF m 153 #[.val (.int p1), .val (.ref b49), .val (.int (1 : Int32)), .val (.ref (A 1)), .val (.int (0 : Int32))] [])) (fun t k => XS.icmpNo X87.here hx rfl (hb hby at_150) rfl (teq (by decide : (0 : Int32) = (0 : Int32))).2 k) ?_
    refine own_st (V := T87.setTop (mkF m 154 #[.val (.int p1), .val (.ref b49), .val (.int (1 : Int32)), .val (.ref (A 1)), .val (.int (0 : Int32))] [(.int (1 : Int32))])) (fun t k => XS.iconst X87.here hx rfl (hb hby at_153) k) ?_
    refine own_st (V := T87.setTop (mkF m 158 #[.val (.int p1), .val (.ref b49), .val (.int (1 : Int32)), .val (.ref (A 1)), .val (.int (0 : Int32))] [(.int (1 : Int32))])) (fun t k => XS.goto X87.here hx rfl (pc0 := 154) (pc' := 158) rfl (hb hby at_154) (by decide) (by decide) k) ?_
    exact own_ret X87 hx hlk Bd.returns (by decide +kernel) (Or.inl ⟨rfl, by simp, _, rfl⟩) (hb hby at_158) (by decide) (by decide) ⟨rfl, N87⟩
  · rw [hs126]
    refine own_st (V := T83.setTop (mkF m 127 #[.val (.int p1), .val (.ref b49), .val (.int (2 : Int32)), .unset, .unset] [])) (fun t k => XS.istoreN X83.here hx rfl (hb hby at_126) rfl (l' := #[.val (.int p1), .val (.ref b49), .val (.int (2 : Int32)), .unset, .unset]) rfl k) ?_
    refine own_st (V := T83.setTop (mkF m 128 #[.val (.int p1), .val (.ref b49), .val (.int (2 : Int32)), .unset, .unset] [(.ref b49)])) (fun t k => XS.aloadN X83.here hx rfl (hb hby at_127) rfl rfl k) ?_
    refine own_st (V := T83.setTop (mkF m 129 #[.val (.int p1), .val (.ref b49), .val (.int (2 : Int32)), .unset, .unset] [(.int (2 : Int32)), (.ref b49)])) (fun t k => XS.iloadN X83.here hx rfl (hb hby at_128) rfl k) ?_
    have V_b49_88 := V_b49_83
    obtain ⟨cl88, Ar88, qk88, sz88, nn88, hs88, fs88⟩ := V_b49_83
    have hin88 : ¬ ((2 : Int32) < 0 ∨ cl88.slots.size ≤ ((2 : Int32)).toNatClampNeg) := inb_of sz88 ⟨by decide, by decide⟩
    refine own_st (V := T83.setTop (mkF m 130 #[.val (.int p1), .val (.ref b49), .val (.int (2 : Int32)), .unset, .unset] [(.ref (A 2))])) (fun t k => X83.aaload hx (j := (2 : Int32)) (v := (.ref (A 2))) (by rw [e83]; exact Ar88.1) (State.isArrayOf_alike hZ.alike Ar88.2.1) rfl Ar88.2.2 hin88 (Has.at hs88 hin88 rfl) (g := (mkF m 129 #[.val (.int p1), .val (.ref b49), .val (.int (2 : Int32)), .unset, .unset] [(.int (2 : Int32)), (.ref b49)])) rfl rfl (hb hby at_129) _ k) ?_
    refine own_st (V := T83.setTop (mkF m 131 #[.val (.int p1), .val (.ref b49), .val (.int (2 : Int32)), .val (.ref (A 2)), .unset] [])) (fun t k => XS.astoreN X83.here hx rfl (hb hby at_130) rfl rfl (l' := #[.val (.int p1), .val (.ref b49), .val (.int (2 : Int32)), .val (.ref (A 2)), .unset]) rfl k) ?_
    refine own_st (V := T83.setTop (mkF m 132 #[.val (.int p1), .val (.ref b49), .val (.int (2 : Int32)), .val (.ref (A 2)), .unset] [(.int (2 : Int32))])) (fun t k => XS.iloadN X83.here hx rfl (hb hby at_131) rfl k) ?_
    refine own_st (V := T83.setTop (mkF m 134 #[.val (.int p1), .val (.ref b49), .val (.int (2 : Int32)), .val (.ref (A 2)), .unset] [(.int (14 : Int32)), (.int (2 : Int32))])) (fun t k => XS.bipush X83.here hx rfl (hb hby at_132) k) ?_
    refine own_st (V := T83.setTop (mkF m 141 #[.val (.int p1), .val (.ref b49), .val (.int (2 : Int32)), .val (.ref (A 2)), .unset] [])) (fun t k => XS.icmpYes X83.here hx rfl (pc0 := 134) (pc' := 141) rfl (hb hby at_134) rfl (tlt (by decide : (2 : Int32) < (14 : Int32))).1 (by decide) (by decide) k) ?_
    refine own_st (V := T83.setTop (mkF m 142 #[.val (.int p1), .val (.ref b49), .val (.int (2 : Int32)), .val (.ref (A 2)), .unset] [(.int (0 : Int32))])) (fun t k => XS.iconst X83.here hx rfl (hb hby at_141) k) ?_
    refine own_st (V := T83.setTop (mkF m 144 #[.val (.int p1), .val (.ref b49), .val (.int (2 : Int32)), .val (.ref (A 2)), .val (.int (0 : Int32))] [])) (fun t k => XS.istore X83.here hx rfl (hb hby at_142) rfl (l' := #[.val (.int p1), .val (.ref b49), .val (.int (2 : Int32)), .val (.ref (A 2)), .val (.int (0 : Int32))]) rfl k) ?_
    refine own_st (V := T83.setTop (mkF m 145 #[.val (.int p1), .val (.ref b49), .val (.int (2 : Int32)), .val (.ref (A 2)), .val (.int (0 : Int32))] [(.ref (A 2))])) (fun t k => XS.aloadN X83.here hx rfl (hb hby at_144) rfl rfl k) ?_
    obtain ⟨cq89, kq89, q89a, q89b, q89c⟩ := isOf hZ e83 (own_E En_83 2 (i := 2) (n := "UPDATE_FREQUENCY") rfl)
    obtain ⟨_, _, ⟨T89, L89, k89, n89⟩, -, X89, ⟨Lc89, hQ89, l89, y89, z89⟩, st89⟩ := X83.virtualBack hx (y := (⟨"com/example/tempora/tempora/core/Terms$Role", "isNotePhrase", "()Z"⟩ : MethodName)) (z := (⟨"com/example/tempora/tempora/core/Terms$Role", "isNotePhrase", "()Z"⟩ : MethodName)) hown (mvT hZ (hw _ (List.mem_of_getElem? (i := 39) rfl))) (mvT hZ (hw _ (List.mem_of_getElem? (i := 40) rfl))) (notFace_of_selects (args := #[]) (mvT hZ (hw _ (List.mem_of_getElem? (i := 42) rfl)))) (mvT hZ (hw _ (List.mem_of_getElem? (i := 42) rfl))) (mvT hZ (hw _ (List.mem_of_getElem? (i := 41) rfl))) (by decide) (backOf (W := 0) (own_m2 l Z a0 hw [] A h83 n0 Z0_83 En_83 ) hZ (hw _ (List.mem_of_getElem? (i := 43) rfl)) (hw _ (List.mem_of_getElem? (i := 3) rfl)) (by decide) (by decide)) q89a q89c (g := (mkF m 145 #[.val (.int p1), .val (.ref b49), .val (.int (2 : Int32)), .val (.ref (A 2)), .val (.int (0 : Int32))] [(.ref (A 2))])) rfl (by rw [hml]; rfl) (Steps.refl _) (argsL := []) (rest := []) (lenOf own_pd0 rfl) rfl (by show 2 * 0 + _ ≤ _; exact Nat.le_of_eq rfl) (hb hby at_145) (fun _ _ => ⟨rfl, e83, (by decide : 1 + 0 ≤ _), (by decide : 17 + 0 ≤ _)⟩)
    dsimp only [Pt.U, Pt.locs, Pt.cells, Pt.slots] at X89 l89 y89 z89 st89 hQ89
    subst l89 y89 z89
    obtain ⟨rfl, N89q, e89⟩ := hQ89
    have N89 := Fr.app N83 N89q
    refine own_st (V := T89.setTop (mkF m 148 #[.val (.int p1), .val (.ref b49), .val (.int (2 : Int32)), .val (.ref (A 2)), .val (.int (0 : Int32))] [(.int (0 : Int32))])) (fun t k => st89.trans k) ?_
    refine own_st (V := T89.setTop (mkF m 150 #[.val (.int p1), .val (.ref b49), .val (.int (2 : Int32)), .val (.ref (A 2)), .val (.int (0 : Int32))] [(.int (0 : Int32)), (.int (0 : Int32))])) (fun t k => XS.iload X89.here hx rfl (hb hby at_148) rfl k) ?_
    refine own_st (V := T89.setTop (mkF m 153 #[.val (.int p1), .val (.ref b49), .val (.int (2 : Int32)), .val (.ref (A 2)), .val (.int (0 : Int32))] [])) (fun t k => XS.icmpNo X89.here hx rfl (hb hby at_150) rfl (teq (by decide : (0 : Int32) = (0 : Int32))).2 k) ?_
    refine own_st (V := T89.setTop (mkF m 154 #[.val (.int p1), .val (.ref b49), .val (.int (2 : Int32)), .val (.ref (A 2)), .val (.int (0 : Int32))] [(.int (1 : Int32))])) (fun t k => XS.iconst X89.here hx rfl (hb hby at_153) k) ?_
    refine own_st (V := T89.setTop (mkF m 158 #[.val (.int p1), .val (.ref b49), .val (.int (2 : Int32)), .val (.ref (A 2)), .val (.int (0 : Int32))] [(.int (1 : Int32))])) (fun t k => XS.goto X89.here hx rfl (pc0 := 154) (pc' := 158) rfl (hb hby at_154) (by decide) (by decide) k) ?_
    exact own_ret X89 hx hlk Bd.returns (by decide +kernel) (Or.inl ⟨rfl, by simp, _, rfl⟩) (hb hby at_158) (by decide) (by decide) ⟨rfl, N89⟩
  · rw [hs126]
    refine own_st (V := T83.setTop (mkF m 127 #[.val (.int p1), .val (.ref b49), .val (.int (3 : Int32)), .unset, .unset] [])) (fun t k => XS.istoreN X83.here hx rfl (hb hby at_126) rfl (l' := #[.val (.int p1), .val (.ref b49), .val (.int (3 : Int32)), .unset, .unset]) rfl k) ?_
    refine own_st (V := T83.setTop (mkF m 128 #[.val (.int p1), .val (.ref b49), .val (.int (3 : Int32)), .unset, .unset] [(.ref b49)])) (fun t k => XS.aloadN X83.here hx rfl (hb hby at_127) rfl rfl k) ?_
    refine own_st (V := T83.setTop (mkF m 129 #[.val (.int p1), .val (.ref b49), .val (.int (3 : Int32)), .unset, .unset] [(.int (3 : Int32)), (.ref b49)])) (fun t k => XS.iloadN X83.here hx rfl (hb hby at_128) rfl k) ?_
    have V_b49_90 := V_b49_83
    obtain ⟨cl90, Ar90, qk90, sz90, nn90, hs90, fs90⟩ := V_b49_83
    have hin90 : ¬ ((3 : Int32) < 0 ∨ cl90.slots.size ≤ ((3 : Int32)).toNatClampNeg) := inb_of sz90 ⟨by decide, by decide⟩
    refine own_st (V := T83.setTop (mkF m 130 #[.val (.int p1), .val (.ref b49), .val (.int (3 : Int32)), .unset, .unset] [(.ref (A 3))])) (fun t k => X83.aaload hx (j := (3 : Int32)) (v := (.ref (A 3))) (by rw [e83]; exact Ar90.1) (State.isArrayOf_alike hZ.alike Ar90.2.1) rfl Ar90.2.2 hin90 (Has.at hs90 hin90 rfl) (g := (mkF m 129 #[.val (.int p1), .val (.ref b49), .val (.int (3 : Int32)), .unset, .unset] [(.int (3 : Int32)), (.ref b49)])) rfl rfl (hb hby at_129) _ k) ?_
    refine own_st (V := T83.setTop (mkF m 131 #[.val (.int p1), .val (.ref b49), .val (.int (3 : Int32)), .val (.ref (A 3)), .unset] [])) (fun t k => XS.astoreN X83.here hx rfl (hb hby at_130) rfl rfl (l' := #[.val (.int p1), .val (.ref b49), .val (.int (3 : Int32)), .val (.ref (A 3)), .unset]) rfl k) ?_
    refine own_st (V := T83.setTop (mkF m 132 #[.val (.int p1), .val (.ref b49), .val (.int (3 : Int32)), .val (.ref (A 3)), .unset] [(.int (3 : Int32))])) (fun t k => XS.iloadN X83.here hx rfl (hb hby at_131) rfl k) ?_
    refine own_st (V := T83.setTop (mkF m 134 #[.val (.int p1), .val (.ref b49), .val (.int (3 : Int32)), .val (.ref (A 3)), .unset] [(.int (14 : Int32)), (.int (3 : Int32))])) (fun t k => XS.bipush X83.here hx rfl (hb hby at_132) k) ?_
    refine own_st (V := T83.setTop (mkF m 141 #[.val (.int p1), .val (.ref b49), .val (.int (3 : Int32)), .val (.ref (A 3)), .unset] [])) (fun t k => XS.icmpYes X83.here hx rfl (pc0 := 134) (pc' := 141) rfl (hb hby at_134) rfl (tlt (by decide : (3 : Int32) < (14 : Int32))).1 (by decide) (by decide) k) ?_
    refine own_st (V := T83.setTop (mkF m 142 #[.val (.int p1), .val (.ref b49), .val (.int (3 : Int32)), .val (.ref (A 3)), .unset] [(.int (0 : Int32))])) (fun t k => XS.iconst X83.here hx rfl (hb hby at_141) k) ?_
    refine own_st (V := T83.setTop (mkF m 144 #[.val (.int p1), .val (.ref b49), .val (.int (3 : Int32)), .val (.ref (A 3)), .val (.int (0 : Int32))] [])) (fun t k => XS.istore X83.here hx rfl (hb hby at_142) rfl (l' := #[.val (.int p1), .val (.ref b49), .val (.int (3 : Int32)), .val (.ref (A 3)), .val (.int (0 : Int32))]) rfl k) ?_
    refine own_st (V := T83.setTop (mkF m 145 #[.val (.int p1), .val (.ref b49), .val (.int (3 : Int32)), .val (.ref (A 3)), .val (.int (0 : Int32))] [(.ref (A 3))])) (fun t k => XS.aloadN X83.here hx rfl (hb hby at_144) rfl rfl k) ?_
    obtain ⟨cq91, kq91, q91a, q91b, q91c⟩ := isOf hZ e83 (own_E En_83 3 (i := 3) (n := "TRAILING_UPDATE") rfl)
    obtain ⟨_, _, ⟨T91, L91, k91, n91⟩, -, X91, ⟨Lc91, hQ91, l91, y91, z91⟩, st91⟩ := X83.virtualBack hx (y := (⟨"com/example/tempora/tempora/core/Terms$Role", "isNotePhrase", "()Z"⟩ : MethodName)) (z := (⟨"com/example/tempora/tempora/core/Terms$Role", "isNotePhrase", "()Z"⟩ : MethodName)) hown (mvT hZ (hw _ (List.mem_of_getElem? (i := 39) rfl))) (mvT hZ (hw _ (List.mem_of_getElem? (i := 40) rfl))) (notFace_of_selects (args := #[]) (mvT hZ (hw _ (List.mem_of_getElem? (i := 42) rfl)))) (mvT hZ (hw _ (List.mem_of_getElem? (i := 42) rfl))) (mvT hZ (hw _ (List.mem_of_getElem? (i := 41) rfl))) (by decide) (backOf (W := 0) (own_m3 l Z a0 hw [] A h83 n0 Z0_83 En_83 ) hZ (hw _ (List.mem_of_getElem? (i := 43) rfl)) (hw _ (List.mem_of_getElem? (i := 3) rfl)) (by decide) (by decide)) q91a q91c (g := (mkF m 145 #[.val (.int p1), .val (.ref b49), .val (.int (3 : Int32)), .val (.ref (A 3)), .val (.int (0 : Int32))] [(.ref (A 3))])) rfl (by rw [hml]; rfl) (Steps.refl _) (argsL := []) (rest := []) (lenOf own_pd0 rfl) rfl (by show 2 * 0 + _ ≤ _; exact Nat.le_of_eq rfl) (hb hby at_145) (fun _ _ => ⟨rfl, e83, (by decide : 1 + 0 ≤ _), (by decide : 17 + 0 ≤ _)⟩)
    dsimp only [Pt.U, Pt.locs, Pt.cells, Pt.slots] at X91 l91 y91 z91 st91 hQ91
    subst l91 y91 z91
    obtain ⟨rfl, N91q, e91⟩ := hQ91
    have N91 := Fr.app N83 N91q
    refine own_st (V := T91.setTop (mkF m 148 #[.val (.int p1), .val (.ref b49), .val (.int (3 : Int32)), .val (.ref (A 3)), .val (.int (0 : Int32))] [(.int (0 : Int32))])) (fun t k => st91.trans k) ?_
    refine own_st (V := T91.setTop (mkF m 150 #[.val (.int p1), .val (.ref b49), .val (.int (3 : Int32)), .val (.ref (A 3)), .val (.int (0 : Int32))] [(.int (0 : Int32)), (.int (0 : Int32))])) (fun t k => XS.iload X91.here hx rfl (hb hby at_148) rfl k) ?_
    refine own_st (V := T91.setTop (mkF m 153 #[.val (.int p1), .val (.ref b49), .val (.int (3 : Int32)), .val (.ref (A 3)), .val (.int (0 : Int32))] [])) (fun t k => XS.icmpNo X91.here hx rfl (hb hby at_150) rfl (teq (by decide : (0 : Int32) = (0 : Int32))).2 k) ?_
    refine own_st (V := T91.setTop (mkF m 154 #[.val (.int p1), .val (.ref b49), .val (.int (3 : Int32)), .val (.ref (A 3)), .val (.int (0 : Int32))] [(.int (1 : Int32))])) (fun t k => XS.iconst X91.here hx rfl (hb hby at_153) k) ?_
    refine own_st (V := T91.setTop (mkF m 158 #[.val (.int p1), .val (.ref b49), .val (.int (3 : Int32)), .val (.ref (A 3)), .val (.int (0 : Int32))] [(.int (1 : Int32))])) (fun t k => XS.goto X91.here hx rfl (pc0 := 154) (pc' := 158) rfl (hb hby at_154) (by decide) (by decide) k) ?_
    exact own_ret X91 hx hlk Bd.returns (by decide +kernel) (Or.inl ⟨rfl, by simp, _, rfl⟩) (hb hby at_158) (by decide) (by decide) ⟨rfl, N91⟩
  · rw [hs126]
    refine own_st (V := T83.setTop (mkF m 127 #[.val (.int p1), .val (.ref b49), .val (.int (4 : Int32)), .unset, .unset] [])) (fun t k => XS.istoreN X83.here hx rfl (hb hby at_126) rfl (l' := #[.val (.int p1), .val (.ref b49), .val (.int (4 : Int32)), .unset, .unset]) rfl k) ?_
    refine own_st (V := T83.setTop (mkF m 128 #[.val (.int p1), .val (.ref b49), .val (.int (4 : Int32)), .unset, .unset] [(.ref b49)])) (fun t k => XS.aloadN X83.here hx rfl (hb hby at_127) rfl rfl k) ?_
    refine own_st (V := T83.setTop (mkF m 129 #[.val (.int p1), .val (.ref b49), .val (.int (4 : Int32)), .unset, .unset] [(.int (4 : Int32)), (.ref b49)])) (fun t k => XS.iloadN X83.here hx rfl (hb hby at_128) rfl k) ?_
    have V_b49_92 := V_b49_83
    obtain ⟨cl92, Ar92, qk92, sz92, nn92, hs92, fs92⟩ := V_b49_83
    have hin92 : ¬ ((4 : Int32) < 0 ∨ cl92.slots.size ≤ ((4 : Int32)).toNatClampNeg) := inb_of sz92 ⟨by decide, by decide⟩
    refine own_st (V := T83.setTop (mkF m 130 #[.val (.int p1), .val (.ref b49), .val (.int (4 : Int32)), .unset, .unset] [(.ref (A 4))])) (fun t k => X83.aaload hx (j := (4 : Int32)) (v := (.ref (A 4))) (by rw [e83]; exact Ar92.1) (State.isArrayOf_alike hZ.alike Ar92.2.1) rfl Ar92.2.2 hin92 (Has.at hs92 hin92 rfl) (g := (mkF m 129 #[.val (.int p1), .val (.ref b49), .val (.int (4 : Int32)), .unset, .unset] [(.int (4 : Int32)), (.ref b49)])) rfl rfl (hb hby at_129) _ k) ?_
    refine own_st (V := T83.setTop (mkF m 131 #[.val (.int p1), .val (.ref b49), .val (.int (4 : Int32)), .val (.ref (A 4)), .unset] [])) (fun t k => XS.astoreN X83.here hx rfl (hb hby at_130) rfl rfl (l' := #[.val (.int p1), .val (.ref b49), .val (.int (4 : Int32)), .val (.ref (A 4)), .unset]) rfl k) ?_
    refine own_st (V := T83.setTop (mkF m 132 #[.val (.int p1), .val (.ref b49), .val (.int (4 : Int32)), .val (.ref (A 4)), .unset] [(.int (4 : Int32))])) (fun t k => XS.iloadN X83.here hx rfl (hb hby at_131) rfl k) ?_
    refine own_st (V := T83.setTop (mkF m 134 #[.val (.int p1), .val (.ref b49), .val (.int (4 : Int32)), .val (.ref (A 4)), .unset] [(.int (14 : Int32)), (.int (4 : Int32))])) (fun t k => XS.bipush X83.here hx rfl (hb hby at_132) k) ?_
    refine own_st (V := T83.setTop (mkF m 141 #[.val (.int p1), .val (.ref b49), .val (.int (4 : Int32)), .val (.ref (A 4)), .unset] [])) (fun t k => XS.icmpYes X83.here hx rfl (pc0 := 134) (pc' := 141) rfl (hb hby at_134) rfl (tlt (by decide : (4 : Int32) < (14 : Int32))).1 (by decide) (by decide) k) ?_
    refine own_st (V := T83.setTop (mkF m 142 #[.val (.int p1), .val (.ref b49), .val (.int (4 : Int32)), .val (.ref (A 4)), .unset] [(.int (0 : Int32))])) (fun t k => XS.iconst X83.here hx rfl (hb hby at_141) k) ?_
    refine own_st (V := T83.setTop (mkF m 144 #[.val (.int p1), .val (.ref b49), .val (.int (4 : Int32)), .val (.ref (A 4)), .val (.int (0 : Int32))] [])) (fun t k => XS.istore X83.here hx rfl (hb hby at_142) rfl (l' := #[.val (.int p1), .val (.ref b49), .val (.int (4 : Int32)), .val (.ref (A 4)), .val (.int (0 : Int32))]) rfl k) ?_
    refine own_st (V := T83.setTop (mkF m 145 #[.val (.int p1), .val (.ref b49), .val (.int (4 : Int32)), .val (.ref (A 4)), .val (.int (0 : Int32))] [(.ref (A 4))])) (fun t k => XS.aloadN X83.here hx rfl (hb hby at_144) rfl rfl k) ?_
    obtain ⟨cq93, kq93, q93a, q93b, q93c⟩ := isOf hZ e83 (own_E En_83 4 (i := 4) (n := "NUMBER") rfl)
    obtain ⟨_, _, ⟨T93, L93, k93, n93⟩, -, X93, ⟨Lc93, hQ93, l93, y93, z93⟩, st93⟩ := X83.virtualBack hx (y := (⟨"com/example/tempora/tempora/core/Terms$Role", "isNotePhrase", "()Z"⟩ : MethodName)) (z := (⟨"com/example/tempora/tempora/core/Terms$Role", "isNotePhrase", "()Z"⟩ : MethodName)) hown (mvT hZ (hw _ (List.mem_of_getElem? (i := 39) rfl))) (mvT hZ (hw _ (List.mem_of_getElem? (i := 40) rfl))) (notFace_of_selects (args := #[]) (mvT hZ (hw _ (List.mem_of_getElem? (i := 42) rfl)))) (mvT hZ (hw _ (List.mem_of_getElem? (i := 42) rfl))) (mvT hZ (hw _ (List.mem_of_getElem? (i := 41) rfl))) (by decide) (backOf (W := 0) (own_m4 l Z a0 hw [] A h83 n0 Z0_83 En_83 ) hZ (hw _ (List.mem_of_getElem? (i := 43) rfl)) (hw _ (List.mem_of_getElem? (i := 3) rfl)) (by decide) (by decide)) q93a q93c (g := (mkF m 145 #[.val (.int p1), .val (.ref b49), .val (.int (4 : Int32)), .val (.ref (A 4)), .val (.int (0 : Int32))] [(.ref (A 4))])) rfl (by rw [hml]; rfl) (Steps.refl _) (argsL := []) (rest := []) (lenOf own_pd0 rfl) rfl (by show 2 * 0 + _ ≤ _; exact Nat.le_of_eq rfl) (hb hby at_145) (fun _ _ => ⟨rfl, e83, (by decide : 1 + 0 ≤ _), (by decide : 17 + 0 ≤ _)⟩)
    dsimp only [Pt.U, Pt.locs, Pt.cells, Pt.slots] at X93 l93 y93 z93 st93 hQ93
    subst l93 y93 z93
    obtain ⟨rfl, N93q, e93⟩ := hQ93
    have N93 := Fr.app N83 N93q
    refine own_st (V := T93.setTop (mkF m 148 #[.val (.int p1), .val (.ref b49), .val (.int (4 : Int32)), .val (.ref (A 4)), .val (.int (0 : Int32))] [(.int (0 : Int32))])) (fun t k => st93.trans k) ?_
    refine own_st (V := T93.setTop (mkF m 150 #[.val (.int p1), .val (.ref b49), .val (.int (4 : Int32)), .val (.ref (A 4)), .val (.int (0 : Int32))] [(.int (0 : Int32)), (.int (0 : Int32))])) (fun t k => XS.iload X93.here hx rfl (hb hby at_148) rfl k) ?_
    refine own_st (V := T93.setTop (mkF m 153 #[.val (.int p1), .val (.ref b49), .val (.int (4 : Int32)), .val (.ref (A 4)), .val (.int (0 : Int32))] [])) (fun t k => XS.icmpNo X93.here hx rfl (hb hby at_150) rfl (teq (by decide : (0 : Int32) = (0 : Int32))).2 k) ?_
    refine own_st (V := T93.setTop (mkF m 154 #[.val (.int p1), .val (.ref b49), .val (.int (4 : Int32)), .val (.ref (A 4)), .val (.int (0 : Int32))] [(.int (1 : Int32))])) (fun t k => XS.iconst X93.here hx rfl (hb hby at_153) k) ?_
    refine own_st (V := T93.setTop (mkF m 158 #[.val (.int p1), .val (.ref b49), .val (.int (4 : Int32)), .val (.ref (A 4)), .val (.int (0 : Int32))] [(.int (1 : Int32))])) (fun t k => XS.goto X93.here hx rfl (pc0 := 154) (pc' := 158) rfl (hb hby at_154) (by decide) (by decide) k) ?_
    exact own_ret X93 hx hlk Bd.returns (by decide +kernel) (Or.inl ⟨rfl, by simp, _, rfl⟩) (hb hby at_158) (by decide) (by decide) ⟨rfl, N93⟩
  · rw [hs126]
    refine own_st (V := T83.setTop (mkF m 127 #[.val (.int p1), .val (.ref b49), .val (.int (5 : Int32)), .unset, .unset] [])) (fun t k => XS.istoreN X83.here hx rfl (hb hby at_126) rfl (l' := #[.val (.int p1), .val (.ref b49), .val (.int (5 : Int32)), .unset, .unset]) rfl k) ?_
    refine own_st (V := T83.setTop (mkF m 128 #[.val (.int p1), .val (.ref b49), .val (.int (5 : Int32)), .unset, .unset] [(.ref b49)])) (fun t k => XS.aloadN X83.here hx rfl (hb hby at_127) rfl rfl k) ?_
    refine own_st (V := T83.setTop (mkF m 129 #[.val (.int p1), .val (.ref b49), .val (.int (5 : Int32)), .unset, .unset] [(.int (5 : Int32)), (.ref b49)])) (fun t k => XS.iloadN X83.here hx rfl (hb hby at_128) rfl k) ?_
    have V_b49_94 := V_b49_83
    obtain ⟨cl94, Ar94, qk94, sz94, nn94, hs94, fs94⟩ := V_b49_83
    have hin94 : ¬ ((5 : Int32) < 0 ∨ cl94.slots.size ≤ ((5 : Int32)).toNatClampNeg) := inb_of sz94 ⟨by decide, by decide⟩
    refine own_st (V := T83.setTop (mkF m 130 #[.val (.int p1), .val (.ref b49), .val (.int (5 : Int32)), .unset, .unset] [(.ref (A 5))])) (fun t k => X83.aaload hx (j := (5 : Int32)) (v := (.ref (A 5))) (by rw [e83]; exact Ar94.1) (State.isArrayOf_alike hZ.alike Ar94.2.1) rfl Ar94.2.2 hin94 (Has.at hs94 hin94 rfl) (g := (mkF m 129 #[.val (.int p1), .val (.ref b49), .val (.int (5 : Int32)), .unset, .unset] [(.int (5 : Int32)), (.ref b49)])) rfl rfl (hb hby at_129) _ k) ?_
    refine own_st (V := T83.setTop (mkF m 131 #[.val (.int p1), .val (.ref b49), .val (.int (5 : Int32)), .val (.ref (A 5)), .unset] [])) (fun t k => XS.astoreN X83.here hx rfl (hb hby at_130) rfl rfl (l' := #[.val (.int p1), .val (.ref b49), .val (.int (5 : Int32)), .val (.ref (A 5)), .unset]) rfl k) ?_
    refine own_st (V := T83.setTop (mkF m 132 #[.val (.int p1), .val (.ref b49), .val (.int (5 : Int32)), .val (.ref (A 5)), .unset] [(.int (5 : Int32))])) (fun t k => XS.iloadN X83.here hx rfl (hb hby at_131) rfl k) ?_
    refine own_st (V := T83.setTop (mkF m 134 #[.val (.int p1), .val (.ref b49), .val (.int (5 : Int32)), .val (.ref (A 5)), .unset] [(.int (14 : Int32)), (.int (5 : Int32))])) (fun t k => XS.bipush X83.here hx rfl (hb hby at_132) k) ?_
    refine own_st (V := T83.setTop (mkF m 141 #[.val (.int p1), .val (.ref b49), .val (.int (5 : Int32)), .val (.ref (A 5)), .unset] [])) (fun t k => XS.icmpYes X83.here hx rfl (pc0 := 134) (pc' := 141) rfl (hb hby at_134) rfl (tlt (by decide : (5 : Int32) < (14 : Int32))).1 (by decide) (by decide) k) ?_
    refine own_st (V := T83.setTop (mkF m 142 #[.val (.int p1), .val (.ref b49), .val (.int (5 : Int32)), .val (.ref (A 5)), .unset] [(.int (0 : Int32))])) (fun t k => XS.iconst X83.here hx rfl (hb hby at_141) k) ?_
    refine own_st (V := T83.setTop (mkF m 144 #[.val (.int p1), .val (.ref b49), .val (.int (5 : Int32)), .val (.ref (A 5)), .val (.int (0 : Int32))] [])) (fun t k => XS.istore X83.here hx rfl (hb hby at_142) rfl (l' := #[.val (.int p1), .val (.ref b49), .val (.int (5 : Int32)), .val (.ref (A 5)), .val (.int (0 : Int32))]) rfl k) ?_
    refine own_st (V := T83.setTop (mkF m 145 #[.val (.int p1), .val (.ref b49), .val (.int (5 : Int32)), .val (.ref (A 5)), .val (.int (0 : Int32))] [(.ref (A 5))])) (fun t k => XS.aloadN X83.here hx rfl (hb hby at_144) rfl rfl k) ?_
    obtain ⟨cq95, kq95, q95a, q95b, q95c⟩ := isOf hZ e83 (own_E En_83 5 (i := 5) (n := "MULTIPLE") rfl)
    obtain ⟨_, _, ⟨T95, L95, k95, n95⟩, -, X95, ⟨Lc95, hQ95, l95, y95, z95⟩, st95⟩ := X83.virtualBack hx (y := (⟨"com/example/tempora/tempora/core/Terms$Role", "isNotePhrase", "()Z"⟩ : MethodName)) (z := (⟨"com/example/tempora/tempora/core/Terms$Role", "isNotePhrase", "()Z"⟩ : MethodName)) hown (mvT hZ (hw _ (List.mem_of_getElem? (i := 39) rfl))) (mvT hZ (hw _ (List.mem_of_getElem? (i := 40) rfl))) (notFace_of_selects (args := #[]) (mvT hZ (hw _ (List.mem_of_getElem? (i := 42) rfl)))) (mvT hZ (hw _ (List.mem_of_getElem? (i := 42) rfl))) (mvT hZ (hw _ (List.mem_of_getElem? (i := 41) rfl))) (by decide) (backOf (W := 0) (own_m5 l Z a0 hw [] A h83 n0 Z0_83 En_83 ) hZ (hw _ (List.mem_of_getElem? (i := 43) rfl)) (hw _ (List.mem_of_getElem? (i := 3) rfl)) (by decide) (by decide)) q95a q95c (g := (mkF m 145 #[.val (.int p1), .val (.ref b49), .val (.int (5 : Int32)), .val (.ref (A 5)), .val (.int (0 : Int32))] [(.ref (A 5))])) rfl (by rw [hml]; rfl) (Steps.refl _) (argsL := []) (rest := []) (lenOf own_pd0 rfl) rfl (by show 2 * 0 + _ ≤ _; exact Nat.le_of_eq rfl) (hb hby at_145) (fun _ _ => ⟨rfl, e83, (by decide : 1 + 0 ≤ _), (by decide : 17 + 0 ≤ _)⟩)
    dsimp only [Pt.U, Pt.locs, Pt.cells, Pt.slots] at X95 l95 y95 z95 st95 hQ95
    subst l95 y95 z95
    obtain ⟨rfl, N95q, e95⟩ := hQ95
    have N95 := Fr.app N83 N95q
    refine own_st (V := T95.setTop (mkF m 148 #[.val (.int p1), .val (.ref b49), .val (.int (5 : Int32)), .val (.ref (A 5)), .val (.int (0 : Int32))] [(.int (0 : Int32))])) (fun t k => st95.trans k) ?_
    refine own_st (V := T95.setTop (mkF m 150 #[.val (.int p1), .val (.ref b49), .val (.int (5 : Int32)), .val (.ref (A 5)), .val (.int (0 : Int32))] [(.int (0 : Int32)), (.int (0 : Int32))])) (fun t k => XS.iload X95.here hx rfl (hb hby at_148) rfl k) ?_
    refine own_st (V := T95.setTop (mkF m 153 #[.val (.int p1), .val (.ref b49), .val (.int (5 : Int32)), .val (.ref (A 5)), .val (.int (0 : Int32))] [])) (fun t k => XS.icmpNo X95.here hx rfl (hb hby at_150) rfl (teq (by decide : (0 : Int32) = (0 : Int32))).2 k) ?_
    refine own_st (V := T95.setTop (mkF m 154 #[.val (.int p1), .val (.ref b49), .val (.int (5 : Int32)), .val (.ref (A 5)), .val (.int (0 : Int32))] [(.int (1 : Int32))])) (fun t k => XS.iconst X95.here hx rfl (hb hby at_153) k) ?_
    refine own_st (V := T95.setTop (mkF m 158 #[.val (.int p1), .val (.ref b49), .val (.int (5 : Int32)), .val (.ref (A 5)), .val (.int (0 : Int32))] [(.int (1 : Int32))])) (fun t k => XS.goto X95.here hx rfl (pc0 := 154) (pc' := 158) rfl (hb hby at_154) (by decide) (by decide) k) ?_
    exact own_ret X95 hx hlk Bd.returns (by decide +kernel) (Or.inl ⟨rfl, by simp, _, rfl⟩) (hb hby at_158) (by decide) (by decide) ⟨rfl, N95⟩
  · rw [hs126]
    refine own_st (V := T83.setTop (mkF m 127 #[.val (.int p1), .val (.ref b49), .val (.int (6 : Int32)), .unset, .unset] [])) (fun t k => XS.istoreN X83.here hx rfl (hb hby at_126) rfl (l' := #[.val (.int p1), .val (.ref b49), .val (.int (6 : Int32)), .unset, .unset]) rfl k) ?_
    refine own_st (V := T83.setTop (mkF m 128 #[.val (.int p1), .val (.ref b49), .val (.int (6 : Int32)), .unset, .unset] [(.ref b49)])) (fun t k => XS.aloadN X83.here hx rfl (hb hby at_127) rfl rfl k) ?_
    refine own_st (V := T83.setTop (mkF m 129 #[.val (.int p1), .val (.ref b49), .val (.int (6 : Int32)), .unset, .unset] [(.int (6 : Int32)), (.ref b49)])) (fun t k => XS.iloadN X83.here hx rfl (hb hby at_128) rfl k) ?_
    have V_b49_96 := V_b49_83
    obtain ⟨cl96, Ar96, qk96, sz96, nn96, hs96, fs96⟩ := V_b49_83
    have hin96 : ¬ ((6 : Int32) < 0 ∨ cl96.slots.size ≤ ((6 : Int32)).toNatClampNeg) := inb_of sz96 ⟨by decide, by decide⟩
    refine own_st (V := T83.setTop (mkF m 130 #[.val (.int p1), .val (.ref b49), .val (.int (6 : Int32)), .unset, .unset] [(.ref (A 6))])) (fun t k => X83.aaload hx (j := (6 : Int32)) (v := (.ref (A 6))) (by rw [e83]; exact Ar96.1) (State.isArrayOf_alike hZ.alike Ar96.2.1) rfl Ar96.2.2 hin96 (Has.at hs96 hin96 rfl) (g := (mkF m 129 #[.val (.int p1), .val (.ref b49), .val (.int (6 : Int32)), .unset, .unset] [(.int (6 : Int32)), (.ref b49)])) rfl rfl (hb hby at_129) _ k) ?_
    refine own_st (V := T83.setTop (mkF m 131 #[.val (.int p1), .val (.ref b49), .val (.int (6 : Int32)), .val (.ref (A 6)), .unset] [])) (fun t k => XS.astoreN X83.here hx rfl (hb hby at_130) rfl rfl (l' := #[.val (.int p1), .val (.ref b49), .val (.int (6 : Int32)), .val (.ref (A 6)), .unset]) rfl k) ?_
    refine own_st (V := T83.setTop (mkF m 132 #[.val (.int p1), .val (.ref b49), .val (.int (6 : Int32)), .val (.ref (A 6)), .unset] [(.int (6 : Int32))])) (fun t k => XS.iloadN X83.here hx rfl (hb hby at_131) rfl k) ?_
    refine own_st (V := T83.setTop (mkF m 134 #[.val (.int p1), .val (.ref b49), .val (.int (6 : Int32)), .val (.ref (A 6)), .unset] [(.int (14 : Int32)), (.int (6 : Int32))])) (fun t k => XS.bipush X83.here hx rfl (hb hby at_132) k) ?_
    refine own_st (V := T83.setTop (mkF m 141 #[.val (.int p1), .val (.ref b49), .val (.int (6 : Int32)), .val (.ref (A 6)), .unset] [])) (fun t k => XS.icmpYes X83.here hx rfl (pc0 := 134) (pc' := 141) rfl (hb hby at_134) rfl (tlt (by decide : (6 : Int32) < (14 : Int32))).1 (by decide) (by decide) k) ?_
    refine own_st (V := T83.setTop (mkF m 142 #[.val (.int p1), .val (.ref b49), .val (.int (6 : Int32)), .val (.ref (A 6)), .unset] [(.int (0 : Int32))])) (fun t k => XS.iconst X83.here hx rfl (hb hby at_141) k) ?_
    refine own_st (V := T83.setTop (mkF m 144 #[.val (.int p1), .val (.ref b49), .val (.int (6 : Int32)), .val (.ref (A 6)), .val (.int (0 : Int32))] [])) (fun t k => XS.istore X83.here hx rfl (hb hby at_142) rfl (l' := #[.val (.int p1), .val (.ref b49), .val (.int (6 : Int32)), .val (.ref (A 6)), .val (.int (0 : Int32))]) rfl k) ?_
    refine own_st (V := T83.setTop (mkF m 145 #[.val (.int p1), .val (.ref b49), .val (.int (6 : Int32)), .val (.ref (A 6)), .val (.int (0 : Int32))] [(.ref (A 6))])) (fun t k => XS.aloadN X83.here hx rfl (hb hby at_144) rfl rfl k) ?_
    obtain ⟨cq97, kq97, q97a, q97b, q97c⟩ := isOf hZ e83 (own_E En_83 6 (i := 6) (n := "UNIT") rfl)
    obtain ⟨_, _, ⟨T97, L97, k97, n97⟩, -, X97, ⟨Lc97, hQ97, l97, y97, z97⟩, st97⟩ := X83.virtualBack hx (y := (⟨"com/example/tempora/tempora/core/Terms$Role", "isNotePhrase", "()Z"⟩ : MethodName)) (z := (⟨"com/example/tempora/tempora/core/Terms$Role", "isNotePhrase", "()Z"⟩ : MethodName)) hown (mvT hZ (hw _ (List.mem_of_getElem? (i := 39) rfl))) (mvT hZ (hw _ (List.mem_of_getElem? (i := 40) rfl))) (notFace_of_selects (args := #[]) (mvT hZ (hw _ (List.mem_of_getElem? (i := 42) rfl)))) (mvT hZ (hw _ (List.mem_of_getElem? (i := 42) rfl))) (mvT hZ (hw _ (List.mem_of_getElem? (i := 41) rfl))) (by decide) (backOf (W := 0) (own_m6 l Z a0 hw [] A h83 n0 Z0_83 En_83 ) hZ (hw _ (List.mem_of_getElem? (i := 43) rfl)) (hw _ (List.mem_of_getElem? (i := 3) rfl)) (by decide) (by decide)) q97a q97c (g := (mkF m 145 #[.val (.int p1), .val (.ref b49), .val (.int (6 : Int32)), .val (.ref (A 6)), .val (.int (0 : Int32))] [(.ref (A 6))])) rfl (by rw [hml]; rfl) (Steps.refl _) (argsL := []) (rest := []) (lenOf own_pd0 rfl) rfl (by show 2 * 0 + _ ≤ _; exact Nat.le_of_eq rfl) (hb hby at_145) (fun _ _ => ⟨rfl, e83, (by decide : 1 + 0 ≤ _), (by decide : 17 + 0 ≤ _)⟩)
    dsimp only [Pt.U, Pt.locs, Pt.cells, Pt.slots] at X97 l97 y97 z97 st97 hQ97
    subst l97 y97 z97
    obtain ⟨rfl, N97q, e97⟩ := hQ97
    have N97 := Fr.app N83 N97q
    refine own_st (V := T97.setTop (mkF m 148 #[.val (.int p1), .val (.ref b49), .val (.int (6 : Int32)), .val (.ref (A 6)), .val (.int (0 : Int32))] [(.int (0 : Int32))])) (fun t k => st97.trans k) ?_
    refine own_st (V := T97.setTop (mkF m 150 #[.val (.int p1), .val (.ref b49), .val (.int (6 : Int32)), .val (.ref (A 6)), .val (.int (0 : Int32))] [(.int (0 : Int32)), (.int (0 : Int32))])) (fun t k => XS.iload X97.here hx rfl (hb hby at_148) rfl k) ?_
    refine own_st (V := T97.setTop (mkF m 153 #[.val (.int p1), .val (.ref b49), .val (.int (6 : Int32)), .val (.ref (A 6)), .val (.int (0 : Int32))] [])) (fun t k => XS.icmpNo X97.here hx rfl (hb hby at_150) rfl (teq (by decide : (0 : Int32) = (0 : Int32))).2 k) ?_
    refine own_st (V := T97.setTop (mkF m 154 #[.val (.int p1), .val (.ref b49), .val (.int (6 : Int32)), .val (.ref (A 6)), .val (.int (0 : Int32))] [(.int (1 : Int32))])) (fun t k => XS.iconst X97.here hx rfl (hb hby at_153) k) ?_
    refine own_st (V := T97.setTop (mkF m 158 #[.val (.int p1), .val (.ref b49), .val (.int (6 : Int32)), .val (.ref (A 6)), .val (.int (0 : Int32))] [(.int (1 : Int32))])) (fun t k => XS.goto X97.here hx rfl (pc0 := 154) (pc' := 158) rfl (hb hby at_154) (by decide) (by decide) k) ?_
    exact own_ret X97 hx hlk Bd.returns (by decide +kernel) (Or.inl ⟨rfl, by simp, _, rfl⟩) (hb hby at_158) (by decide) (by decide) ⟨rfl, N97⟩
  · rw [hs126]
    refine own_st (V := T83.setTop (mkF m 127 #[.val (.int p1), .val (.ref b49), .val (.int (7 : Int32)), .unset, .unset] [])) (fun t k => XS.istoreN X83.here hx rfl (hb hby at_126) rfl (l' := #[.val (.int p1), .val (.ref b49), .val (.int (7 : Int32)), .unset, .unset]) rfl k) ?_
    refine own_st (V := T83.setTop (mkF m 128 #[.val (.int p1), .val (.ref b49), .val (.int (7 : Int32)), .unset, .unset] [(.ref b49)])) (fun t k => XS.aloadN X83.here hx rfl (hb hby at_127) rfl rfl k) ?_
    refine own_st (V := T83.setTop (mkF m 129 #[.val (.int p1), .val (.ref b49), .val (.int (7 : Int32)), .unset, .unset] [(.int (7 : Int32)), (.ref b49)])) (fun t k => XS.iloadN X83.here hx rfl (hb hby at_128) rfl k) ?_
    have V_b49_98 := V_b49_83
    obtain ⟨cl98, Ar98, qk98, sz98, nn98, hs98, fs98⟩ := V_b49_83
    have hin98 : ¬ ((7 : Int32) < 0 ∨ cl98.slots.size ≤ ((7 : Int32)).toNatClampNeg) := inb_of sz98 ⟨by decide, by decide⟩
    refine own_st (V := T83.setTop (mkF m 130 #[.val (.int p1), .val (.ref b49), .val (.int (7 : Int32)), .unset, .unset] [(.ref (A 7))])) (fun t k => X83.aaload hx (j := (7 : Int32)) (v := (.ref (A 7))) (by rw [e83]; exact Ar98.1) (State.isArrayOf_alike hZ.alike Ar98.2.1) rfl Ar98.2.2 hin98 (Has.at hs98 hin98 rfl) (g := (mkF m 129 #[.val (.int p1), .val (.ref b49), .val (.int (7 : Int32)), .unset, .unset] [(.int (7 : Int32)), (.ref b49)])) rfl rfl (hb hby at_129) _ k) ?_
    refine own_st (V := T83.setTop (mkF m 131 #[.val (.int p1), .val (.ref b49), .val (.int (7 : Int32)), .val (.ref (A 7)), .unset] [])) (fun t k => XS.astoreN X83.here hx rfl (hb hby at_130) rfl rfl (l' := #[.val (.int p1), .val (.ref b49), .val (.int (7 : Int32)), .val (.ref (A 7)), .unset]) rfl k) ?_
    refine own_st (V := T83.setTop (mkF m 132 #[.val (.int p1), .val (.ref b49), .val (.int (7 : Int32)), .val (.ref (A 7)), .unset] [(.int (7 : Int32))])) (fun t k => XS.iloadN X83.here hx rfl (hb hby at_131) rfl k) ?_
    refine own_st (V := T83.setTop (mkF m 134 #[.val (.int p1), .val (.ref b49), .val (.int (7 : Int32)), .val (.ref (A 7)), .unset] [(.int (14 : Int32)), (.int (7 : Int32))])) (fun t k => XS.bipush X83.here hx rfl (hb hby at_132) k) ?_
    refine own_st (V := T83.setTop (mkF m 141 #[.val (.int p1), .val (.ref b49), .val (.int (7 : Int32)), .val (.ref (A 7)), .unset] [])) (fun t k => XS.icmpYes X83.here hx rfl (pc0 := 134) (pc' := 141) rfl (hb hby at_134) rfl (tlt (by decide : (7 : Int32) < (14 : Int32))).1 (by decide) (by decide) k) ?_
    refine own_st (V := T83.setTop (mkF m 142 #[.val (.int p1), .val (.ref b49), .val (.int (7 : Int32)), .val (.ref (A 7)), .unset] [(.int (0 : Int32))])) (fun t k => XS.iconst X83.here hx rfl (hb hby at_141) k) ?_
    refine own_st (V := T83.setTop (mkF m 144 #[.val (.int p1), .val (.ref b49), .val (.int (7 : Int32)), .val (.ref (A 7)), .val (.int (0 : Int32))] [])) (fun t k => XS.istore X83.here hx rfl (hb hby at_142) rfl (l' := #[.val (.int p1), .val (.ref b49), .val (.int (7 : Int32)), .val (.ref (A 7)), .val (.int (0 : Int32))]) rfl k) ?_
    refine own_st (V := T83.setTop (mkF m 145 #[.val (.int p1), .val (.ref b49), .val (.int (7 : Int32)), .val (.ref (A 7)), .val (.int (0 : Int32))] [(.ref (A 7))])) (fun t k => XS.aloadN X83.here hx rfl (hb hby at_144) rfl rfl k) ?_
    obtain ⟨cq99, kq99, q99a, q99b, q99c⟩ := isOf hZ e83 (own_E En_83 7 (i := 7) (n := "PERIOD") rfl)
    obtain ⟨_, _, ⟨T99, L99, k99, n99⟩, -, X99, ⟨Lc99, hQ99, l99, y99, z99⟩, st99⟩ := X83.virtualBack hx (y := (⟨"com/example/tempora/tempora/core/Terms$Role", "isNotePhrase", "()Z"⟩ : MethodName)) (z := (⟨"com/example/tempora/tempora/core/Terms$Role", "isNotePhrase", "()Z"⟩ : MethodName)) hown (mvT hZ (hw _ (List.mem_of_getElem? (i := 39) rfl))) (mvT hZ (hw _ (List.mem_of_getElem? (i := 40) rfl))) (notFace_of_selects (args := #[]) (mvT hZ (hw _ (List.mem_of_getElem? (i := 42) rfl)))) (mvT hZ (hw _ (List.mem_of_getElem? (i := 42) rfl))) (mvT hZ (hw _ (List.mem_of_getElem? (i := 41) rfl))) (by decide) (backOf (W := 0) (own_m7 l Z a0 hw [] A h83 n0 Z0_83 En_83 ) hZ (hw _ (List.mem_of_getElem? (i := 43) rfl)) (hw _ (List.mem_of_getElem? (i := 3) rfl)) (by decide) (by decide)) q99a q99c (g := (mkF m 145 #[.val (.int p1), .val (.ref b49), .val (.int (7 : Int32)), .val (.ref (A 7)), .val (.int (0 : Int32))] [(.ref (A 7))])) rfl (by rw [hml]; rfl) (Steps.refl _) (argsL := []) (rest := []) (lenOf own_pd0 rfl) rfl (by show 2 * 0 + _ ≤ _; exact Nat.le_of_eq rfl) (hb hby at_145) (fun _ _ => ⟨rfl, e83, (by decide : 1 + 0 ≤ _), (by decide : 17 + 0 ≤ _)⟩)
    dsimp only [Pt.U, Pt.locs, Pt.cells, Pt.slots] at X99 l99 y99 z99 st99 hQ99
    subst l99 y99 z99
    obtain ⟨rfl, N99q, e99⟩ := hQ99
    have N99 := Fr.app N83 N99q
    refine own_st (V := T99.setTop (mkF m 148 #[.val (.int p1), .val (.ref b49), .val (.int (7 : Int32)), .val (.ref (A 7)), .val (.int (0 : Int32))] [(.int (0 : Int32))])) (fun t k => st99.trans k) ?_
    refine own_st (V := T99.setTop (mkF m 150 #[.val (.int p1), .val (.ref b49), .val (.int (7 : Int32)), .val (.ref (A 7)), .val (.int (0 : Int32))] [(.int (0 : Int32)), (.int (0 : Int32))])) (fun t k => XS.iload X99.here hx rfl (hb hby at_148) rfl k) ?_
    refine own_st (V := T99.setTop (mkF m 153 #[.val (.int p1), .val (.ref b49), .val (.int (7 : Int32)), .val (.ref (A 7)), .val (.int (0 : Int32))] [])) (fun t k => XS.icmpNo X99.here hx rfl (hb hby at_150) rfl (teq (by decide : (0 : Int32) = (0 : Int32))).2 k) ?_
    refine own_st (V := T99.setTop (mkF m 154 #[.val (.int p1), .val (.ref b49), .val (.int (7 : Int32)), .val (.ref (A 7)), .val (.int (0 : Int32))] [(.int (1 : Int32))])) (fun t k => XS.iconst X99.here hx rfl (hb hby at_153) k) ?_
    refine own_st (V := T99.setTop (mkF m 158 #[.val (.int p1), .val (.ref b49), .val (.int (7 : Int32)), .val (.ref (A 7)), .val (.int (0 : Int32))] [(.int (1 : Int32))])) (fun t k => XS.goto X99.here hx rfl (pc0 := 154) (pc' := 158) rfl (hb hby at_154) (by decide) (by decide) k) ?_
    exact own_ret X99 hx hlk Bd.returns (by decide +kernel) (Or.inl ⟨rfl, by simp, _, rfl⟩) (hb hby at_158) (by decide) (by decide) ⟨rfl, N99⟩
  · rw [hs126]
    refine own_st (V := T83.setTop (mkF m 127 #[.val (.int p1), .val (.ref b49), .val (.int (8 : Int32)), .unset, .unset] [])) (fun t k => XS.istoreN X83.here hx rfl (hb hby at_126) rfl (l' := #[.val (.int p1), .val (.ref b49), .val (.int (8 : Int32)), .unset, .unset]) rfl k) ?_
    refine own_st (V := T83.setTop (mkF m 128 #[.val (.int p1), .val (.ref b49), .val (.int (8 : Int32)), .unset, .unset] [(.ref b49)])) (fun t k => XS.aloadN X83.here hx rfl (hb hby at_127) rfl rfl k) ?_
    refine own_st (V := T83.setTop (mkF m 129 #[.val (.int p1), .val (.ref b49), .val (.int (8 : Int32)), .unset, .unset] [(.int (8 : Int32)), (.ref b49)])) (fun t k => XS.iloadN X83.here hx rfl (hb hby at_128) rfl k) ?_
    have V_b49_100 := V_b49_83
    obtain ⟨cl100, Ar100, qk100, sz100, nn100, hs100, fs100⟩ := V_b49_83
    have hin100 : ¬ ((8 : Int32) < 0 ∨ cl100.slots.size ≤ ((8 : Int32)).toNatClampNeg) := inb_of sz100 ⟨by decide, by decide⟩
    refine own_st (V := T83.setTop (mkF m 130 #[.val (.int p1), .val (.ref b49), .val (.int (8 : Int32)), .unset, .unset] [(.ref (A 8))])) (fun t k => X83.aaload hx (j := (8 : Int32)) (v := (.ref (A 8))) (by rw [e83]; exact Ar100.1) (State.isArrayOf_alike hZ.alike Ar100.2.1) rfl Ar100.2.2 hin100 (Has.at hs100 hin100 rfl) (g := (mkF m 129 #[.val (.int p1), .val (.ref b49), .val (.int (8 : Int32)), .unset, .unset] [(.int (8 : Int32)), (.ref b49)])) rfl rfl (hb hby at_129) _ k) ?_
    refine own_st (V := T83.setTop (mkF m 131 #[.val (.int p1), .val (.ref b49), .val (.int (8 : Int32)), .val (.ref (A 8)), .unset] [])) (fun t k => XS.astoreN X83.here hx rfl (hb hby at_130) rfl rfl (l' := #[.val (.int p1), .val (.ref b49), .val (.int (8 : Int32)), .val (.ref (A 8)), .unset]) rfl k) ?_
    refine own_st (V := T83.setTop (mkF m 132 #[.val (.int p1), .val (.ref b49), .val (.int (8 : Int32)), .val (.ref (A 8)), .unset] [(.int (8 : Int32))])) (fun t k => XS.iloadN X83.here hx rfl (hb hby at_131) rfl k) ?_
    refine own_st (V := T83.setTop (mkF m 134 #[.val (.int p1), .val (.ref b49), .val (.int (8 : Int32)), .val (.ref (A 8)), .unset] [(.int (14 : Int32)), (.int (8 : Int32))])) (fun t k => XS.bipush X83.here hx rfl (hb hby at_132) k) ?_
    refine own_st (V := T83.setTop (mkF m 141 #[.val (.int p1), .val (.ref b49), .val (.int (8 : Int32)), .val (.ref (A 8)), .unset] [])) (fun t k => XS.icmpYes X83.here hx rfl (pc0 := 134) (pc' := 141) rfl (hb hby at_134) rfl (tlt (by decide : (8 : Int32) < (14 : Int32))).1 (by decide) (by decide) k) ?_
    refine own_st (V := T83.setTop (mkF m 142 #[.val (.int p1), .val (.ref b49), .val (.int (8 : Int32)), .val (.ref (A 8)), .unset] [(.int (0 : Int32))])) (fun t k => XS.iconst X83.here hx rfl (hb hby at_141) k) ?_
    refine own_st (V := T83.setTop (mkF m 144 #[.val (.int p1), .val (.ref b49), .val (.int (8 : Int32)), .val (.ref (A 8)), .val (.int (0 : Int32))] [])) (fun t k => XS.istore X83.here hx rfl (hb hby at_142) rfl (l' := #[.val (.int p1), .val (.ref b49), .val (.int (8 : Int32)), .val (.ref (A 8)), .val (.int (0 : Int32))]) rfl k) ?_
    refine own_st (V := T83.setTop (mkF m 145 #[.val (.int p1), .val (.ref b49), .val (.int (8 : Int32)), .val (.ref (A 8)), .val (.int (0 : Int32))] [(.ref (A 8))])) (fun t k => XS.aloadN X83.here hx rfl (hb hby at_144) rfl rfl k) ?_
    obtain ⟨cq101, kq101, q101a, q101b, q101c⟩ := isOf hZ e83 (own_E En_83 8 (i := 8) (n := "EXCEPT") rfl)
    obtain ⟨_, _, ⟨T101, L101, k101, n101⟩, -, X101, ⟨Lc101, hQ101, l101, y101, z101⟩, st101⟩ := X83.virtualBack hx (y := (⟨"com/example/tempora/tempora/core/Terms$Role", "isNotePhrase", "()Z"⟩ : MethodName)) (z := (⟨"com/example/tempora/tempora/core/Terms$Role", "isNotePhrase", "()Z"⟩ : MethodName)) hown (mvT hZ (hw _ (List.mem_of_getElem? (i := 39) rfl))) (mvT hZ (hw _ (List.mem_of_getElem? (i := 40) rfl))) (notFace_of_selects (args := #[]) (mvT hZ (hw _ (List.mem_of_getElem? (i := 42) rfl)))) (mvT hZ (hw _ (List.mem_of_getElem? (i := 42) rfl))) (mvT hZ (hw _ (List.mem_of_getElem? (i := 41) rfl))) (by decide) (backOf (W := 0) (own_m8 l Z a0 hw [] A h83 n0 Z0_83 En_83 ) hZ (hw _ (List.mem_of_getElem? (i := 43) rfl)) (hw _ (List.mem_of_getElem? (i := 3) rfl)) (by decide) (by decide)) q101a q101c (g := (mkF m 145 #[.val (.int p1), .val (.ref b49), .val (.int (8 : Int32)), .val (.ref (A 8)), .val (.int (0 : Int32))] [(.ref (A 8))])) rfl (by rw [hml]; rfl) (Steps.refl _) (argsL := []) (rest := []) (lenOf own_pd0 rfl) rfl (by show 2 * 0 + _ ≤ _; exact Nat.le_of_eq rfl) (hb hby at_145) (fun _ _ => ⟨rfl, e83, (by decide : 1 + 0 ≤ _), (by decide : 17 + 0 ≤ _)⟩)
    dsimp only [Pt.U, Pt.locs, Pt.cells, Pt.slots] at X101 l101 y101 z101 st101 hQ101
    subst l101 y101 z101
    obtain ⟨rfl, N101q, e101⟩ := hQ101
    have N101 := Fr.app N83 N101q
    refine own_st (V := T101.setTop (mkF m 148 #[.val (.int p1), .val (.ref b49), .val (.int (8 : Int32)), .val (.ref (A 8)), .val (.int (0 : Int32))] [(.int (0 : Int32))])) (fun t k => st101.trans k) ?_
    refine own_st (V := T101.setTop (mkF m 150 #[.val (.int p1), .val (.ref b49), .val (.int (8 : Int32)), .val (.ref (A 8)), .val (.int (0 : Int32))] [(.int (0 : Int32)), (.int (0 : Int32))])) (fun t k => XS.iload X101.here hx rfl (hb hby at_148) rfl k) ?_
    refine own_st (V := T101.setTop (mkF m 153 #[.val (.int p1), .val (.ref b49), .val (.int (8 : Int32)), .val (.ref (A 8)), .val (.int (0 : Int32))] [])) (fun t k => XS.icmpNo X101.here hx rfl (hb hby at_150) rfl (teq (by decide : (0 : Int32) = (0 : Int32))).2 k) ?_
    refine own_st (V := T101.setTop (mkF m 154 #[.val (.int p1), .val (.ref b49), .val (.int (8 : Int32)), .val (.ref (A 8)), .val (.int (0 : Int32))] [(.int (1 : Int32))])) (fun t k => XS.iconst X101.here hx rfl (hb hby at_153) k) ?_
    refine own_st (V := T101.setTop (mkF m 158 #[.val (.int p1), .val (.ref b49), .val (.int (8 : Int32)), .val (.ref (A 8)), .val (.int (0 : Int32))] [(.int (1 : Int32))])) (fun t k => XS.goto X101.here hx rfl (pc0 := 154) (pc' := 158) rfl (hb hby at_154) (by decide) (by decide) k) ?_
    exact own_ret X101 hx hlk Bd.returns (by decide +kernel) (Or.inl ⟨rfl, by simp, _, rfl⟩) (hb hby at_158) (by decide) (by decide) ⟨rfl, N101⟩
  · rw [hs126]
    refine own_st (V := T83.setTop (mkF m 127 #[.val (.int p1), .val (.ref b49), .val (.int (9 : Int32)), .unset, .unset] [])) (fun t k => XS.istoreN X83.here hx rfl (hb hby at_126) rfl (l' := #[.val (.int p1), .val (.ref b49), .val (.int (9 : Int32)), .unset, .unset]) rfl k) ?_
    refine own_st (V := T83.setTop (mkF m 128 #[.val (.int p1), .val (.ref b49), .val (.int (9 : Int32)), .unset, .unset] [(.ref b49)])) (fun t k => XS.aloadN X83.here hx rfl (hb hby at_127) rfl rfl k) ?_
    refine own_st (V := T83.setTop (mkF m 129 #[.val (.int p1), .val (.ref b49), .val (.int (9 : Int32)), .unset, .unset] [(.int (9 : Int32)), (.ref b49)])) (fun t k => XS.iloadN X83.here hx rfl (hb hby at_128) rfl k) ?_
    have V_b49_102 := V_b49_83
    obtain ⟨cl102, Ar102, qk102, sz102, nn102, hs102, fs102⟩ := V_b49_83
    have hin102 : ¬ ((9 : Int32) < 0 ∨ cl102.slots.size ≤ ((9 : Int32)).toNatClampNeg) := inb_of sz102 ⟨by decide, by decide⟩
    refine own_st (V := T83.setTop (mkF m 130 #[.val (.int p1), .val (.ref b49), .val (.int (9 : Int32)), .unset, .unset] [(.ref (A 9))])) (fun t k => X83.aaload hx (j := (9 : Int32)) (v := (.ref (A 9))) (by rw [e83]; exact Ar102.1) (State.isArrayOf_alike hZ.alike Ar102.2.1) rfl Ar102.2.2 hin102 (Has.at hs102 hin102 rfl) (g := (mkF m 129 #[.val (.int p1), .val (.ref b49), .val (.int (9 : Int32)), .unset, .unset] [(.int (9 : Int32)), (.ref b49)])) rfl rfl (hb hby at_129) _ k) ?_
    refine own_st (V := T83.setTop (mkF m 131 #[.val (.int p1), .val (.ref b49), .val (.int (9 : Int32)), .val (.ref (A 9)), .unset] [])) (fun t k => XS.astoreN X83.here hx rfl (hb hby at_130) rfl rfl (l' := #[.val (.int p1), .val (.ref b49), .val (.int (9 : Int32)), .val (.ref (A 9)), .unset]) rfl k) ?_
    refine own_st (V := T83.setTop (mkF m 132 #[.val (.int p1), .val (.ref b49), .val (.int (9 : Int32)), .val (.ref (A 9)), .unset] [(.int (9 : Int32))])) (fun t k => XS.iloadN X83.here hx rfl (hb hby at_131) rfl k) ?_
    refine own_st (V := T83.setTop (mkF m 134 #[.val (.int p1), .val (.ref b49), .val (.int (9 : Int32)), .val (.ref (A 9)), .unset] [(.int (14 : Int32)), (.int (9 : Int32))])) (fun t k => XS.bipush X83.here hx rfl (hb hby at_132) k) ?_
    refine own_st (V := T83.setTop (mkF m 141 #[.val (.int p1), .val (.ref b49), .val (.int (9 : Int32)), .val (.ref (A 9)), .unset] [])) (fun t k => XS.icmpYes X83.here hx rfl (pc0 := 134) (pc' := 141) rfl (hb hby at_134) rfl (tlt (by decide : (9 : Int32) < (14 : Int32))).1 (by decide) (by decide) k) ?_
    refine own_st (V := T83.setTop (mkF m 142 #[.val (.int p1), .val (.ref b49), .val (.int (9 : Int32)), .val (.ref (A 9)), .unset] [(.int (0 : Int32))])) (fun t k => XS.iconst X83.here hx rfl (hb hby at_141) k) ?_
    refine own_st (V := T83.setTop (mkF m 144 #[.val (.int p1), .val (.ref b49), .val (.int (9 : Int32)), .val (.ref (A 9)), .val (.int (0 : Int32))] [])) (fun t k => XS.istore X83.here hx rfl (hb hby at_142) rfl (l' := #[.val (.int p1), .val (.ref b49), .val (.int (9 : Int32)), .val (.ref (A 9)), .val (.int (0 : Int32))]) rfl k) ?_
    refine own_st (V := T83.setTop (mkF m 145 #[.val (.int p1), .val (.ref b49), .val (.int (9 : Int32)), .val (.ref (A 9)), .val (.int (0 : Int32))] [(.ref (A 9))])) (fun t k => XS.aloadN X83.here hx rfl (hb hby at_144) rfl rfl k) ?_
    obtain ⟨cq103, kq103, q103a, q103b, q103c⟩ := isOf hZ e83 (own_E En_83 9 (i := 9) (n := "MONTH") rfl)
    obtain ⟨_, _, ⟨T103, L103, k103, n103⟩, -, X103, ⟨Lc103, hQ103, l103, y103, z103⟩, st103⟩ := X83.virtualBack hx (y := (⟨"com/example/tempora/tempora/core/Terms$Role", "isNotePhrase", "()Z"⟩ : MethodName)) (z := (⟨"com/example/tempora/tempora/core/Terms$Role", "isNotePhrase", "()Z"⟩ : MethodName)) hown (mvT hZ (hw _ (List.mem_of_getElem? (i := 39) rfl))) (mvT hZ (hw _ (List.mem_of_getElem? (i := 40) rfl))) (notFace_of_selects (args := #[]) (mvT hZ (hw _ (List.mem_of_getElem? (i := 42) rfl)))) (mvT hZ (hw _ (List.mem_of_getElem? (i := 42) rfl))) (mvT hZ (hw _ (List.mem_of_getElem? (i := 41) rfl))) (by decide) (backOf (W := 0) (own_m9 l Z a0 hw [] A h83 n0 Z0_83 En_83 ) hZ (hw _ (List.mem_of_getElem? (i := 43) rfl)) (hw _ (List.mem_of_getElem? (i := 3) rfl)) (by decide) (by decide)) q103a q103c (g := (mkF m 145 #[.val (.int p1), .val (.ref b49), .val (.int (9 : Int32)), .val (.ref (A 9)), .val (.int (0 : Int32))] [(.ref (A 9))])) rfl (by rw [hml]; rfl) (Steps.refl _) (argsL := []) (rest := []) (lenOf own_pd0 rfl) rfl (by show 2 * 0 + _ ≤ _; exact Nat.le_of_eq rfl) (hb hby at_145) (fun _ _ => ⟨rfl, e83, (by decide : 1 + 0 ≤ _), (by decide : 17 + 0 ≤ _)⟩)
    dsimp only [Pt.U, Pt.locs, Pt.cells, Pt.slots] at X103 l103 y103 z103 st103 hQ103
    subst l103 y103 z103
    obtain ⟨rfl, N103q, e103⟩ := hQ103
    have N103 := Fr.app N83 N103q
    refine own_st (V := T103.setTop (mkF m 148 #[.val (.int p1), .val (.ref b49), .val (.int (9 : Int32)), .val (.ref (A 9)), .val (.int (0 : Int32))] [(.int (0 : Int32))])) (fun t k => st103.trans k) ?_
    refine own_st (V := T103.setTop (mkF m 150 #[.val (.int p1), .val (.ref b49), .val (.int (9 : Int32)), .val (.ref (A 9)), .val (.int (0 : Int32))] [(.int (0 : Int32)), (.int (0 : Int32))])) (fun t k => XS.iload X103.here hx rfl (hb hby at_148) rfl k) ?_
    refine own_st (V := T103.setTop (mkF m 153 #[.val (.int p1), .val (.ref b49), .val (.int (9 : Int32)), .val (.ref (A 9)), .val (.int (0 : Int32))] [])) (fun t k => XS.icmpNo X103.here hx rfl (hb hby at_150) rfl (teq (by decide : (0 : Int32) = (0 : Int32))).2 k) ?_
    refine own_st (V := T103.setTop (mkF m 154 #[.val (.int p1), .val (.ref b49), .val (.int (9 : Int32)), .val (.ref (A 9)), .val (.int (0 : Int32))] [(.int (1 : Int32))])) (fun t k => XS.iconst X103.here hx rfl (hb hby at_153) k) ?_
    refine own_st (V := T103.setTop (mkF m 158 #[.val (.int p1), .val (.ref b49), .val (.int (9 : Int32)), .val (.ref (A 9)), .val (.int (0 : Int32))] [(.int (1 : Int32))])) (fun t k => XS.goto X103.here hx rfl (pc0 := 154) (pc' := 158) rfl (hb hby at_154) (by decide) (by decide) k) ?_
    exact own_ret X103 hx hlk Bd.returns (by decide +kernel) (Or.inl ⟨rfl, by simp, _, rfl⟩) (hb hby at_158) (by decide) (by decide) ⟨rfl, N103⟩
  · rw [hs126]
    refine own_st (V := T83.setTop (mkF m 127 #[.val (.int p1), .val (.ref b49), .val (.int (10 : Int32)), .unset, .unset] [])) (fun t k => XS.istoreN X83.here hx rfl (hb hby at_126) rfl (l' := #[.val (.int p1), .val (.ref b49), .val (.int (10 : Int32)), .unset, .unset]) rfl k) ?_
    refine own_st (V := T83.setTop (mkF m 128 #[.val (.int p1), .val (.ref b49), .val (.int (10 : Int32)), .unset, .unset] [(.ref b49)])) (fun t k => XS.aloadN X83.here hx rfl (hb hby at_127) rfl rfl k) ?_
    refine own_st (V := T83.setTop (mkF m 129 #[.val (.int p1), .val (.ref b49), .val (.int (10 : Int32)), .unset, .unset] [(.int (10 : Int32)), (.ref b49)])) (fun t k => XS.iloadN X83.here hx rfl (hb hby at_128) rfl k) ?_
    have V_b49_104 := V_b49_83
    obtain ⟨cl104, Ar104, qk104, sz104, nn104, hs104, fs104⟩ := V_b49_83
    have hin104 : ¬ ((10 : Int32) < 0 ∨ cl104.slots.size ≤ ((10 : Int32)).toNatClampNeg) := inb_of sz104 ⟨by decide, by decide⟩
    refine own_st (V := T83.setTop (mkF m 130 #[.val (.int p1), .val (.ref b49), .val (.int (10 : Int32)), .unset, .unset] [(.ref (A 10))])) (fun t k => X83.aaload hx (j := (10 : Int32)) (v := (.ref (A 10))) (by rw [e83]; exact Ar104.1) (State.isArrayOf_alike hZ.alike Ar104.2.1) rfl Ar104.2.2 hin104 (Has.at hs104 hin104 rfl) (g := (mkF m 129 #[.val (.int p1), .val (.ref b49), .val (.int (10 : Int32)), .unset, .unset] [(.int (10 : Int32)), (.ref b49)])) rfl rfl (hb hby at_129) _ k) ?_
    refine own_st (V := T83.setTop (mkF m 131 #[.val (.int p1), .val (.ref b49), .val (.int (10 : Int32)), .val (.ref (A 10)), .unset] [])) (fun t k => XS.astoreN X83.here hx rfl (hb hby at_130) rfl rfl (l' := #[.val (.int p1), .val (.ref b49), .val (.int (10 : Int32)), .val (.ref (A 10)), .unset]) rfl k) ?_
    refine own_st (V := T83.setTop (mkF m 132 #[.val (.int p1), .val (.ref b49), .val (.int (10 : Int32)), .val (.ref (A 10)), .unset] [(.int (10 : Int32))])) (fun t k => XS.iloadN X83.here hx rfl (hb hby at_131) rfl k) ?_
    refine own_st (V := T83.setTop (mkF m 134 #[.val (.int p1), .val (.ref b49), .val (.int (10 : Int32)), .val (.ref (A 10)), .unset] [(.int (14 : Int32)), (.int (10 : Int32))])) (fun t k => XS.bipush X83.here hx rfl (hb hby at_132) k) ?_
    refine own_st (V := T83.setTop (mkF m 141 #[.val (.int p1), .val (.ref b49), .val (.int (10 : Int32)), .val (.ref (A 10)), .unset] [])) (fun t k => XS.icmpYes X83.here hx rfl (pc0 := 134) (pc' := 141) rfl (hb hby at_134) rfl (tlt (by decide : (10 : Int32) < (14 : Int32))).1 (by decide) (by decide) k) ?_
    refine own_st (V := T83.setTop (mkF m 142 #[.val (.int p1), .val (.ref b49), .val (.int (10 : Int32)), .val (.ref (A 10)), .unset] [(.int (0 : Int32))])) (fun t k => XS.iconst X83.here hx rfl (hb hby at_141) k) ?_
    refine own_st (V := T83.setTop (mkF m 144 #[.val (.int p1), .val (.ref b49), .val (.int (10 : Int32)), .val (.ref (A 10)), .val (.int (0 : Int32))] [])) (fun t k => XS.istore X83.here hx rfl (hb hby at_142) rfl (l' := #[.val (.int p1), .val (.ref b49), .val (.int (10 : Int32)), .val (.ref (A 10)), .val (.int (0 : Int32))]) rfl k) ?_
    refine own_st (V := T83.setTop (mkF m 145 #[.val (.int p1), .val (.ref b49), .val (.int (10 : Int32)), .val (.ref (A 10)), .val (.int (0 : Int32))] [(.ref (A 10))])) (fun t k => XS.aloadN X83.here hx rfl (hb hby at_144) rfl rfl k) ?_
    obtain ⟨cq105, kq105, q105a, q105b, q105c⟩ := isOf hZ e83 (own_E En_83 10 (i := 10) (n := "SEASON") rfl)
    obtain ⟨_, _, ⟨T105, L105, k105, n105⟩, -, X105, ⟨Lc105, hQ105, l105, y105, z105⟩, st105⟩ := X83.virtualBack hx (y := (⟨"com/example/tempora/tempora/core/Terms$Role", "isNotePhrase", "()Z"⟩ : MethodName)) (z := (⟨"com/example/tempora/tempora/core/Terms$Role", "isNotePhrase", "()Z"⟩ : MethodName)) hown (mvT hZ (hw _ (List.mem_of_getElem? (i := 39) rfl))) (mvT hZ (hw _ (List.mem_of_getElem? (i := 40) rfl))) (notFace_of_selects (args := #[]) (mvT hZ (hw _ (List.mem_of_getElem? (i := 42) rfl)))) (mvT hZ (hw _ (List.mem_of_getElem? (i := 42) rfl))) (mvT hZ (hw _ (List.mem_of_getElem? (i := 41) rfl))) (by decide) (backOf (W := 0) (own_m10 l Z a0 hw [] A h83 n0 Z0_83 En_83 ) hZ (hw _ (List.mem_of_getElem? (i := 43) rfl)) (hw _ (List.mem_of_getElem? (i := 3) rfl)) (by decide) (by decide)) q105a q105c (g := (mkF m 145 #[.val (.int p1), .val (.ref b49), .val (.int (10 : Int32)), .val (.ref (A 10)), .val (.int (0 : Int32))] [(.ref (A 10))])) rfl (by rw [hml]; rfl) (Steps.refl _) (argsL := []) (rest := []) (lenOf own_pd0 rfl) rfl (by show 2 * 0 + _ ≤ _; exact Nat.le_of_eq rfl) (hb hby at_145) (fun _ _ => ⟨rfl, e83, (by decide : 1 + 0 ≤ _), (by decide : 17 + 0 ≤ _)⟩)
    dsimp only [Pt.U, Pt.locs, Pt.cells, Pt.slots] at X105 l105 y105 z105 st105 hQ105
    subst l105 y105 z105
    obtain ⟨rfl, N105q, e105⟩ := hQ105
    have N105 := Fr.app N83 N105q
    refine own_st (V := T105.setTop (mkF m 148 #[.val (.int p1), .val (.ref b49), .val (.int (10 : Int32)), .val (.ref (A 10)), .val (.int (0 : Int32))] [(.int (0 : Int32))])) (fun t k => st105.trans k) ?_
    refine own_st (V := T105.setTop (mkF m 150 #[.val (.int p1), .val (.ref b49), .val (.int (10 : Int32)), .val (.ref (A 10)), .val (.int (0 : Int32))] [(.int (0 : Int32)), (.int (0 : Int32))])) (fun t k => XS.iload X105.here hx rfl (hb hby at_148) rfl k) ?_
    refine own_st (V := T105.setTop (mkF m 153 #[.val (.int p1), .val (.ref b49), .val (.int (10 : Int32)), .val (.ref (A 10)), .val (.int (0 : Int32))] [])) (fun t k => XS.icmpNo X105.here hx rfl (hb hby at_150) rfl (teq (by decide : (0 : Int32) = (0 : Int32))).2 k) ?_
    refine own_st (V := T105.setTop (mkF m 154 #[.val (.int p1), .val (.ref b49), .val (.int (10 : Int32)), .val (.ref (A 10)), .val (.int (0 : Int32))] [(.int (1 : Int32))])) (fun t k => XS.iconst X105.here hx rfl (hb hby at_153) k) ?_
    refine own_st (V := T105.setTop (mkF m 158 #[.val (.int p1), .val (.ref b49), .val (.int (10 : Int32)), .val (.ref (A 10)), .val (.int (0 : Int32))] [(.int (1 : Int32))])) (fun t k => XS.goto X105.here hx rfl (pc0 := 154) (pc' := 158) rfl (hb hby at_154) (by decide) (by decide) k) ?_
    exact own_ret X105 hx hlk Bd.returns (by decide +kernel) (Or.inl ⟨rfl, by simp, _, rfl⟩) (hb hby at_158) (by decide) (by decide) ⟨rfl, N105⟩
  · rw [hs126]
    refine own_st (V := T83.setTop (mkF m 127 #[.val (.int p1), .val (.ref b49), .val (.int (11 : Int32)), .unset, .unset] [])) (fun t k => XS.istoreN X83.here hx rfl (hb hby at_126) rfl (l' := #[.val (.int p1), .val (.ref b49), .val (.int (11 : Int32)), .unset, .unset]) rfl k) ?_
    refine own_st (V := T83.setTop (mkF m 128 #[.val (.int p1), .val (.ref b49), .val (.int (11 : Int32)), .unset, .unset] [(.ref b49)])) (fun t k => XS.aloadN X83.here hx rfl (hb hby at_127) rfl rfl k) ?_
    refine own_st (V := T83.setTop (mkF m 129 #[.val (.int p1), .val (.ref b49), .val (.int (11 : Int32)), .unset, .unset] [(.int (11 : Int32)), (.ref b49)])) (fun t k => XS.iloadN X83.here hx rfl (hb hby at_128) rfl k) ?_
    have V_b49_106 := V_b49_83
    obtain ⟨cl106, Ar106, qk106, sz106, nn106, hs106, fs106⟩ := V_b49_83
    have hin106 : ¬ ((11 : Int32) < 0 ∨ cl106.slots.size ≤ ((11 : Int32)).toNatClampNeg) := inb_of sz106 ⟨by decide, by decide⟩
    refine own_st (V := T83.setTop (mkF m 130 #[.val (.int p1), .val (.ref b49), .val (.int (11 : Int32)), .unset, .unset] [(.ref (A 11))])) (fun t k => X83.aaload hx (j := (11 : Int32)) (v := (.ref (A 11))) (by rw [e83]; exact Ar106.1) (State.isArrayOf_alike hZ.alike Ar106.2.1) rfl Ar106.2.2 hin106 (Has.at hs106 hin106 rfl) (g := (mkF m 129 #[.val (.int p1), .val (.ref b49), .val (.int (11 : Int32)), .unset, .unset] [(.int (11 : Int32)), (.ref b49)])) rfl rfl (hb hby at_129) _ k) ?_
    refine own_st (V := T83.setTop (mkF m 131 #[.val (.int p1), .val (.ref b49), .val (.int (11 : Int32)), .val (.ref (A 11)), .unset] [])) (fun t k => XS.astoreN X83.here hx rfl (hb hby at_130) rfl rfl (l' := #[.val (.int p1), .val (.ref b49), .val (.int (11 : Int32)), .val (.ref (A 11)), .unset]) rfl k) ?_
    refine own_st (V := T83.setTop (mkF m 132 #[.val (.int p1), .val (.ref b49), .val (.int (11 : Int32)), .val (.ref (A 11)), .unset] [(.int (11 : Int32))])) (fun t k => XS.iloadN X83.here hx rfl (hb hby at_131) rfl k) ?_
    refine own_st (V := T83.setTop (mkF m 134 #[.val (.int p1), .val (.ref b49), .val (.int (11 : Int32)), .val (.ref (A 11)), .unset] [(.int (14 : Int32)), (.int (11 : Int32))])) (fun t k => XS.bipush X83.here hx rfl (hb hby at_132) k) ?_
    refine own_st (V := T83.setTop (mkF m 141 #[.val (.int p1), .val (.ref b49), .val (.int (11 : Int32)), .val (.ref (A 11)), .unset] [])) (fun t k => XS.icmpYes X83.here hx rfl (pc0 := 134) (pc' := 141) rfl (hb hby at_134) rfl (tlt (by decide : (11 : Int32) < (14 : Int32))).1 (by decide) (by decide) k) ?_
    refine own_st (V := T83.setTop (mkF m 142 #[.val (.int p1), .val (.ref b49), .val (.int (11 : Int32)), .val (.ref (A 11)), .unset] [(.int (0 : Int32))])) (fun t k => XS.iconst X83.here hx rfl (hb hby at_141) k) ?_
    refine own_st (V := T83.setTop (mkF m 144 #[.val (.int p1), .val (.ref b49), .val (.int (11 : Int32)), .val (.ref (A 11)), .val (.int (0 : Int32))] [])) (fun t k => XS.istore X83.here hx rfl (hb hby at_142) rfl (l' := #[.val (.int p1), .val (.ref b49), .val (.int (11 : Int32)), .val (.ref (A 11)), .val (.int (0 : Int32))]) rfl k) ?_
    refine own_st (V := T83.setTop (mkF m 145 #[.val (.int p1), .val (.ref b49), .val (.int (11 : Int32)), .val (.ref (A 11)), .val (.int (0 : Int32))] [(.ref (A 11))])) (fun t k => XS.aloadN X83.here hx rfl (hb hby at_144) rfl rfl k) ?_
    obtain ⟨cq107, kq107, q107a, q107b, q107c⟩ := isOf hZ e83 (own_E En_83 11 (i := 11) (n := "WITH") rfl)
    obtain ⟨_, _, ⟨T107, L107, k107, n107⟩, -, X107, ⟨Lc107, hQ107, l107, y107, z107⟩, st107⟩ := X83.virtualBack hx (y := (⟨"com/example/tempora/tempora/core/Terms$Role", "isNotePhrase", "()Z"⟩ : MethodName)) (z := (⟨"com/example/tempora/tempora/core/Terms$Role", "isNotePhrase", "()Z"⟩ : MethodName)) hown (mvT hZ (hw _ (List.mem_of_getElem? (i := 39) rfl))) (mvT hZ (hw _ (List.mem_of_getElem? (i := 40) rfl))) (notFace_of_selects (args := #[]) (mvT hZ (hw _ (List.mem_of_getElem? (i := 42) rfl)))) (mvT hZ (hw _ (List.mem_of_getElem? (i := 42) rfl))) (mvT hZ (hw _ (List.mem_of_getElem? (i := 41) rfl))) (by decide) (backOf (W := 0) (own_m11 l Z a0 hw [] A h83 n0 Z0_83 En_83 ) hZ (hw _ (List.mem_of_getElem? (i := 43) rfl)) (hw _ (List.mem_of_getElem? (i := 3) rfl)) (by decide) (by decide)) q107a q107c (g := (mkF m 145 #[.val (.int p1), .val (.ref b49), .val (.int (11 : Int32)), .val (.ref (A 11)), .val (.int (0 : Int32))] [(.ref (A 11))])) rfl (by rw [hml]; rfl) (Steps.refl _) (argsL := []) (rest := []) (lenOf own_pd0 rfl) rfl (by show 2 * 0 + _ ≤ _; exact Nat.le_of_eq rfl) (hb hby at_145) (fun _ _ => ⟨rfl, e83, (by decide : 1 + 0 ≤ _), (by decide : 17 + 0 ≤ _)⟩)
    dsimp only [Pt.U, Pt.locs, Pt.cells, Pt.slots] at X107 l107 y107 z107 st107 hQ107
    subst l107 y107 z107
    obtain ⟨rfl, N107q, e107⟩ := hQ107
    have N107 := Fr.app N83 N107q
    refine own_st (V := T107.setTop (mkF m 148 #[.val (.int p1), .val (.ref b49), .val (.int (11 : Int32)), .val (.ref (A 11)), .val (.int (0 : Int32))] [(.int (0 : Int32))])) (fun t k => st107.trans k) ?_
    refine own_st (V := T107.setTop (mkF m 150 #[.val (.int p1), .val (.ref b49), .val (.int (11 : Int32)), .val (.ref (A 11)), .val (.int (0 : Int32))] [(.int (0 : Int32)), (.int (0 : Int32))])) (fun t k => XS.iload X107.here hx rfl (hb hby at_148) rfl k) ?_
    refine own_st (V := T107.setTop (mkF m 153 #[.val (.int p1), .val (.ref b49), .val (.int (11 : Int32)), .val (.ref (A 11)), .val (.int (0 : Int32))] [])) (fun t k => XS.icmpNo X107.here hx rfl (hb hby at_150) rfl (teq (by decide : (0 : Int32) = (0 : Int32))).2 k) ?_
    refine own_st (V := T107.setTop (mkF m 154 #[.val (.int p1), .val (.ref b49), .val (.int (11 : Int32)), .val (.ref (A 11)), .val (.int (0 : Int32))] [(.int (1 : Int32))])) (fun t k => XS.iconst X107.here hx rfl (hb hby at_153) k) ?_
    refine own_st (V := T107.setTop (mkF m 158 #[.val (.int p1), .val (.ref b49), .val (.int (11 : Int32)), .val (.ref (A 11)), .val (.int (0 : Int32))] [(.int (1 : Int32))])) (fun t k => XS.goto X107.here hx rfl (pc0 := 154) (pc' := 158) rfl (hb hby at_154) (by decide) (by decide) k) ?_
    exact own_ret X107 hx hlk Bd.returns (by decide +kernel) (Or.inl ⟨rfl, by simp, _, rfl⟩) (hb hby at_158) (by decide) (by decide) ⟨rfl, N107⟩
  · rw [hs126]
    refine own_st (V := T83.setTop (mkF m 127 #[.val (.int p1), .val (.ref b49), .val (.int (12 : Int32)), .unset, .unset] [])) (fun t k => XS.istoreN X83.here hx rfl (hb hby at_126) rfl (l' := #[.val (.int p1), .val (.ref b49), .val (.int (12 : Int32)), .unset, .unset]) rfl k) ?_
    refine own_st (V := T83.setTop (mkF m 128 #[.val (.int p1), .val (.ref b49), .val (.int (12 : Int32)), .unset, .unset] [(.ref b49)])) (fun t k => XS.aloadN X83.here hx rfl (hb hby at_127) rfl rfl k) ?_
    refine own_st (V := T83.setTop (mkF m 129 #[.val (.int p1), .val (.ref b49), .val (.int (12 : Int32)), .unset, .unset] [(.int (12 : Int32)), (.ref b49)])) (fun t k => XS.iloadN X83.here hx rfl (hb hby at_128) rfl k) ?_
    have V_b49_108 := V_b49_83
    obtain ⟨cl108, Ar108, qk108, sz108, nn108, hs108, fs108⟩ := V_b49_83
    have hin108 : ¬ ((12 : Int32) < 0 ∨ cl108.slots.size ≤ ((12 : Int32)).toNatClampNeg) := inb_of sz108 ⟨by decide, by decide⟩
    refine own_st (V := T83.setTop (mkF m 130 #[.val (.int p1), .val (.ref b49), .val (.int (12 : Int32)), .unset, .unset] [(.ref (A 12))])) (fun t k => X83.aaload hx (j := (12 : Int32)) (v := (.ref (A 12))) (by rw [e83]; exact Ar108.1) (State.isArrayOf_alike hZ.alike Ar108.2.1) rfl Ar108.2.2 hin108 (Has.at hs108 hin108 rfl) (g := (mkF m 129 #[.val (.int p1), .val (.ref b49), .val (.int (12 : Int32)), .unset, .unset] [(.int (12 : Int32)), (.ref b49)])) rfl rfl (hb hby at_129) _ k) ?_
    refine own_st (V := T83.setTop (mkF m 131 #[.val (.int p1), .val (.ref b49), .val (.int (12 : Int32)), .val (.ref (A 12)), .unset] [])) (fun t k => XS.astoreN X83.here hx rfl (hb hby at_130) rfl rfl (l' := #[.val (.int p1), .val (.ref b49), .val (.int (12 : Int32)), .val (.ref (A 12)), .unset]) rfl k) ?_
    refine own_st (V := T83.setTop (mkF m 132 #[.val (.int p1), .val (.ref b49), .val (.int (12 : Int32)), .val (.ref (A 12)), .unset] [(.int (12 : Int32))])) (fun t k => XS.iloadN X83.here hx rfl (hb hby at_131) rfl k) ?_
    refine own_st (V := T83.setTop (mkF m 134 #[.val (.int p1), .val (.ref b49), .val (.int (12 : Int32)), .val (.ref (A 12)), .unset] [(.int (14 : Int32)), (.int (12 : Int32))])) (fun t k => XS.bipush X83.here hx rfl (hb hby at_132) k) ?_
    refine own_st (V := T83.setTop (mkF m 141 #[.val (.int p1), .val (.ref b49), .val (.int (12 : Int32)), .val (.ref (A 12)), .unset] [])) (fun t k => XS.icmpYes X83.here hx rfl (pc0 := 134) (pc' := 141) rfl (hb hby at_134) rfl (tlt (by decide : (12 : Int32) < (14 : Int32))).1 (by decide) (by decide) k) ?_
    refine own_st (V := T83.setTop (mkF m 142 #[.val (.int p1), .val (.ref b49), .val (.int (12 : Int32)), .val (.ref (A 12)), .unset] [(.int (0 : Int32))])) (fun t k => XS.iconst X83.here hx rfl (hb hby at_141) k) ?_
    refine own_st (V := T83.setTop (mkF m 144 #[.val (.int p1), .val (.ref b49), .val (.int (12 : Int32)), .val (.ref (A 12)), .val (.int (0 : Int32))] [])) (fun t k => XS.istore X83.here hx rfl (hb hby at_142) rfl (l' := #[.val (.int p1), .val (.ref b49), .val (.int (12 : Int32)), .val (.ref (A 12)), .val (.int (0 : Int32))]) rfl k) ?_
    refine own_st (V := T83.setTop (mkF m 145 #[.val (.int p1), .val (.ref b49), .val (.int (12 : Int32)), .val (.ref (A 12)), .val (.int (0 : Int32))] [(.ref (A 12))])) (fun t k => XS.aloadN X83.here hx rfl (hb hby at_144) rfl rfl k) ?_
    obtain ⟨cq109, kq109, q109a, q109b, q109c⟩ := isOf hZ e83 (own_E En_83 12 (i := 12) (n := "ADDED_ISSUE") rfl)
    obtain ⟨_, _, ⟨T109, L109, k109, n109⟩, -, X109, ⟨Lc109, hQ109, l109, y109, z109⟩, st109⟩ := X83.virtualBack hx (y := (⟨"com/example/tempora/tempora/core/Terms$Role", "isNotePhrase", "()Z"⟩ : MethodName)) (z := (⟨"com/example/tempora/tempora/core/Terms$Role", "isNotePhrase", "()Z"⟩ : MethodName)) hown (mvT hZ (hw _ (List.mem_of_getElem? (i := 39) rfl))) (mvT hZ (hw _ (List.mem_of_getElem? (i := 40) rfl))) (notFace_of_selects (args := #[]) (mvT hZ (hw _ (List.mem_of_getElem? (i := 42) rfl)))) (mvT hZ (hw _ (List.mem_of_getElem? (i := 42) rfl))) (mvT hZ (hw _ (List.mem_of_getElem? (i := 41) rfl))) (by decide) (backOf (W := 0) (own_m12 l Z a0 hw [] A h83 n0 Z0_83 En_83 ) hZ (hw _ (List.mem_of_getElem? (i := 43) rfl)) (hw _ (List.mem_of_getElem? (i := 3) rfl)) (by decide) (by decide)) q109a q109c (g := (mkF m 145 #[.val (.int p1), .val (.ref b49), .val (.int (12 : Int32)), .val (.ref (A 12)), .val (.int (0 : Int32))] [(.ref (A 12))])) rfl (by rw [hml]; rfl) (Steps.refl _) (argsL := []) (rest := []) (lenOf own_pd0 rfl) rfl (by show 2 * 0 + _ ≤ _; exact Nat.le_of_eq rfl) (hb hby at_145) (fun _ _ => ⟨rfl, e83, (by decide : 1 + 0 ≤ _), (by decide : 17 + 0 ≤ _)⟩)
    dsimp only [Pt.U, Pt.locs, Pt.cells, Pt.slots] at X109 l109 y109 z109 st109 hQ109
    subst l109 y109 z109
    obtain ⟨rfl, N109q, e109⟩ := hQ109
    have N109 := Fr.app N83 N109q
    refine own_st (V := T109.setTop (mkF m 148 #[.val (.int p1), .val (.ref b49), .val (.int (12 : Int32)), .val (.ref (A 12)), .val (.int (0 : Int32))] [(.int (0 : Int32))])) (fun t k => st109.trans k) ?_
    refine own_st (V := T109.setTop (mkF m 150 #[.val (.int p1), .val (.ref b49), .val (.int (12 : Int32)), .val (.ref (A 12)), .val (.int (0 : Int32))] [(.int (0 : Int32)), (.int (0 : Int32))])) (fun t k => XS.iload X109.here hx rfl (hb hby at_148) rfl k) ?_
    refine own_st (V := T109.setTop (mkF m 153 #[.val (.int p1), .val (.ref b49), .val (.int (12 : Int32)), .val (.ref (A 12)), .val (.int (0 : Int32))] [])) (fun t k => XS.icmpNo X109.here hx rfl (hb hby at_150) rfl (teq (by decide : (0 : Int32) = (0 : Int32))).2 k) ?_
    refine own_st (V := T109.setTop (mkF m 154 #[.val (.int p1), .val (.ref b49), .val (.int (12 : Int32)), .val (.ref (A 12)), .val (.int (0 : Int32))] [(.int (1 : Int32))])) (fun t k => XS.iconst X109.here hx rfl (hb hby at_153) k) ?_
    refine own_st (V := T109.setTop (mkF m 158 #[.val (.int p1), .val (.ref b49), .val (.int (12 : Int32)), .val (.ref (A 12)), .val (.int (0 : Int32))] [(.int (1 : Int32))])) (fun t k => XS.goto X109.here hx rfl (pc0 := 154) (pc' := 158) rfl (hb hby at_154) (by decide) (by decide) k) ?_
    exact own_ret X109 hx hlk Bd.returns (by decide +kernel) (Or.inl ⟨rfl, by simp, _, rfl⟩) (hb hby at_158) (by decide) (by decide) ⟨rfl, N109⟩
  · rw [hs126]
    refine own_st (V := T83.setTop (mkF m 127 #[.val (.int p1), .val (.ref b49), .val (.int (13 : Int32)), .unset, .unset] [])) (fun t k => XS.istoreN X83.here hx rfl (hb hby at_126) rfl (l' := #[.val (.int p1), .val (.ref b49), .val (.int (13 : Int32)), .unset, .unset]) rfl k) ?_
    refine own_st (V := T83.setTop (mkF m 128 #[.val (.int p1), .val (.ref b49), .val (.int (13 : Int32)), .unset, .unset] [(.ref b49)])) (fun t k => XS.aloadN X83.here hx rfl (hb hby at_127) rfl rfl k) ?_
    refine own_st (V := T83.setTop (mkF m 129 #[.val (.int p1), .val (.ref b49), .val (.int (13 : Int32)), .unset, .unset] [(.int (13 : Int32)), (.ref b49)])) (fun t k => XS.iloadN X83.here hx rfl (hb hby at_128) rfl k) ?_
    have V_b49_110 := V_b49_83
    obtain ⟨cl110, Ar110, qk110, sz110, nn110, hs110, fs110⟩ := V_b49_83
    have hin110 : ¬ ((13 : Int32) < 0 ∨ cl110.slots.size ≤ ((13 : Int32)).toNatClampNeg) := inb_of sz110 ⟨by decide, by decide⟩
    refine own_st (V := T83.setTop (mkF m 130 #[.val (.int p1), .val (.ref b49), .val (.int (13 : Int32)), .unset, .unset] [(.ref (A 13))])) (fun t k => X83.aaload hx (j := (13 : Int32)) (v := (.ref (A 13))) (by rw [e83]; exact Ar110.1) (State.isArrayOf_alike hZ.alike Ar110.2.1) rfl Ar110.2.2 hin110 (Has.at hs110 hin110 rfl) (g := (mkF m 129 #[.val (.int p1), .val (.ref b49), .val (.int (13 : Int32)), .unset, .unset] [(.int (13 : Int32)), (.ref b49)])) rfl rfl (hb hby at_129) _ k) ?_
    refine own_st (V := T83.setTop (mkF m 131 #[.val (.int p1), .val (.ref b49), .val (.int (13 : Int32)), .val (.ref (A 13)), .unset] [])) (fun t k => XS.astoreN X83.here hx rfl (hb hby at_130) rfl rfl (l' := #[.val (.int p1), .val (.ref b49), .val (.int (13 : Int32)), .val (.ref (A 13)), .unset]) rfl k) ?_
    refine own_st (V := T83.setTop (mkF m 132 #[.val (.int p1), .val (.ref b49), .val (.int (13 : Int32)), .val (.ref (A 13)), .unset] [(.int (13 : Int32))])) (fun t k => XS.iloadN X83.here hx rfl (hb hby at_131) rfl k) ?_
    refine own_st (V := T83.setTop (mkF m 134 #[.val (.int p1), .val (.ref b49), .val (.int (13 : Int32)), .val (.ref (A 13)), .unset] [(.int (14 : Int32)), (.int (13 : Int32))])) (fun t k => XS.bipush X83.here hx rfl (hb hby at_132) k) ?_
    refine own_st (V := T83.setTop (mkF m 141 #[.val (.int p1), .val (.ref b49), .val (.int (13 : Int32)), .val (.ref (A 13)), .unset] [])) (fun t k => XS.icmpYes X83.here hx rfl (pc0 := 134) (pc' := 141) rfl (hb hby at_134) rfl (tlt (by decide : (13 : Int32) < (14 : Int32))).1 (by decide) (by decide) k) ?_
    refine own_st (V := T83.setTop (mkF m 142 #[.val (.int p1), .val (.ref b49), .val (.int (13 : Int32)), .val (.ref (A 13)), .unset] [(.int (0 : Int32))])) (fun t k => XS.iconst X83.here hx rfl (hb hby at_141) k) ?_
    refine own_st (V := T83.setTop (mkF m 144 #[.val (.int p1), .val (.ref b49), .val (.int (13 : Int32)), .val (.ref (A 13)), .val (.int (0 : Int32))] [])) (fun t k => XS.istore X83.here hx rfl (hb hby at_142) rfl (l' := #[.val (.int p1), .val (.ref b49), .val (.int (13 : Int32)), .val (.ref (A 13)), .val (.int (0 : Int32))]) rfl k) ?_
    refine own_st (V := T83.setTop (mkF m 145 #[.val (.int p1), .val (.ref b49), .val (.int (13 : Int32)), .val (.ref (A 13)), .val (.int (0 : Int32))] [(.ref (A 13))])) (fun t k => XS.aloadN X83.here hx rfl (hb hby at_144) rfl rfl k) ?_
    obtain ⟨cq111, kq111, q111a, q111b, q111c⟩ := isOf hZ e83 (own_E En_83 13 (i := 13) (n := "INCLUDING") rfl)
    obtain ⟨_, _, ⟨T111, L111, k111, n111⟩, -, X111, ⟨Lc111, hQ111, l111, y111, z111⟩, st111⟩ := X83.virtualBack hx (y := (⟨"com/example/tempora/tempora/core/Terms$Role", "isNotePhrase", "()Z"⟩ : MethodName)) (z := (⟨"com/example/tempora/tempora/core/Terms$Role", "isNotePhrase", "()Z"⟩ : MethodName)) hown (mvT hZ (hw _ (List.mem_of_getElem? (i := 39) rfl))) (mvT hZ (hw _ (List.mem_of_getElem? (i := 40) rfl))) (notFace_of_selects (args := #[]) (mvT hZ (hw _ (List.mem_of_getElem? (i := 42) rfl)))) (mvT hZ (hw _ (List.mem_of_getElem? (i := 42) rfl))) (mvT hZ (hw _ (List.mem_of_getElem? (i := 41) rfl))) (by decide) (backOf (W := 0) (own_m13 l Z a0 hw [] A h83 n0 Z0_83 En_83 ) hZ (hw _ (List.mem_of_getElem? (i := 43) rfl)) (hw _ (List.mem_of_getElem? (i := 3) rfl)) (by decide) (by decide)) q111a q111c (g := (mkF m 145 #[.val (.int p1), .val (.ref b49), .val (.int (13 : Int32)), .val (.ref (A 13)), .val (.int (0 : Int32))] [(.ref (A 13))])) rfl (by rw [hml]; rfl) (Steps.refl _) (argsL := []) (rest := []) (lenOf own_pd0 rfl) rfl (by show 2 * 0 + _ ≤ _; exact Nat.le_of_eq rfl) (hb hby at_145) (fun _ _ => ⟨rfl, e83, (by decide : 1 + 0 ≤ _), (by decide : 17 + 0 ≤ _)⟩)
    dsimp only [Pt.U, Pt.locs, Pt.cells, Pt.slots] at X111 l111 y111 z111 st111 hQ111
    subst l111 y111 z111
    obtain ⟨rfl, N111q, e111⟩ := hQ111
    have N111 := Fr.app N83 N111q
    refine own_st (V := T111.setTop (mkF m 148 #[.val (.int p1), .val (.ref b49), .val (.int (13 : Int32)), .val (.ref (A 13)), .val (.int (0 : Int32))] [(.int (0 : Int32))])) (fun t k => st111.trans k) ?_
    refine own_st (V := T111.setTop (mkF m 150 #[.val (.int p1), .val (.ref b49), .val (.int (13 : Int32)), .val (.ref (A 13)), .val (.int (0 : Int32))] [(.int (0 : Int32)), (.int (0 : Int32))])) (fun t k => XS.iload X111.here hx rfl (hb hby at_148) rfl k) ?_
    refine own_st (V := T111.setTop (mkF m 153 #[.val (.int p1), .val (.ref b49), .val (.int (13 : Int32)), .val (.ref (A 13)), .val (.int (0 : Int32))] [])) (fun t k => XS.icmpNo X111.here hx rfl (hb hby at_150) rfl (teq (by decide : (0 : Int32) = (0 : Int32))).2 k) ?_
    refine own_st (V := T111.setTop (mkF m 154 #[.val (.int p1), .val (.ref b49), .val (.int (13 : Int32)), .val (.ref (A 13)), .val (.int (0 : Int32))] [(.int (1 : Int32))])) (fun t k => XS.iconst X111.here hx rfl (hb hby at_153) k) ?_
    refine own_st (V := T111.setTop (mkF m 158 #[.val (.int p1), .val (.ref b49), .val (.int (13 : Int32)), .val (.ref (A 13)), .val (.int (0 : Int32))] [(.int (1 : Int32))])) (fun t k => XS.goto X111.here hx rfl (pc0 := 154) (pc' := 158) rfl (hb hby at_154) (by decide) (by decide) k) ?_
    exact own_ret X111 hx hlk Bd.returns (by decide +kernel) (Or.inl ⟨rfl, by simp, _, rfl⟩) (hb hby at_158) (by decide) (by decide) ⟨rfl, N111⟩
  · rw [hs126]
    refine own_st (V := T83.setTop (mkF m 127 #[.val (.int p1), .val (.ref b49), .val (.int (14 : Int32)), .unset, .unset] [])) (fun t k => XS.istoreN X83.here hx rfl (hb hby at_126) rfl (l' := #[.val (.int p1), .val (.ref b49), .val (.int (14 : Int32)), .unset, .unset]) rfl k) ?_
    refine own_st (V := T83.setTop (mkF m 128 #[.val (.int p1), .val (.ref b49), .val (.int (14 : Int32)), .unset, .unset] [(.ref b49)])) (fun t k => XS.aloadN X83.here hx rfl (hb hby at_127) rfl rfl k) ?_
    refine own_st (V := T83.setTop (mkF m 129 #[.val (.int p1), .val (.ref b49), .val (.int (14 : Int32)), .unset, .unset] [(.int (14 : Int32)), (.ref b49)])) (fun t k => XS.iloadN X83.here hx rfl (hb hby at_128) rfl k) ?_
    have V_b49_112 := V_b49_83
    obtain ⟨cl112, Ar112, qk112, sz112, nn112, hs112, fs112⟩ := V_b49_83
    have hin112 : ¬ ((14 : Int32) < 0 ∨ cl112.slots.size ≤ ((14 : Int32)).toNatClampNeg) := inb_of sz112 ⟨by decide, by decide⟩
    refine own_st (V := T83.setTop (mkF m 130 #[.val (.int p1), .val (.ref b49), .val (.int (14 : Int32)), .unset, .unset] [(.ref (A 14))])) (fun t k => X83.aaload hx (j := (14 : Int32)) (v := (.ref (A 14))) (by rw [e83]; exact Ar112.1) (State.isArrayOf_alike hZ.alike Ar112.2.1) rfl Ar112.2.2 hin112 (Has.at hs112 hin112 rfl) (g := (mkF m 129 #[.val (.int p1), .val (.ref b49), .val (.int (14 : Int32)), .unset, .unset] [(.int (14 : Int32)), (.ref b49)])) rfl rfl (hb hby at_129) _ k) ?_
    refine own_st (V := T83.setTop (mkF m 131 #[.val (.int p1), .val (.ref b49), .val (.int (14 : Int32)), .val (.ref (A 14)), .unset] [])) (fun t k => XS.astoreN X83.here hx rfl (hb hby at_130) rfl rfl (l' := #[.val (.int p1), .val (.ref b49), .val (.int (14 : Int32)), .val (.ref (A 14)), .unset]) rfl k) ?_
    refine own_st (V := T83.setTop (mkF m 132 #[.val (.int p1), .val (.ref b49), .val (.int (14 : Int32)), .val (.ref (A 14)), .unset] [(.int (14 : Int32))])) (fun t k => XS.iloadN X83.here hx rfl (hb hby at_131) rfl k) ?_
    refine own_st (V := T83.setTop (mkF m 134 #[.val (.int p1), .val (.ref b49), .val (.int (14 : Int32)), .val (.ref (A 14)), .unset] [(.int (14 : Int32)), (.int (14 : Int32))])) (fun t k => XS.bipush X83.here hx rfl (hb hby at_132) k) ?_
    refine own_st (V := T83.setTop (mkF m 137 #[.val (.int p1), .val (.ref b49), .val (.int (14 : Int32)), .val (.ref (A 14)), .unset] [])) (fun t k => XS.icmpNo X83.here hx rfl (hb hby at_134) rfl (flt (by decide : ¬ ((14 : Int32) < (14 : Int32)))).1 k) ?_
    refine own_st (V := T83.setTop (mkF m 138 #[.val (.int p1), .val (.ref b49), .val (.int (14 : Int32)), .val (.ref (A 14)), .unset] [(.int (1 : Int32))])) (fun t k => XS.iconst X83.here hx rfl (hb hby at_137) k) ?_
    refine own_st (V := T83.setTop (mkF m 142 #[.val (.int p1), .val (.ref b49), .val (.int (14 : Int32)), .val (.ref (A 14)), .unset] [(.int (1 : Int32))])) (fun t k => XS.goto X83.here hx rfl (pc0 := 138) (pc' := 142) rfl (hb hby at_138) (by decide) (by decide) k) ?_
    refine own_st (V := T83.setTop (mkF m 144 #[.val (.int p1), .val (.ref b49), .val (.int (14 : Int32)), .val (.ref (A 14)), .val (.int (1 : Int32))] [])) (fun t k => XS.istore X83.here hx rfl (hb hby at_142) rfl (l' := #[.val (.int p1), .val (.ref b49), .val (.int (14 : Int32)), .val (.ref (A 14)), .val (.int (1 : Int32))]) rfl k) ?_
    refine own_st (V := T83.setTop (mkF m 145 #[.val (.int p1), .val (.ref b49), .val (.int (14 : Int32)), .val (.ref (A 14)), .val (.int (1 : Int32))] [(.ref (A 14))])) (fun t k => XS.aloadN X83.here hx rfl (hb hby at_144) rfl rfl k) ?_
    obtain ⟨cq113, kq113, q113a, q113b, q113c⟩ := isOf hZ e83 (own_E En_83 14 (i := 14) (n := "BEGAN") rfl)
    obtain ⟨_, _, ⟨T113, L113, k113, n113⟩, -, X113, ⟨Lc113, hQ113, l113, y113, z113⟩, st113⟩ := X83.virtualBack hx (y := (⟨"com/example/tempora/tempora/core/Terms$Role", "isNotePhrase", "()Z"⟩ : MethodName)) (z := (⟨"com/example/tempora/tempora/core/Terms$Role", "isNotePhrase", "()Z"⟩ : MethodName)) hown (mvT hZ (hw _ (List.mem_of_getElem? (i := 39) rfl))) (mvT hZ (hw _ (List.mem_of_getElem? (i := 40) rfl))) (notFace_of_selects (args := #[]) (mvT hZ (hw _ (List.mem_of_getElem? (i := 42) rfl)))) (mvT hZ (hw _ (List.mem_of_getElem? (i := 42) rfl))) (mvT hZ (hw _ (List.mem_of_getElem? (i := 41) rfl))) (by decide) (backOf (W := 0) (own_m14 l Z a0 hw [] A h83 n0 Z0_83 En_83 ) hZ (hw _ (List.mem_of_getElem? (i := 43) rfl)) (hw _ (List.mem_of_getElem? (i := 3) rfl)) (by decide) (by decide)) q113a q113c (g := (mkF m 145 #[.val (.int p1), .val (.ref b49), .val (.int (14 : Int32)), .val (.ref (A 14)), .val (.int (1 : Int32))] [(.ref (A 14))])) rfl (by rw [hml]; rfl) (Steps.refl _) (argsL := []) (rest := []) (lenOf own_pd0 rfl) rfl (by show 2 * 0 + _ ≤ _; exact Nat.le_of_eq rfl) (hb hby at_145) (fun _ _ => ⟨rfl, e83, (by decide : 1 + 0 ≤ _), (by decide : 17 + 0 ≤ _)⟩)
    dsimp only [Pt.U, Pt.locs, Pt.cells, Pt.slots] at X113 l113 y113 z113 st113 hQ113
    subst l113 y113 z113
    obtain ⟨rfl, N113q, e113⟩ := hQ113
    have N113 := Fr.app N83 N113q
    refine own_st (V := T113.setTop (mkF m 148 #[.val (.int p1), .val (.ref b49), .val (.int (14 : Int32)), .val (.ref (A 14)), .val (.int (1 : Int32))] [(.int (1 : Int32))])) (fun t k => st113.trans k) ?_
    refine own_st (V := T113.setTop (mkF m 150 #[.val (.int p1), .val (.ref b49), .val (.int (14 : Int32)), .val (.ref (A 14)), .val (.int (1 : Int32))] [(.int (1 : Int32)), (.int (1 : Int32))])) (fun t k => XS.iload X113.here hx rfl (hb hby at_148) rfl k) ?_
    refine own_st (V := T113.setTop (mkF m 153 #[.val (.int p1), .val (.ref b49), .val (.int (14 : Int32)), .val (.ref (A 14)), .val (.int (1 : Int32))] [])) (fun t k => XS.icmpNo X113.here hx rfl (hb hby at_150) rfl (teq (by decide : (1 : Int32) = (1 : Int32))).2 k) ?_
    refine own_st (V := T113.setTop (mkF m 154 #[.val (.int p1), .val (.ref b49), .val (.int (14 : Int32)), .val (.ref (A 14)), .val (.int (1 : Int32))] [(.int (1 : Int32))])) (fun t k => XS.iconst X113.here hx rfl (hb hby at_153) k) ?_
    refine own_st (V := T113.setTop (mkF m 158 #[.val (.int p1), .val (.ref b49), .val (.int (14 : Int32)), .val (.ref (A 14)), .val (.int (1 : Int32))] [(.int (1 : Int32))])) (fun t k => XS.goto X113.here hx rfl (pc0 := 154) (pc' := 158) rfl (hb hby at_154) (by decide) (by decide) k) ?_
    exact own_ret X113 hx hlk Bd.returns (by decide +kernel) (Or.inl ⟨rfl, by simp, _, rfl⟩) (hb hby at_158) (by decide) (by decide) ⟨rfl, N113⟩
  · rw [hs126]
    refine own_st (V := T83.setTop (mkF m 127 #[.val (.int p1), .val (.ref b49), .val (.int (15 : Int32)), .unset, .unset] [])) (fun t k => XS.istoreN X83.here hx rfl (hb hby at_126) rfl (l' := #[.val (.int p1), .val (.ref b49), .val (.int (15 : Int32)), .unset, .unset]) rfl k) ?_
    refine own_st (V := T83.setTop (mkF m 128 #[.val (.int p1), .val (.ref b49), .val (.int (15 : Int32)), .unset, .unset] [(.ref b49)])) (fun t k => XS.aloadN X83.here hx rfl (hb hby at_127) rfl rfl k) ?_
    refine own_st (V := T83.setTop (mkF m 129 #[.val (.int p1), .val (.ref b49), .val (.int (15 : Int32)), .unset, .unset] [(.int (15 : Int32)), (.ref b49)])) (fun t k => XS.iloadN X83.here hx rfl (hb hby at_128) rfl k) ?_
    have V_b49_114 := V_b49_83
    obtain ⟨cl114, Ar114, qk114, sz114, nn114, hs114, fs114⟩ := V_b49_83
    have hin114 : ¬ ((15 : Int32) < 0 ∨ cl114.slots.size ≤ ((15 : Int32)).toNatClampNeg) := inb_of sz114 ⟨by decide, by decide⟩
    refine own_st (V := T83.setTop (mkF m 130 #[.val (.int p1), .val (.ref b49), .val (.int (15 : Int32)), .unset, .unset] [(.ref (A 15))])) (fun t k => X83.aaload hx (j := (15 : Int32)) (v := (.ref (A 15))) (by rw [e83]; exact Ar114.1) (State.isArrayOf_alike hZ.alike Ar114.2.1) rfl Ar114.2.2 hin114 (Has.at hs114 hin114 rfl) (g := (mkF m 129 #[.val (.int p1), .val (.ref b49), .val (.int (15 : Int32)), .unset, .unset] [(.int (15 : Int32)), (.ref b49)])) rfl rfl (hb hby at_129) _ k) ?_
    refine own_st (V := T83.setTop (mkF m 131 #[.val (.int p1), .val (.ref b49), .val (.int (15 : Int32)), .val (.ref (A 15)), .unset] [])) (fun t k => XS.astoreN X83.here hx rfl (hb hby at_130) rfl rfl (l' := #[.val (.int p1), .val (.ref b49), .val (.int (15 : Int32)), .val (.ref (A 15)), .unset]) rfl k) ?_
    refine own_st (V := T83.setTop (mkF m 132 #[.val (.int p1), .val (.ref b49), .val (.int (15 : Int32)), .val (.ref (A 15)), .unset] [(.int (15 : Int32))])) (fun t k => XS.iloadN X83.here hx rfl (hb hby at_131) rfl k) ?_
    refine own_st (V := T83.setTop (mkF m 134 #[.val (.int p1), .val (.ref b49), .val (.int (15 : Int32)), .val (.ref (A 15)), .unset] [(.int (14 : Int32)), (.int (15 : Int32))])) (fun t k => XS.bipush X83.here hx rfl (hb hby at_132) k) ?_
    refine own_st (V := T83.setTop (mkF m 137 #[.val (.int p1), .val (.ref b49), .val (.int (15 : Int32)), .val (.ref (A 15)), .unset] [])) (fun t k => XS.icmpNo X83.here hx rfl (hb hby at_134) rfl (flt (by decide : ¬ ((15 : Int32) < (14 : Int32)))).1 k) ?_
    refine own_st (V := T83.setTop (mkF m 138 #[.val (.int p1), .val (.ref b49), .val (.int (15 : Int32)), .val (.ref (A 15)), .unset] [(.int (1 : Int32))])) (fun t k => XS.iconst X83.here hx rfl (hb hby at_137) k) ?_
    refine own_st (V := T83.setTop (mkF m 142 #[.val (.int p1), .val (.ref b49), .val (.int (15 : Int32)), .val (.ref (A 15)), .unset] [(.int (1 : Int32))])) (fun t k => XS.goto X83.here hx rfl (pc0 := 138) (pc' := 142) rfl (hb hby at_138) (by decide) (by decide) k) ?_
    refine own_st (V := T83.setTop (mkF m 144 #[.val (.int p1), .val (.ref b49), .val (.int (15 : Int32)), .val (.ref (A 15)), .val (.int (1 : Int32))] [])) (fun t k => XS.istore X83.here hx rfl (hb hby at_142) rfl (l' := #[.val (.int p1), .val (.ref b49), .val (.int (15 : Int32)), .val (.ref (A 15)), .val (.int (1 : Int32))]) rfl k) ?_
    refine own_st (V := T83.setTop (mkF m 145 #[.val (.int p1), .val (.ref b49), .val (.int (15 : Int32)), .val (.ref (A 15)), .val (.int (1 : Int32))] [(.ref (A 15))])) (fun t k => XS.aloadN X83.here hx rfl (hb hby at_144) rfl rfl k) ?_
    obtain ⟨cq115, kq115, q115a, q115b, q115c⟩ := isOf hZ e83 (own_E En_83 15 (i := 15) (n := "CEASED") rfl)
    obtain ⟨_, _, ⟨T115, L115, k115, n115⟩, -, X115, ⟨Lc115, hQ115, l115, y115, z115⟩, st115⟩ := X83.virtualBack hx (y := (⟨"com/example/tempora/tempora/core/Terms$Role", "isNotePhrase", "()Z"⟩ : MethodName)) (z := (⟨"com/example/tempora/tempora/core/Terms$Role", "isNotePhrase", "()Z"⟩ : MethodName)) hown (mvT hZ (hw _ (List.mem_of_getElem? (i := 39) rfl))) (mvT hZ (hw _ (List.mem_of_getElem? (i := 40) rfl))) (notFace_of_selects (args := #[]) (mvT hZ (hw _ (List.mem_of_getElem? (i := 42) rfl)))) (mvT hZ (hw _ (List.mem_of_getElem? (i := 42) rfl))) (mvT hZ (hw _ (List.mem_of_getElem? (i := 41) rfl))) (by decide) (backOf (W := 0) (own_m15 l Z a0 hw [] A h83 n0 Z0_83 En_83 ) hZ (hw _ (List.mem_of_getElem? (i := 43) rfl)) (hw _ (List.mem_of_getElem? (i := 3) rfl)) (by decide) (by decide)) q115a q115c (g := (mkF m 145 #[.val (.int p1), .val (.ref b49), .val (.int (15 : Int32)), .val (.ref (A 15)), .val (.int (1 : Int32))] [(.ref (A 15))])) rfl (by rw [hml]; rfl) (Steps.refl _) (argsL := []) (rest := []) (lenOf own_pd0 rfl) rfl (by show 2 * 0 + _ ≤ _; exact Nat.le_of_eq rfl) (hb hby at_145) (fun _ _ => ⟨rfl, e83, (by decide : 1 + 0 ≤ _), (by decide : 17 + 0 ≤ _)⟩)
    dsimp only [Pt.U, Pt.locs, Pt.cells, Pt.slots] at X115 l115 y115 z115 st115 hQ115
    subst l115 y115 z115
    obtain ⟨rfl, N115q, e115⟩ := hQ115
    have N115 := Fr.app N83 N115q
    refine own_st (V := T115.setTop (mkF m 148 #[.val (.int p1), .val (.ref b49), .val (.int (15 : Int32)), .val (.ref (A 15)), .val (.int (1 : Int32))] [(.int (1 : Int32))])) (fun t k => st115.trans k) ?_
    refine own_st (V := T115.setTop (mkF m 150 #[.val (.int p1), .val (.ref b49), .val (.int (15 : Int32)), .val (.ref (A 15)), .val (.int (1 : Int32))] [(.int (1 : Int32)), (.int (1 : Int32))])) (fun t k => XS.iload X115.here hx rfl (hb hby at_148) rfl k) ?_
    refine own_st (V := T115.setTop (mkF m 153 #[.val (.int p1), .val (.ref b49), .val (.int (15 : Int32)), .val (.ref (A 15)), .val (.int (1 : Int32))] [])) (fun t k => XS.icmpNo X115.here hx rfl (hb hby at_150) rfl (teq (by decide : (1 : Int32) = (1 : Int32))).2 k) ?_
    refine own_st (V := T115.setTop (mkF m 154 #[.val (.int p1), .val (.ref b49), .val (.int (15 : Int32)), .val (.ref (A 15)), .val (.int (1 : Int32))] [(.int (1 : Int32))])) (fun t k => XS.iconst X115.here hx rfl (hb hby at_153) k) ?_
    refine own_st (V := T115.setTop (mkF m 158 #[.val (.int p1), .val (.ref b49), .val (.int (15 : Int32)), .val (.ref (A 15)), .val (.int (1 : Int32))] [(.int (1 : Int32))])) (fun t k => XS.goto X115.here hx rfl (pc0 := 154) (pc' := 158) rfl (hb hby at_154) (by decide) (by decide) k) ?_
    exact own_ret X115 hx hlk Bd.returns (by decide +kernel) (Or.inl ⟨rfl, by simp, _, rfl⟩) (hb hby at_158) (by decide) (by decide) ⟨rfl, N115⟩
  · rw [hs126]
    refine own_st (V := T83.setTop (mkF m 127 #[.val (.int p1), .val (.ref b49), .val (.int (16 : Int32)), .unset, .unset] [])) (fun t k => XS.istoreN X83.here hx rfl (hb hby at_126) rfl (l' := #[.val (.int p1), .val (.ref b49), .val (.int (16 : Int32)), .unset, .unset]) rfl k) ?_
    refine own_st (V := T83.setTop (mkF m 128 #[.val (.int p1), .val (.ref b49), .val (.int (16 : Int32)), .unset, .unset] [(.ref b49)])) (fun t k => XS.aloadN X83.here hx rfl (hb hby at_127) rfl rfl k) ?_
    refine own_st (V := T83.setTop (mkF m 129 #[.val (.int p1), .val (.ref b49), .val (.int (16 : Int32)), .unset, .unset] [(.int (16 : Int32)), (.ref b49)])) (fun t k => XS.iloadN X83.here hx rfl (hb hby at_128) rfl k) ?_
    have V_b49_116 := V_b49_83
    obtain ⟨cl116, Ar116, qk116, sz116, nn116, hs116, fs116⟩ := V_b49_83
    have hin116 : ¬ ((16 : Int32) < 0 ∨ cl116.slots.size ≤ ((16 : Int32)).toNatClampNeg) := inb_of sz116 ⟨by decide, by decide⟩
    refine own_st (V := T83.setTop (mkF m 130 #[.val (.int p1), .val (.ref b49), .val (.int (16 : Int32)), .unset, .unset] [(.ref (A 16))])) (fun t k => X83.aaload hx (j := (16 : Int32)) (v := (.ref (A 16))) (by rw [e83]; exact Ar116.1) (State.isArrayOf_alike hZ.alike Ar116.2.1) rfl Ar116.2.2 hin116 (Has.at hs116 hin116 rfl) (g := (mkF m 129 #[.val (.int p1), .val (.ref b49), .val (.int (16 : Int32)), .unset, .unset] [(.int (16 : Int32)), (.ref b49)])) rfl rfl (hb hby at_129) _ k) ?_
    refine own_st (V := T83.setTop (mkF m 131 #[.val (.int p1), .val (.ref b49), .val (.int (16 : Int32)), .val (.ref (A 16)), .unset] [])) (fun t k => XS.astoreN X83.here hx rfl (hb hby at_130) rfl rfl (l' := #[.val (.int p1), .val (.ref b49), .val (.int (16 : Int32)), .val (.ref (A 16)), .unset]) rfl k) ?_
    refine own_st (V := T83.setTop (mkF m 132 #[.val (.int p1), .val (.ref b49), .val (.int (16 : Int32)), .val (.ref (A 16)), .unset] [(.int (16 : Int32))])) (fun t k => XS.iloadN X83.here hx rfl (hb hby at_131) rfl k) ?_
    refine own_st (V := T83.setTop (mkF m 134 #[.val (.int p1), .val (.ref b49), .val (.int (16 : Int32)), .val (.ref (A 16)), .unset] [(.int (14 : Int32)), (.int (16 : Int32))])) (fun t k => XS.bipush X83.here hx rfl (hb hby at_132) k) ?_
    refine own_st (V := T83.setTop (mkF m 137 #[.val (.int p1), .val (.ref b49), .val (.int (16 : Int32)), .val (.ref (A 16)), .unset] [])) (fun t k => XS.icmpNo X83.here hx rfl (hb hby at_134) rfl (flt (by decide : ¬ ((16 : Int32) < (14 : Int32)))).1 k) ?_
    refine own_st (V := T83.setTop (mkF m 138 #[.val (.int p1), .val (.ref b49), .val (.int (16 : Int32)), .val (.ref (A 16)), .unset] [(.int (1 : Int32))])) (fun t k => XS.iconst X83.here hx rfl (hb hby at_137) k) ?_
    refine own_st (V := T83.setTop (mkF m 142 #[.val (.int p1), .val (.ref b49), .val (.int (16 : Int32)), .val (.ref (A 16)), .unset] [(.int (1 : Int32))])) (fun t k => XS.goto X83.here hx rfl (pc0 := 138) (pc' := 142) rfl (hb hby at_138) (by decide) (by decide) k) ?_
    refine own_st (V := T83.setTop (mkF m 144 #[.val (.int p1), .val (.ref b49), .val (.int (16 : Int32)), .val (.ref (A 16)), .val (.int (1 : Int32))] [])) (fun t k => XS.istore X83.here hx rfl (hb hby at_142) rfl (l' := #[.val (.int p1), .val (.ref b49), .val (.int (16 : Int32)), .val (.ref (A 16)), .val (.int (1 : Int32))]) rfl k) ?_
    refine own_st (V := T83.setTop (mkF m 145 #[.val (.int p1), .val (.ref b49), .val (.int (16 : Int32)), .val (.ref (A 16)), .val (.int (1 : Int32))] [(.ref (A 16))])) (fun t k => XS.aloadN X83.here hx rfl (hb hby at_144) rfl rfl k) ?_
    obtain ⟨cq117, kq117, q117a, q117b, q117c⟩ := isOf hZ e83 (own_E En_83 16 (i := 16) (n := "BEGAN_AND_CEASED") rfl)
    obtain ⟨_, _, ⟨T117, L117, k117, n117⟩, -, X117, ⟨Lc117, hQ117, l117, y117, z117⟩, st117⟩ := X83.virtualBack hx (y := (⟨"com/example/tempora/tempora/core/Terms$Role", "isNotePhrase", "()Z"⟩ : MethodName)) (z := (⟨"com/example/tempora/tempora/core/Terms$Role", "isNotePhrase", "()Z"⟩ : MethodName)) hown (mvT hZ (hw _ (List.mem_of_getElem? (i := 39) rfl))) (mvT hZ (hw _ (List.mem_of_getElem? (i := 40) rfl))) (notFace_of_selects (args := #[]) (mvT hZ (hw _ (List.mem_of_getElem? (i := 42) rfl)))) (mvT hZ (hw _ (List.mem_of_getElem? (i := 42) rfl))) (mvT hZ (hw _ (List.mem_of_getElem? (i := 41) rfl))) (by decide) (backOf (W := 0) (own_m16 l Z a0 hw [] A h83 n0 Z0_83 En_83 ) hZ (hw _ (List.mem_of_getElem? (i := 43) rfl)) (hw _ (List.mem_of_getElem? (i := 3) rfl)) (by decide) (by decide)) q117a q117c (g := (mkF m 145 #[.val (.int p1), .val (.ref b49), .val (.int (16 : Int32)), .val (.ref (A 16)), .val (.int (1 : Int32))] [(.ref (A 16))])) rfl (by rw [hml]; rfl) (Steps.refl _) (argsL := []) (rest := []) (lenOf own_pd0 rfl) rfl (by show 2 * 0 + _ ≤ _; exact Nat.le_of_eq rfl) (hb hby at_145) (fun _ _ => ⟨rfl, e83, (by decide : 1 + 0 ≤ _), (by decide : 17 + 0 ≤ _)⟩)
    dsimp only [Pt.U, Pt.locs, Pt.cells, Pt.slots] at X117 l117 y117 z117 st117 hQ117
    subst l117 y117 z117
    obtain ⟨rfl, N117q, e117⟩ := hQ117
    have N117 := Fr.app N83 N117q
    refine own_st (V := T117.setTop (mkF m 148 #[.val (.int p1), .val (.ref b49), .val (.int (16 : Int32)), .val (.ref (A 16)), .val (.int (1 : Int32))] [(.int (1 : Int32))])) (fun t k => st117.trans k) ?_
    refine own_st (V := T117.setTop (mkF m 150 #[.val (.int p1), .val (.ref b49), .val (.int (16 : Int32)), .val (.ref (A 16)), .val (.int (1 : Int32))] [(.int (1 : Int32)), (.int (1 : Int32))])) (fun t k => XS.iload X117.here hx rfl (hb hby at_148) rfl k) ?_
    refine own_st (V := T117.setTop (mkF m 153 #[.val (.int p1), .val (.ref b49), .val (.int (16 : Int32)), .val (.ref (A 16)), .val (.int (1 : Int32))] [])) (fun t k => XS.icmpNo X117.here hx rfl (hb hby at_150) rfl (teq (by decide : (1 : Int32) = (1 : Int32))).2 k) ?_
    refine own_st (V := T117.setTop (mkF m 154 #[.val (.int p1), .val (.ref b49), .val (.int (16 : Int32)), .val (.ref (A 16)), .val (.int (1 : Int32))] [(.int (1 : Int32))])) (fun t k => XS.iconst X117.here hx rfl (hb hby at_153) k) ?_
    refine own_st (V := T117.setTop (mkF m 158 #[.val (.int p1), .val (.ref b49), .val (.int (16 : Int32)), .val (.ref (A 16)), .val (.int (1 : Int32))] [(.int (1 : Int32))])) (fun t k => XS.goto X117.here hx rfl (pc0 := 154) (pc' := 158) rfl (hb hby at_154) (by decide) (by decide) k) ?_
    exact own_ret X117 hx hlk Bd.returns (by decide +kernel) (Or.inl ⟨rfl, by simp, _, rfl⟩) (hb hby at_158) (by decide) (by decide) ⟨rfl, N117⟩
theorem own_law (l : Launch) (Z : State) (a0 : Array Value) (hw : ∀ d ∈ tables_1, d.before a0 Z = true) (ws : List Jvm.Cond) (p1 : Int32) (A : Nat → Addr) (h0 : Heap) (n0 : Nat) (Z0 : n0 ≤ h0.size) (En : own_En Z h0 A) :
    MetFree l x (head1 (Jvm.Cond.code x code maxLocals ret :: ws) room_1) (fun a U => a = #[(.int p1)] ∧ Z.Warmed39 U.vm ∧ U.heap = h0) (fun _ _ _ _ _ => True) (fun _ U o U' => ∃ v L, o = .returned v ∧ own_Q0 Z p1 A h0 n0 v U'.heap L ∧ FrameEnd U o U' L room_1.cells room_1.slots) := by
  exact own_law0 l Z a0 hw ws p1 A h0 n0 Z0 En
set_option maxRecDepth 65536 in
set_option maxHeartbeats 40000000 in
theorem comes_1 {Post : Tables → Env → Array Value → State → Outcome → State → Prop} (hpost : ∀ tb e args s v u, (limb_1_1.after args s (.returned v) u = true ∧ limb_1_2.after args s (.returned v) u = true ∧ True) → FrameEnd s (.returned v) u (Jvm.fieldLocs frame_1_writes args s ++ Jvm.arrayLocs frame_1_arrays args s ++ Jvm.staticLocs frame_1_statics s) 16 128 → Post tb e args s (.returned v) u) :
    ArmFor flags0 classFile x code maxLocals ret World_1 tables_1 room_1 Calls_1 rest_1 Pre_1 Post := by
  intro l hfl _ _ p e ha hc hk s m args below hf hA hF happ hP
  obtain ⟨hcalls, hrest, hpre⟩ := hP
  obtain ⟨-, -, -, hnamed, -, -, -, hat⟩ := (Spec.applies_iff hf).mp happ
  obtain ⟨hg, hn⟩ := and_e (Cond.before_iff.mp (show (Jvm.Cond.and given_1 narrow_1).before args s = true from hpre))
  obtain ⟨g0, g1⟩ := and_e hg
  obtain ⟨w0, rfl⟩ : ∃ w0 : Value, args = #[w0] := by
    have hs : args.size = 1 := by simpa [Cond.value, given_1] using g0
    obtain ⟨L⟩ := args
    match L, hs with
    | [w0], _ => exact ⟨w0, rfl⟩
  have hw := fun d (hd : d ∈ tables_1) => atoms_spec (ws := Jvm.Cond.code x code maxLocals ret :: tables_1) hat d (List.mem_cons_of_mem _ hd)
  have hfit : Fit s := fun {y c} hc i hi => by
    obtain ⟨ha, rfl⟩ := Array.getElem?_eq_some_iff.mp hc
    have q := List.all_eq_true.mp ((Array.all_eq_true_iff_forall_mem.mp hF) _ (Array.getElem_mem ha)) i (List.mem_range.mpr hi)
    simpa [Array.getElem?_eq_getElem hi] using q
  obtain ⟨i0, ei0⟩ := is_v g1
  obtain rfl : w0 = (.int i0) := Option.some.inj ei0
  obtain ⟨nz0, nr0⟩ := and_e hn
  obtain ⟨nz1, nr1⟩ := and_e nr0
  obtain ⟨nz2, nr2⟩ := and_e nr1
  obtain ⟨nz3, nr3⟩ := and_e nr2
  obtain ⟨nz4, nr4⟩ := and_e nr3
  obtain ⟨nz5, nr5⟩ := and_e nr4
  obtain ⟨nz6, nr6⟩ := and_e nr5
  obtain ⟨nz7, nr7⟩ := and_e nr6
  obtain ⟨nz8, nr8⟩ := and_e nr7
  obtain ⟨nz9, nr9⟩ := and_e nr8
  obtain ⟨nz10, nr10⟩ := and_e nr9
  obtain ⟨nz11, nr11⟩ := and_e nr10
  obtain ⟨nz12, nr12⟩ := and_e nr11
  obtain ⟨nz13, nr13⟩ := and_e nr12
  obtain ⟨nz14, nr14⟩ := and_e nr13
  obtain ⟨nz15, nr15⟩ := and_e nr14
  obtain ⟨nz16, nr16⟩ := and_e nr15
  obtain ⟨nz17, nr17⟩ := and_e nr16
  obtain ⟨nz18, nr18⟩ := and_e nr17
  obtain ⟨nz19, nr19⟩ := and_e nr18
  obtain ⟨nz20, nr20⟩ := and_e nr19
  obtain ⟨nz21, nr21⟩ := and_e nr20
  obtain ⟨nz22, nr22⟩ := and_e nr21
  obtain ⟨nz23, nr23⟩ := and_e nr22
  obtain ⟨nz24, nr24⟩ := and_e nr23
  obtain ⟨nz25, nr25⟩ := and_e nr24
  obtain ⟨nz26, nr26⟩ := and_e nr25
  obtain ⟨nz27, nr27⟩ := and_e nr26
  obtain ⟨nz28, nr28⟩ := and_e nr27
  obtain ⟨nz29, nr29⟩ := and_e nr28
  obtain ⟨nz30, nr30⟩ := and_e nr29
  obtain ⟨nz31, nr31⟩ := and_e nr30
  obtain ⟨nz32, nr32⟩ := and_e nr31
  have nz33 := nr32
  obtain ⟨a0, S0, E0, v0⟩ := own_sta nz0 (hw _ (List.mem_of_getElem? (i := 3) rfl)) (hw _ (List.mem_of_getElem? (i := 4) rfl))
  obtain ⟨a1, S1, E1, v1⟩ := own_sta nz1 (hw _ (List.mem_of_getElem? (i := 3) rfl)) (hw _ (List.mem_of_getElem? (i := 7) rfl))
  obtain ⟨a2, S2, E2, v2⟩ := own_sta nz2 (hw _ (List.mem_of_getElem? (i := 3) rfl)) (hw _ (List.mem_of_getElem? (i := 9) rfl))
  obtain ⟨a3, S3, E3, v3⟩ := own_sta nz3 (hw _ (List.mem_of_getElem? (i := 3) rfl)) (hw _ (List.mem_of_getElem? (i := 11) rfl))
  obtain ⟨a4, S4, E4, v4⟩ := own_sta nz4 (hw _ (List.mem_of_getElem? (i := 3) rfl)) (hw _ (List.mem_of_getElem? (i := 13) rfl))
  obtain ⟨a5, S5, E5, v5⟩ := own_sta nz5 (hw _ (List.mem_of_getElem? (i := 3) rfl)) (hw _ (List.mem_of_getElem? (i := 15) rfl))
  obtain ⟨a6, S6, E6, v6⟩ := own_sta nz6 (hw _ (List.mem_of_getElem? (i := 3) rfl)) (hw _ (List.mem_of_getElem? (i := 17) rfl))
  obtain ⟨a7, S7, E7, v7⟩ := own_sta nz7 (hw _ (List.mem_of_getElem? (i := 3) rfl)) (hw _ (List.mem_of_getElem? (i := 19) rfl))
  obtain ⟨a8, S8, E8, v8⟩ := own_sta nz8 (hw _ (List.mem_of_getElem? (i := 3) rfl)) (hw _ (List.mem_of_getElem? (i := 21) rfl))
  obtain ⟨a9, S9, E9, v9⟩ := own_sta nz9 (hw _ (List.mem_of_getElem? (i := 3) rfl)) (hw _ (List.mem_of_getElem? (i := 23) rfl))
  obtain ⟨a10, S10, E10, v10⟩ := own_sta nz10 (hw _ (List.mem_of_getElem? (i := 3) rfl)) (hw _ (List.mem_of_getElem? (i := 25) rfl))
  obtain ⟨a11, S11, E11, v11⟩ := own_sta nz11 (hw _ (List.mem_of_getElem? (i := 3) rfl)) (hw _ (List.mem_of_getElem? (i := 27) rfl))
  obtain ⟨a12, S12, E12, v12⟩ := own_sta nz12 (hw _ (List.mem_of_getElem? (i := 3) rfl)) (hw _ (List.mem_of_getElem? (i := 29) rfl))
  obtain ⟨a13, S13, E13, v13⟩ := own_sta nz13 (hw _ (List.mem_of_getElem? (i := 3) rfl)) (hw _ (List.mem_of_getElem? (i := 31) rfl))
  obtain ⟨a14, S14, E14, v14⟩ := own_sta nz14 (hw _ (List.mem_of_getElem? (i := 3) rfl)) (hw _ (List.mem_of_getElem? (i := 33) rfl))
  obtain ⟨a15, S15, E15, v15⟩ := own_sta nz15 (hw _ (List.mem_of_getElem? (i := 3) rfl)) (hw _ (List.mem_of_getElem? (i := 35) rfl))
  obtain ⟨a16, S16, E16, v16⟩ := own_sta nz16 (hw _ (List.mem_of_getElem? (i := 3) rfl)) (hw _ (List.mem_of_getElem? (i := 37) rfl))
  let A : Nat → Addr := fun i => [a0, a1, a2, a3, a4, a5, a6, a7, a8, a9, a10, a11, a12, a13, a14, a15, a16].getD i 0
  have En : own_En s s.heap A := by
    intro q hq
    simp only [own_cs, List.mem_cons, List.not_mem_nil, or_false] at hq
    rcases hq with rfl | rfl | rfl | rfl | rfl | rfl | rfl | rfl | rfl | rfl | rfl | rfl | rfl | rfl | rfl | rfl | rfl
    · exact ⟨S0, E0, own_fld v0 nz17⟩
    · exact ⟨S1, E1, own_fld v1 nz28⟩
    · exact ⟨S2, E2, own_fld v2 nz26⟩
    · exact ⟨S3, E3, own_fld v3 nz21⟩
    · exact ⟨S4, E4, own_fld v4 nz30⟩
    · exact ⟨S5, E5, own_fld v5 nz32⟩
    · exact ⟨S6, E6, own_fld v6 nz24⟩
    · exact ⟨S7, E7, own_fld v7 nz25⟩
    · exact ⟨S8, E8, own_fld v8 nz22⟩
    · exact ⟨S9, E9, own_fld v9 nz23⟩
    · exact ⟨S10, E10, own_fld v10 nz31⟩
    · exact ⟨S11, E11, own_fld v11 nz27⟩
    · exact ⟨S12, E12, own_fld v12 nz33⟩
    · exact ⟨S13, E13, own_fld v13 nz29⟩
    · exact ⟨S14, E14, own_fld v14 nz18⟩
    · exact ⟨S15, E15, own_fld v15 nz19⟩
    · exact ⟨S16, E16, own_fld v16 nz20⟩
  obtain ⟨n, o, h1, h2, h3, _, L, rfl, ⟨rfl, N⟩, hq⟩ := own_law l s _ hw tables_1 i0 A s.heap s.heap.size (Nat.le_refl _) En p e ha hc hk s m _ below hf ((Spec.applies_iff_loose hf).mp happ).1 ⟨rfl, State.Warmed39.refl s, rfl⟩ trivial
  refine ⟨n, _, h1, h2, h3, hpost _ _ _ _ _ _ ⟨Cond.after_iff.mpr rfl, Cond.after_iff.mpr (eq_i res_at (Term.int_eval (1)) rfl), trivial⟩ ⟨hq.1, hq.2.1, (hq.2.2.sift fun y hy => Or.inr (N y hy)).mono (by decide) (by decide)⟩⟩
theorem main_1_1 : Claimed_1_1 := comes_1 fun _ _ _ _ _ _ h hF => ⟨h.1, hF⟩
theorem main_1_2 : Claimed_1_2 := comes_1 fun _ _ _ _ _ _ h hF => ⟨h.2.1, hF⟩
end Jvm.Pilot.@@N@@
namespace Jvm.Pilot.@@N@@
open Jvm Jvm.ClassFile Sem Op Lib Jvm.Free Jvm.Stand Jvm.Pilot.@@N@@.Jvm.D
/-! MADE BY PROGRAM (witnessworld.py) out of the Statement's table words and the real class files: 13 classes; the members and pool entries that the words name. The judged class is class 1, her method 1. -/
namespace start1
open Jvm.ClassFile
def u (s : String) : CpInfo := .utf8 (stringToUtf16 s)
/-- a pool by its gaps: so many unusable entries, then the entry; so many at the end -/
def gap : Nat → List CpInfo → List CpInfo
  | 0, r => r
  | n + 1, r => .unusable :: gap n r
def poolList (es : List (Nat × CpInfo)) (last : Nat) : List CpInfo := es.foldr (fun e r => gap e.1 (e.2 :: r)) (gap last [])
def pool (es : List (Nat × CpInfo)) (last : Nat) : Array CpInfo := ⟨poolList es last⟩
def fileOf (pool : Array CpInfo) (this : Nat) (attrs : Array Attribute := #[]) (ms : Array MethodInfo := #[]) (fl : Nat := 33) (sup : Nat := 0) (ifs : Array Nat := #[]) (fds : Array FieldInfo := #[]) : ClassFile where
  minorVersion := 0
  majorVersion := 65
  constantPool := pool
  accessFlags := fl
  thisClass := this
  superClass := sup
  interfaces := ifs
  fields := fds
  methods := ms
  attributes := attrs
def plain (name : String) (sup : Option ClassId) : Class where
  name := name
  kind := .ordinary
  loader := none
  accessFlags := 33
  super := sup
  interfaces := #[]
  cf := none
  fields := #[]
  methods := #[]
  instanceTypes := #[]
  staticTypes := #[]
  resolved := #[]
  callSites := []
  init := .initialized
  statics := none
  mirror := none

def pool0 : Array CpInfo := pool [(5, u "<init>"), (0, u "()V"), (1, .class_ 10), (1, u "java/lang/Object")] 113

def k0m0 : Method := { name := "<init>", desc := "()V", sig := { parameters := [], returnType := none }, accessFlags := 1, code := none }
/-- java/lang/Object -/
def k0 : Class := { plain "java/lang/Object" none with
  accessFlags := 33
  interfaces := #[]
  cf := some (fileOf pool0 8 #[] #[{ accessFlags := 1, nameIndex := 5, descriptorIndex := 6, attributes := #[] }] 33 0 #[] #[])
  fields := #[]
  methods := #[k0m0]
  instanceTypes := #[]
  staticTypes := #[]
  resolved := Array.replicate 124 none
  statics := none }

def pool1 : Array CpInfo := pool [(2, .class_ 4), (1, u "java/lang/Object"), (0, u "<init>"), (0, u "()V"), (0, .class_ 8), (0, u "com/example/tempora/tempora/core/Terms$Role"), (0, .fieldref 7 10), (0, .nameAndType 11 12), (0, u "NAME"), (0, u "Lcom/example/tempora/tempora/core/Terms$Role;"), (0, .fieldref 7 14), (0, .nameAndType 15 12), (0, u "UPDATE"), (0, .fieldref 7 17), (0, .nameAndType 18 12), (0, u "UPDATE_FREQUENCY"), (0, .fieldref 7 20), (0, .nameAndType 21 12), (0, u "TRAILING_UPDATE"), (0, .fieldref 7 23), (0, .nameAndType 24 12), (0, u "NUMBER"), (0, .fieldref 7 26), (0, .nameAndType 27 12), (0, u "MULTIPLE"), (0, .fieldref 7 29), (0, .nameAndType 30 12), (0, u "UNIT"), (0, .fieldref 7 32), (0, .nameAndType 33 12), (0, u "PERIOD"), (0, .fieldref 7 35), (0, .nameAndType 36 12), (0, u "EXCEPT"), (0, .fieldref 7 38), (0, .nameAndType 39 12), (0, u "MONTH"), (0, .fieldref 7 41), (0, .nameAndType 42 12), (0, u "SEASON"), (0, .fieldref 7 44), (0, .nameAndType 45 12), (0, u "WITH"), (0, .fieldref 7 47), (0, .nameAndType 48 12), (0, u "ADDED_ISSUE"), (0, .fieldref 7 50), (0, .nameAndType 51 12), (0, u "INCLUDING"), (0, .fieldref 7 53), (0, .nameAndType 54 12), (0, u "BEGAN"), (0, .fieldref 7 56), (0, .nameAndType 57 12), (0, u "CEASED"), (0, .fieldref 7 59), (0, .nameAndType 60 12), (0, u "BEGAN_AND_CEASED"), (0, .integer 2147483647), (0, .methodref 7 63), (0, .nameAndType 64 65), (0, u "isNotePhrase"), (0, u "()Z"), (0, .class_ 67), (0, u "com/example/tempora/tempora/core/RoleIsNotePhrasePinLaw"), (2, u "law"), (0, u "(I)Z")] 9

def k1m0 : Method := { name := "<init>", desc := "()V", sig := { parameters := [], returnType := none }, accessFlags := 2, code := none }
def k1c1 : Code := { maxStack := 4, maxLocals := 5, code := code, exceptionTable := #[], attributes := #[] }
def k1m1 : Method := { name := "law", desc := "(I)Z", sig := { parameters := [.int], returnType := some .boolean }, accessFlags := 9, code := some k1c1 }
/-- com/example/tempora/tempora/core/RoleIsNotePhrasePinLaw -/
def k1 : Class := { plain "com/example/tempora/tempora/core/RoleIsNotePhrasePinLaw" (some 0) with
  accessFlags := 49
  interfaces := #[]
  cf := some (fileOf pool1 66 #[] #[{ accessFlags := 2, nameIndex := 5, descriptorIndex := 6, attributes := #[] }, { accessFlags := 9, nameIndex := 70, descriptorIndex := 71, attributes := #[] }] 49 2 #[] #[])
  fields := #[]
  methods := #[k1m0, k1m1]
  instanceTypes := #[]
  staticTypes := #[]
  resolved := Array.replicate 81 none
  statics := none }

def pool2 : Array CpInfo := pool [(1, .class_ 2), (0, u "java/lang/constant/Constable"), (0, .class_ 4), (0, u "java/lang/Object")] 6

/-- java/lang/constant/Constable -/
def k2 : Class := { plain "java/lang/constant/Constable" (some 0) with
  accessFlags := 1537
  interfaces := #[]
  cf := some (fileOf pool2 1 #[] #[] 1537 3 #[] #[])
  fields := #[]
  methods := #[]
  instanceTypes := #[]
  staticTypes := #[]
  resolved := Array.replicate 11 none
  statics := none }

def pool3 : Array CpInfo := pool [(1, .class_ 2), (0, u "java/lang/Comparable"), (0, .class_ 4), (0, u "java/lang/Object")] 7

/-- java/lang/Comparable -/
def k3 : Class := { plain "java/lang/Comparable" (some 0) with
  accessFlags := 1537
  interfaces := #[]
  cf := some (fileOf pool3 1 #[] #[] 1537 3 #[] #[])
  fields := #[]
  methods := #[]
  instanceTypes := #[]
  staticTypes := #[]
  resolved := Array.replicate 12 none
  statics := none }

def pool4 : Array CpInfo := pool [(1, .class_ 2), (0, u "java/io/Serializable"), (0, .class_ 4), (0, u "java/lang/Object")] 2

/-- java/io/Serializable -/
def k4 : Class := { plain "java/io/Serializable" (some 0) with
  accessFlags := 1537
  interfaces := #[]
  cf := some (fileOf pool4 1 #[] #[] 1537 3 #[] #[])
  fields := #[]
  methods := #[]
  instanceTypes := #[]
  staticTypes := #[]
  resolved := Array.replicate 7 none
  statics := none }

def pool5 : Array CpInfo := pool [(2, .class_ 4), (1, u "java/lang/Enum"), (0, u "name"), (0, u "Ljava/lang/String;"), (2, u "ordinal"), (0, u "I"), (1, .class_ 14), (1, u "java/lang/Object"), (4, u "hash"), (86, .class_ 108), (1, u "java/lang/Enum$EnumDesc"), (2, .class_ 112), (0, u "java/lang/constant/Constable"), (0, .class_ 114), (0, u "java/lang/Comparable"), (0, .class_ 116), (0, u "java/io/Serializable")] 87

/-- java/lang/Enum -/
def k5 : Class := { plain "java/lang/Enum" (some 0) with
  accessFlags := 1057
  interfaces := #[2, 3, 4]
  cf := some (fileOf pool5 2 #[.nestMembers #[106]] #[] 1057 12 #[111, 113, 115] #[{ accessFlags := 18, nameIndex := 5, descriptorIndex := 6, attributes := #[] }, { accessFlags := 18, nameIndex := 9, descriptorIndex := 10, attributes := #[] }, { accessFlags := 2, nameIndex := 19, descriptorIndex := 10, attributes := #[] }])
  fields := #[{ name := "name", type := (.object "java/lang/String"), accessFlags := 18, slot := 0, constantValue := 0 }, { name := "ordinal", type := .int, accessFlags := 18, slot := 1, constantValue := 0 }, { name := "hash", type := .int, accessFlags := 2, slot := 2, constantValue := 0 }]
  methods := #[]
  instanceTypes := #[(.object "java/lang/String"), .int, .int]
  staticTypes := #[]
  resolved := Array.replicate 204 none
  statics := none }

def pool6 : Array CpInfo := pool [(1, .class_ 2), (0, u "com/example/tempora/tempora/core/Terms$Role"), (2, u "NAME"), (0, u "Lcom/example/tempora/tempora/core/Terms$Role;"), (2, u "UPDATE"), (2, u "UPDATE_FREQUENCY"), (2, u "TRAILING_UPDATE"), (2, u "NUMBER"), (2, u "MULTIPLE"), (2, u "UNIT"), (2, u "PERIOD"), (2, u "EXCEPT"), (2, u "MONTH"), (2, u "SEASON"), (2, u "WITH"), (2, u "ADDED_ISSUE"), (2, u "INCLUDING"), (0, .fieldref 1 47), (0, .nameAndType 48 6), (0, u "BEGAN"), (0, .fieldref 1 50), (0, .nameAndType 51 6), (0, u "CEASED"), (0, .fieldref 1 53), (0, .nameAndType 54 6), (0, u "BEGAN_AND_CEASED"), (2, u "$VALUES"), (0, u "[Lcom/example/tempora/tempora/core/Terms$Role;"), (6, .class_ 67), (1, u "java/lang/Enum"), (70, u "isNotePhrase"), (0, u "()Z"), (8, .class_ 149), (0, u "com/example/tempora/tempora/core/Terms")] 16

def k6c0 : Code := { maxStack := 2, maxLocals := 1, code := prog_30_method_4_code, exceptionTable := #[], attributes := #[] }
def k6m0 : Method := { name := "isNotePhrase", desc := "()Z", sig := { parameters := [], returnType := some .boolean }, accessFlags := 0, code := some k6c0 }
/-- com/example/tempora/tempora/core/Terms$Role -/
def k6 : Class := { plain "com/example/tempora/tempora/core/Terms$Role" (some 5) with
  accessFlags := 16432
  interfaces := #[]
  cf := some (fileOf pool6 1 #[.nestHost 148] #[{ accessFlags := 0, nameIndex := 138, descriptorIndex := 139, attributes := #[] }] 16432 65 #[] #[{ accessFlags := 16409, nameIndex := 5, descriptorIndex := 6, attributes := #[] }, { accessFlags := 16409, nameIndex := 9, descriptorIndex := 6, attributes := #[] }, { accessFlags := 16409, nameIndex := 12, descriptorIndex := 6, attributes := #[] }, { accessFlags := 16409, nameIndex := 15, descriptorIndex := 6, attributes := #[] }, { accessFlags := 16409, nameIndex := 18, descriptorIndex := 6, attributes := #[] }, { accessFlags := 16409, nameIndex := 21, descriptorIndex := 6, attributes := #[] }, { accessFlags := 16409, nameIndex := 24, descriptorIndex := 6, attributes := #[] }, { accessFlags := 16409, nameIndex := 27, descriptorIndex := 6, attributes := #[] }, { accessFlags := 16409, nameIndex := 30, descriptorIndex := 6, attributes := #[] }, { accessFlags := 16409, nameIndex := 33, descriptorIndex := 6, attributes := #[] }, { accessFlags := 16409, nameIndex := 36, descriptorIndex := 6, attributes := #[] }, { accessFlags := 16409, nameIndex := 39, descriptorIndex := 6, attributes := #[] }, { accessFlags := 16409, nameIndex := 42, descriptorIndex := 6, attributes := #[] }, { accessFlags := 16409, nameIndex := 45, descriptorIndex := 6, attributes := #[] }, { accessFlags := 16409, nameIndex := 48, descriptorIndex := 6, attributes := #[] }, { accessFlags := 16409, nameIndex := 51, descriptorIndex := 6, attributes := #[] }, { accessFlags := 16409, nameIndex := 54, descriptorIndex := 6, attributes := #[] }, { accessFlags := 4122, nameIndex := 57, descriptorIndex := 58, attributes := #[] }])
  fields := #[{ name := "NAME", type := (.object "com/example/tempora/tempora/core/Terms$Role"), accessFlags := 16409, slot := 0, constantValue := 0 }, { name := "UPDATE", type := (.object "com/example/tempora/tempora/core/Terms$Role"), accessFlags := 16409, slot := 1, constantValue := 0 }, { name := "UPDATE_FREQUENCY", type := (.object "com/example/tempora/tempora/core/Terms$Role"), accessFlags := 16409, slot := 2, constantValue := 0 }, { name := "TRAILING_UPDATE", type := (.object "com/example/tempora/tempora/core/Terms$Role"), accessFlags := 16409, slot := 3, constantValue := 0 }, { name := "NUMBER", type := (.object "com/example/tempora/tempora/core/Terms$Role"), accessFlags := 16409, slot := 4, constantValue := 0 }, { name := "MULTIPLE", type := (.object "com/example/tempora/tempora/core/Terms$Role"), accessFlags := 16409, slot := 5, constantValue := 0 }, { name := "UNIT", type := (.object "com/example/tempora/tempora/core/Terms$Role"), accessFlags := 16409, slot := 6, constantValue := 0 }, { name := "PERIOD", type := (.object "com/example/tempora/tempora/core/Terms$Role"), accessFlags := 16409, slot := 7, constantValue := 0 }, { name := "EXCEPT", type := (.object "com/example/tempora/tempora/core/Terms$Role"), accessFlags := 16409, slot := 8, constantValue := 0 }, { name := "MONTH", type := (.object "com/example/tempora/tempora/core/Terms$Role"), accessFlags := 16409, slot := 9, constantValue := 0 }, { name := "SEASON", type := (.object "com/example/tempora/tempora/core/Terms$Role"), accessFlags := 16409, slot := 10, constantValue := 0 }, { name := "WITH", type := (.object "com/example/tempora/tempora/core/Terms$Role"), accessFlags := 16409, slot := 11, constantValue := 0 }, { name := "ADDED_ISSUE", type := (.object "com/example/tempora/tempora/core/Terms$Role"), accessFlags := 16409, slot := 12, constantValue := 0 }, { name := "INCLUDING", type := (.object "com/example/tempora/tempora/core/Terms$Role"), accessFlags := 16409, slot := 13, constantValue := 0 }, { name := "BEGAN", type := (.object "com/example/tempora/tempora/core/Terms$Role"), accessFlags := 16409, slot := 14, constantValue := 0 }, { name := "CEASED", type := (.object "com/example/tempora/tempora/core/Terms$Role"), accessFlags := 16409, slot := 15, constantValue := 0 }, { name := "BEGAN_AND_CEASED", type := (.object "com/example/tempora/tempora/core/Terms$Role"), accessFlags := 16409, slot := 16, constantValue := 0 }, { name := "$VALUES", type := (.array (.object "com/example/tempora/tempora/core/Terms$Role")), accessFlags := 4122, slot := 17, constantValue := 0 }]
  methods := #[k6m0]
  instanceTypes := #[(.object "java/lang/String"), .int, .int]
  staticTypes := #[(.object "com/example/tempora/tempora/core/Terms$Role"), (.object "com/example/tempora/tempora/core/Terms$Role"), (.object "com/example/tempora/tempora/core/Terms$Role"), (.object "com/example/tempora/tempora/core/Terms$Role"), (.object "com/example/tempora/tempora/core/Terms$Role"), (.object "com/example/tempora/tempora/core/Terms$Role"), (.object "com/example/tempora/tempora/core/Terms$Role"), (.object "com/example/tempora/tempora/core/Terms$Role"), (.object "com/example/tempora/tempora/core/Terms$Role"), (.object "com/example/tempora/tempora/core/Terms$Role"), (.object "com/example/tempora/tempora/core/Terms$Role"), (.object "com/example/tempora/tempora/core/Terms$Role"), (.object "com/example/tempora/tempora/core/Terms$Role"), (.object "com/example/tempora/tempora/core/Terms$Role"), (.object "com/example/tempora/tempora/core/Terms$Role"), (.object "com/example/tempora/tempora/core/Terms$Role"), (.object "com/example/tempora/tempora/core/Terms$Role"), (.array (.object "com/example/tempora/tempora/core/Terms$Role"))]
  resolved := Array.replicate 166 none
  statics := some 0 }

def pool7 : Array CpInfo := pool [(1, u "java/lang/Cloneable"), (0, .class_ 1), (0, u "java/lang/Object"), (0, .class_ 3)] 3

/-- java/lang/Cloneable -/
def k7 : Class := { plain "java/lang/Cloneable" (some 0) with
  accessFlags := 1537
  interfaces := #[]
  cf := some (fileOf pool7 2 #[] #[] 1537 4 #[] #[])
  fields := #[]
  methods := #[]
  instanceTypes := #[]
  staticTypes := #[]
  resolved := Array.replicate 8 none
  statics := none }

/-- the primitive byte -/
def k8 : Class := { plain "byte" none with kind := .primitive 'B', accessFlags := 0x411 }
/-- [B -/
def k9 : Class := { plain "[B" (some 0) with kind := .array 8 .byte, interfaces := #[7, 4], accessFlags := 1041 }

/-- the primitive int -/
def k10 : Class := { plain "int" none with kind := .primitive 'I', accessFlags := 0x411 }
/-- [I -/
def k11 : Class := { plain "[I" (some 0) with kind := .array 10 .int, interfaces := #[7, 4], accessFlags := 1041 }

/-- [Lcom/example/tempora/tempora/core/Terms$Role; -/
def k12 : Class := { plain "[Lcom/example/tempora/tempora/core/Terms$Role;" (some 0) with kind := .array 6 (.object "com/example/tempora/tempora/core/Terms$Role"), interfaces := #[7, 4], accessFlags := 1041 }

def heap : Heap := #[{ cls := 6, slots := #[.ref 1, .ref 2, .ref 3, .ref 4, .ref 5, .ref 6, .ref 7, .ref 8, .ref 9, .ref 10, .ref 11, .ref 12, .ref 13, .ref 14, .ref 15, .ref 16, .ref 17, .null], vm := .statics 6 },
  { cls := 6, slots := #[.null, .int 0, .int 0], vm := .none },
  { cls := 6, slots := #[.null, .int 1, .int 0], vm := .none },
  { cls := 6, slots := #[.null, .int 2, .int 0], vm := .none },
  { cls := 6, slots := #[.null, .int 3, .int 0], vm := .none },
  { cls := 6, slots := #[.null, .int 4, .int 0], vm := .none },
  { cls := 6, slots := #[.null, .int 5, .int 0], vm := .none },
  { cls := 6, slots := #[.null, .int 6, .int 0], vm := .none },
  { cls := 6, slots := #[.null, .int 7, .int 0], vm := .none },
  { cls := 6, slots := #[.null, .int 8, .int 0], vm := .none },
  { cls := 6, slots := #[.null, .int 9, .int 0], vm := .none },
  { cls := 6, slots := #[.null, .int 10, .int 0], vm := .none },
  { cls := 6, slots := #[.null, .int 11, .int 0], vm := .none },
  { cls := 6, slots := #[.null, .int 12, .int 0], vm := .none },
  { cls := 6, slots := #[.null, .int 13, .int 0], vm := .none },
  { cls := 6, slots := #[.null, .int 14, .int 0], vm := .none },
  { cls := 6, slots := #[.null, .int 15, .int 0], vm := .none },
  { cls := 6, slots := #[.null, .int 16, .int 0], vm := .none }]
def classes : Array Class := #[k0, k1, k2, k3, k4, k5, k6, k7, k8, k9, k10, k11, k12]
def interned : List (Array UInt16 × Addr) := []
def slotsUsed : Nat := 69
def theMethod : MethodId := ⟨1, 1⟩
def args0 : Array Value := #[.int 5]
def aboutOver (below : List Frame) : State where
  vm := { classes := classes, interned := interned.toArray }
  heap := heap
  slotsUsed := slotsUsed
  threads := #[{ frames := .invoking theMethod args0 :: below }]
def below0 : List Frame := [.native { method := ⟨0, 0⟩, args := #[] }]
def about1 : State := aboutOver below0
def p0 : Program := .bare "" "" ""
def e0 : Env := launch0.env 0 0 0
theorem w_frames : about1.frames = Frame.invoking theMethod args0 :: below0 := rfl
set_option maxRecDepth 65536 in
theorem w_args : argsFit about1.vm theMethod args0 = true := by decide +kernel
set_option maxRecDepth 65536 in
theorem w_heap : heapFits about1 = true := by decide +kernel
set_option maxRecDepth 65536 in
theorem w_runnable : about1.curStatus? = some .runnable := by decide +kernel
set_option maxRecDepth 65536 in
theorem w_alone : about1.alone = true := by decide +kernel
set_option maxRecDepth 65536 in
theorem w_named : about1.methodNamed? x = some theMethod := by decide +kernel
set_option maxRecDepth 65536 in
theorem w_hears : about1.hears theMethod below0 = true := by decide +kernel
set_option maxRecDepth 65536 in
theorem w_ripe : about1.ripe theMethod args0 below0 = true := by decide +kernel
theorem w_running : about1.status = .running := rfl
set_option maxRecDepth 65536 in
theorem w_room : about1.hasRoom e0.platform room_1 = true :=
  launch0.hasRoom_least _ room_1 (by decide +kernel) (by decide +kernel) (by decide +kernel) (by decide +kernel) (by decide +kernel) (by decide +kernel)
theorem allAtoms_all (ts : List Jvm.Cond) (a : Array Jvm.Value) (st : Jvm.State) : (allAtoms ts).before a st = ts.all (fun c => c.before a st) := by
  induction ts with
  | nil => rfl
  | cons c t ih =>
    show (Jvm.Cond.and c (allAtoms t)).before a st = _
    rw [Jvm.Cond.before_and, ih, List.all_cons]
def words1 : List Jvm.Cond := Jvm.Cond.code x code maxLocals ret :: tables_1
/-- a 'code' word, met by the world's own term for the bytes: nothing is compared byte by byte -/
theorem code_word {y : MethodName} {bytes : ByteArray} {mx : Nat} {rt : Option FieldType} {a : Array Value} {s : State} {m : MethodId} {meth : Method} {c : Code} (h1 : s.methodNamed? y = some m) (h2 : s.vm.method? m = some meth) (h3 : meth.code = some c) (h4 : c.code = bytes)
    (h5 : (c.maxLocals == mx && c.exceptionTable.isEmpty && decide (c.maxStack ≤ mostOperands) && decide (meth.sig.returnType = rt) && !meth.locks && decide (parseMethodDescriptor y.desc = some meth.sig)) = true) : (Jvm.Cond.code y bytes mx rt).before a s = true := by
  simp only [Bool.and_eq_true, beq_iff_eq, Bool.not_eq_true', decide_eq_true_eq] at h5
  obtain ⟨⟨⟨⟨⟨g1, g2⟩, g3⟩, g4⟩, g5⟩, g6⟩ := h5
  simp [Cond.before, Cond.holds, Cond.value, h1, h2, h3, h4, g1, g2, g3, g4, g5, g6]
def isCode : Jvm.Cond → Bool
  | .code _ _ _ _ => true
  | _ => false
theorem all_split {L : List Jvm.Cond} {P : Jvm.Cond → Bool} (h1 : L.all (fun c => isCode c || P c) = true) (h2 : ∀ c ∈ L.filter isCode, P c = true) : L.all P = true := by
  refine List.all_eq_true.mpr fun c hc => ?_
  have h := List.all_eq_true.mp h1 c hc
  rcases Bool.eq_false_or_eq_true (isCode c) with hi | hi
  · exact h2 c (List.mem_filter.mpr ⟨hc, hi⟩)
  · simpa [hi] using h
set_option maxRecDepth 65536 in
theorem w_c0 : (Jvm.Cond.code x code maxLocals ret).before args0 about1 = true := code_word (m := ⟨1, 1⟩) (meth := k1m1) (c := k1c1) (by decide +kernel) rfl rfl rfl (by decide +kernel)
set_option maxRecDepth 65536 in
theorem w_c1 : (Jvm.Cond.code ({ cls := "com/example/tempora/tempora/core/Terms$Role", name := "isNotePhrase", desc := "()Z" } : Jvm.MethodName) prog_30_method_4_code (1 : Nat) (Option.some Jvm.ClassFile.FieldType.boolean)).before args0 about1 = true := code_word (m := ⟨6, 0⟩) (meth := k6m0) (c := k6c0) (by decide +kernel) rfl rfl rfl (by decide +kernel)
def codes1 : List Jvm.Cond := [Jvm.Cond.code x code maxLocals ret, Jvm.Cond.code ({ cls := "com/example/tempora/tempora/core/Terms$Role", name := "isNotePhrase", desc := "()Z" } : Jvm.MethodName) prog_30_method_4_code (1 : Nat) (Option.some Jvm.ClassFile.FieldType.boolean)]
set_option maxRecDepth 65536 in
theorem codes_eq : words1.filter isCode = codes1 := rfl
theorem w_codes : ∀ c ∈ words1.filter isCode, c.before args0 about1 = true := by
  rw [codes_eq]
  intro c hc
  simp only [codes1, List.mem_cons, List.not_mem_nil, or_false] at hc
  rcases hc with rfl | rfl
  · exact w_c0
  · exact w_c1
set_option maxRecDepth 65536 in
theorem w_t1 : (words1.take 24).all (fun c => isCode c || c.before args0 about1) = true := by decide +kernel
set_option maxRecDepth 65536 in
theorem w_t2 : (words1.drop 24).all (fun c => isCode c || c.before args0 about1) = true := by decide +kernel
theorem w_tables : (allAtoms (Jvm.Cond.code x code maxLocals ret :: tables_1)).before args0 about1 = true := by
  rw [allAtoms_all]
  show words1.all (fun c => c.before args0 about1) = true
  refine all_split ?_ w_codes
  rw [← List.take_append_drop 24 words1, List.all_append, w_t1, w_t2]
  rfl
set_option maxRecDepth 65536 in
theorem w_case : (Jvm.Cond.and given_1 narrow_1).before args0 about1 = true := by decide +kernel
theorem w_applies : (headSpec (Jvm.Cond.code x code maxLocals ret :: tables_1) room_1).applies x e0.platform about1 = true :=
  (Spec.applies_iff w_frames).mpr ⟨w_running, w_runnable, w_alone, w_named, w_hears, w_ripe, w_room, w_tables⟩
theorem atStart : AtStart classFile x code maxLocals ret World_1 tables_1 room_1 Calls_1 rest_1 Pre_1 launch0 p0 e0 about1 theMethod args0 below0 :=
  ⟨lists_1, trivial, launch0.admits_env _ _ _, launch0.least_env, fairChoices_fair.cas, fairChoices_fair.clock, w_frames, w_args, w_heap, w_applies, trivial, trivial, w_case⟩
end start1
theorem witness_1 : WitnessClaimed_1 := ⟨start1.p0, start1.e0, start1.about1, start1.theMethod, start1.args0, start1.below0, start1.atStart⟩
end Jvm.Pilot.@@N@@
