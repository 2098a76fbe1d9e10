import JvmDerived
import JvmDerived.Pilot.@@N@@Statement
import JvmDerived.Pilot.@@N@@Code
set_option linter.unusedVariables false
set_option linter.unusedSimpArgs false
namespace Jvm.RoadKit
open Sem ClassFile Op Lib Jvm.Stand Jvm.Free Jvm.LawKit
section Own
variable {p : Program} {l : Launch} {e : Env} {R : Room} {s : State} {m : MethodId} {args : Array Value} {below : List Frame} {meth : Method} {c : Code} {T : State} {locs : List Loc} {cells slots : Nat}
/-- the run from U comes to its end, and the end meets Q -/
def own_Go (p : Program) (e : Env) (below : List Frame) (args : Array Value) (s : State) (Q : Array Value → State → Outcome → State → Prop) (U : State) : Prop := ∃ s₂ o, Steps p.tables e below U s₂ ∧ s₂.status = .running ∧ Ended s₂ below o ∧ Q args s o s₂
theorem own_st {Q : Array Value → State → Outcome → State → Prop} {U V : State} (k : ∀ t, Steps p.tables e below V t → Steps p.tables e below U t) (h : own_Go p e below args s Q V) : own_Go p e below args s Q U := by
  obtain ⟨s2, o, h1, h2⟩ := h
  exact ⟨s2, o, k _ h1, h2⟩
theorem own_ret {Q : Option Value → Heap → List Loc → Prop} {rc rs : Nat} (X : Stand p l e R s m args below meth c T locs cells slots) (hx : p.tables.exec = Jvm.exec) {pc : Nat} {Ls : Array Slot} {w : Value} {t : FieldType} {i : Instr} {rest : List Value} (hlk : meth.locks = false) (hret : meth.sig.returnType = some t) (hn : narrow t w = w)
    (hi : (i = .ireturn ∧ (t = .int ∨ t = .boolean ∨ t = .byte ∨ t = .char ∨ t = .short) ∧ ∃ z, w = .int z) ∨ (i = .lreturn ∧ t = .long ∧ ∃ z, w = .long z) ∨ (i = .dreturn ∧ t = .double ∧ ∃ z, w = .double z) ∨ (i = .freturn ∧ t = .float ∧ ∃ z, w = .float z) ∨ (i = .areturn ∧ t.isReference = true ∧ w.isRef = true))
    (hd : decode c.code pc = .ok (i, 1)) (hc : cells ≤ rc) (hs : slots ≤ rs) (hQ : Q (some w) T.heap locs) :
    own_Go p e below args s (fun _ U o U' => ∃ v L, o = .returned v ∧ Q v U'.heap L ∧ FrameEnd U o U' L rc rs) (T.setTop (mkF m pc Ls (w :: rest))) := by
  obtain ⟨fs, hr, hrun, hended, hW, hsame⟩ := X.leave (v := some w) (fun h => by rw [hret] at h; cases h) hlk
  exact ⟨_, _, retOut X hx hret hn hi hd hr, hrun, hended, _, _, rfl, hQ, ⟨_, rfl⟩, hW, hsame.mono hc hs⟩
theorem own_ret0 {Q : Option Value → Heap → List Loc → Prop} {rc rs : Nat} (X : Stand p l e R s m args below meth c T locs cells slots) (hx : p.tables.exec = Jvm.exec) {pc : Nat} {Ls : Array Slot} (hlk : meth.locks = false) (hret : meth.sig.returnType = none)
    (hd : decode c.code pc = .ok (.return_, 1)) (hc : cells ≤ rc) (hs : slots ≤ rs) (hQ : Q none T.heap locs) :
    own_Go p e below args s (fun _ U o U' => ∃ v L, o = .returned v ∧ Q v U'.heap L ∧ FrameEnd U o U' L rc rs) (T.setTop (mkF m pc Ls [])) := by
  obtain ⟨fs, hr, hrun, hended, hW, hsame⟩ := X.leave (v := none) (fun _ => rfl) hlk
  exact ⟨_, _, X.returnOut hx hret hd hr, hrun, hended, _, _, rfl, hQ, ⟨_, rfl⟩, hW, hsame.mono hc hs⟩
/-- what the sheet says of a static that holds an object of its class -/
theorem own_sta {Z : State} {args : Array Value} {C n d K : String} (hx : (Jvm.Cond.exactly (.static C n d) K).value args Z none Z [] = some true) (wi : (Jvm.Cond.initialized C).before args Z = true) (wl : (Jvm.Cond.laysStatic C n d).before args Z = true) :
    ∃ a, Sta Z Z.heap C n d (.ref a) ∧ Exa Z Z.heap a K ∧ (Jvm.Term.static C n d).eval args Z none [] Z = some (.ref a) := by
  obtain ⟨a, ev⟩ := exa_v hx
  exact ⟨a, Sta.start ev (Or.inr ⟨wi, wl⟩), Exa.start ev hx, ev⟩
theorem own_eqi {Z : State} {args : Array Value} {t : Jvm.Term} {k : Int32} (h : (Jvm.Cond.eq t (.int k)).value args Z none Z [] = some true) : t.eval args Z none [] Z = some (.int k) := by
  cases hv : t.eval args Z none [] Z with
  | none => simp [Cond.value, Term.eval, hv] at h
  | some v => cases v <;> simp [Cond.value, Term.eval, hv] at h ⊢ <;> exact h
theorem own_fld {Z : State} {args : Array Value} {t : Jvm.Term} {C n d : String} {a : Addr} {k : Int32} (ev : t.eval args Z none [] Z = some (.ref a)) (h : (Jvm.Cond.eq (.field t C n d) (.int k)).value args Z none Z [] = some true) : Fld Z Z.heap a C n d (.int k) :=
  Fld.start ((fld_at ev).symm.trans (own_eqi h))
end Own
end Jvm.RoadKit
namespace Jvm.Pilot.@@N@@
open Jvm Jvm.ClassFile Sem Op Lib Jvm.Free Jvm.Stand Jvm.LawKit Jvm.RoadKit Bundle Jvm.Pilot.@@N@@.Jvm.D
def own_cs : List (Nat × String) := [(0, "EQUAL"), (1, "NOT_EQUAL"), (2, "LESS"), (3, "LESS_OR_EQUAL"), (4, "GREATER"), (5, "GREATER_OR_EQUAL")]
def own_En (Z : State) (h : Heap) (A : Nat → Addr) : Prop := ∀ q ∈ own_cs, Sta Z h "com/example/affirm_rows/affirmrows/rules/Comparison" q.2 "Lcom/example/affirm_rows/affirmrows/rules/Comparison;" (.ref (A q.1)) ∧ Exa Z h (A q.1) "com/example/affirm_rows/affirmrows/rules/Comparison" ∧ Fld Z h (A q.1) "java/lang/Enum" "ordinal" "I" (.int (Int32.ofNat q.1))
theorem own_S {Z : State} {h : Heap} {A : Nat → Addr} (En : own_En Z h A) (k : Nat) {i : Nat} {n : String} (q : own_cs[k]? = some (i, n)) : Sta Z h "com/example/affirm_rows/affirmrows/rules/Comparison" n "Lcom/example/affirm_rows/affirmrows/rules/Comparison;" (.ref (A i)) := (En _ (List.mem_of_getElem? q)).1
theorem own_E {Z : State} {h : Heap} {A : Nat → Addr} (En : own_En Z h A) (k : Nat) {i : Nat} {n : String} (q : own_cs[k]? = some (i, n)) : Exa Z h (A i) "com/example/affirm_rows/affirmrows/rules/Comparison" := (En _ (List.mem_of_getElem? q)).2.1
theorem own_O {Z : State} {h : Heap} {A : Nat → Addr} (En : own_En Z h A) (k : Nat) {i : Nat} {n : String} (q : own_cs[k]? = some (i, n)) : Fld Z h (A i) "java/lang/Enum" "ordinal" "I" (.int (Int32.ofNat i)) := (En _ (List.mem_of_getElem? q)).2.2
theorem own_ne {Z : State} {h : Heap} {A : Nat → Addr} (En : own_En Z h A) (k k' : Nat) {i j : Nat} {n n' : String} (q : own_cs[k]? = some (i, n)) (q' : own_cs[k']? = some (j, n')) (d : Int32.ofNat i ≠ Int32.ofNat j) : A i ≠ A j := (own_O En k q).ne (own_O En k' q') fun e => d (Value.int.inj e)
theorem own_En.ext {Z : State} {h h' : Heap} {A : Nat → Addr} (En : own_En Z h A) (E : Ext h h') : own_En Z h' A := fun q hq => by
  have r := En q hq
  exact ⟨r.1.ext E, r.2.1.ext E, r.2.2.ext E⟩
theorem own_En.wr {Z : State} {h h' : Heap} {A : Nat → Addr} {a : Addr} {sl : Nat} {v : Value} (En : own_En Z h A) (W : Wr h h' a sl v) (hne : ∀ q ∈ own_cs, A q.1 ≠ a) : own_En Z h' A := fun q hq => by
  have r := En q hq
  exact ⟨r.1.wr W, r.2.1.wr W, r.2.2.other W (Or.inl (hne q hq))⟩
theorem own_z1 {x : Int32} (h : x = (0 : Int32)) : ¬ (x < (0 : Int32)) := by subst h; decide
theorem own_z2 {x : Int32} (h : x = (0 : Int32)) : ¬ ((0 : Int32) < x) := by subst h; decide
theorem own_n1 {x : Int32} (h : x < (0 : Int32)) : ¬ (x = (0 : Int32)) := fun q => own_z1 q h
theorem own_p2 {x : Int32} (h : (0 : Int32) < x) : ¬ (x = (0 : Int32)) := fun q => own_z2 q h
theorem own_n2 {x : Int32} (h : x < (0 : Int32)) : ¬ ((0 : Int32) < x) := by rw [Int32.lt_iff_toInt_lt] at *; omega
theorem own_p1 {x : Int32} (h : (0 : Int32) < x) : ¬ (x < (0 : Int32)) := by rw [Int32.lt_iff_toInt_lt] at *; omega
theorem own_s3 (x : Int32) : x < (0 : Int32) ∨ x = (0 : Int32) ∨ (0 : Int32) < x := by
  have e : (0 : Int32).toInt = 0 := by decide
  rw [Int32.lt_iff_toInt_lt, Int32.lt_iff_toInt_lt, ← Int32.toInt_inj, e]
  omega
def Q_own_ord0 (Z : State) (A : Nat → Addr) (h0 : Heap) (n0 : Nat) (v : Option Value) (h : Heap) (L : List Loc) : Prop := v = some (.int (0 : Int32)) ∧ Fr n0 L ∧ h = h0
theorem own_d4_0 : decode jdk_37_method_2_code 0 = .ok (.aload_n 0, 1) := by decide +kernel
theorem own_d4_1 : decode jdk_37_method_2_code 1 = .ok (.getfield 7, 3) := by decide +kernel
theorem own_d4_4 : decode jdk_37_method_2_code 4 = .ok (.ireturn, 1) := by decide +kernel
theorem own_pn_java_lang_Enum : plainName "java/lang/Enum" = true := by first | (simp [plainName, overriddenIn]; done) | decide +kernel
set_option maxRecDepth 65536 in
set_option maxHeartbeats 40000000 in
theorem own_ord0 (l : Launch) (Z : State) (a0 : Array Value) (hw : ∀ d ∈ tables_1, d.before a0 Z = true) (ws : List Jvm.Cond) (A : Nat → Addr) (h0 : Heap) (n0 : Nat) (Z0 : n0 ≤ h0.size) (En : own_En Z h0 A) :
    MetFree l (⟨"java/lang/Enum", "ordinal", "()I"⟩ : MethodName) (head1 (Jvm.Cond.code (⟨"java/lang/Enum", "ordinal", "()I"⟩ : MethodName) jdk_37_method_2_code 1 (some .int) :: ws) ({ frames := 0, cells := 0, slots := 0, locals := 0 } : Room)) (fun a U => a = #[(.ref (A 0))] ∧ Z.Warmed39 U.vm ∧ U.heap = h0) (fun _ _ _ _ _ => True) (fun _ U o U' => ∃ v L, o = .returned v ∧ Q_own_ord0 Z A h0 n0 v U'.heap L ∧ FrameEnd U o U' L ({ frames := 0, cells := 0, slots := 0, locals := 0 } : Room).cells ({ frames := 0, cells := 0, slots := 0, locals := 0 } : Room).slots) := by
  refine MetFree.of_bodySF (plainFor_of_name own_pn_java_lang_Enum) hisR ?_
  intro p e s m args below meth c s₁ Bd hml0 hP hK
  obtain ⟨rfl, hZ, hh⟩ := hP
  have hx := Bd.exec
  have hby := Bd.bytes
  have hml : c.maxLocals = 1 := hml0
  have hown : s.vm.findClass "java/lang/Enum" = some m.cls := findClass_of_methodNamed Bd.named
  have hnm := (name_of_methodNamed Bd.named Bd.method).1
  have hlk : meth.locks = false := BodyLoose.notSynchronized Bd
  have X0 : Stand p l e ({ frames := 0, cells := 0, slots := 0, locals := 0 } : Room) s m #[(.ref (A 0))] below meth c s₁ [] 0 0 := Stand.of_body Bd
  have e0 : s₁.heap = h0 := by rw [← hh, Bd.state]; rfl
  have N0 := Fr.nil n0
  show own_Go p e below #[(.ref (A 0))] s (fun _ U o U' => ∃ v L, o = .returned v ∧ Q_own_ord0 Z A h0 n0 v U'.heap L ∧ FrameEnd U o U' L ({ frames := 0, cells := 0, slots := 0, locals := 0 } : Room).cells ({ frames := 0, cells := 0, slots := 0, locals := 0 } : Room).slots) (s₁.setTop (entryFrame m #[(.ref (A 0))] 1))
  refine own_st (V := s₁.setTop (mkF m 0 #[.val (.ref (A 0))] [])) (fun t k => castTop (by first | (simp [entryFrame, mkF, argsToLocals, Value.category]; done) | rfl) k) ?_
  refine own_st (V := s₁.setTop (mkF m 1 #[.val (.ref (A 0))] [(.ref (A 0))])) (fun t k => XS.aloadN X0.here hx rfl (hb hby own_d4_0) rfl rfl k) ?_
  obtain ⟨T1, X1, e1, st1⟩ := getF X0 hx hZ hown (host := "") (Or.inl (hw _ (List.mem_of_getElem? (i := 23) rfl))) Via.refl e0 (own_O En 0 (i := 0) (n := "EQUAL") rfl) (g := (mkF m 1 #[.val (.ref (A 0))] [(.ref (A 0))])) rfl rfl (hb hby own_d4_1)
  refine own_st (V := T1.setTop (mkF m 4 #[.val (.ref (A 0))] [(.int (0 : Int32))])) (fun t k => st1 _ k) ?_
  exact own_ret X1 hx hlk Bd.returns rfl (Or.inl ⟨rfl, by simp, _, rfl⟩) (hb hby own_d4_4) (by decide) (by decide) (by show Q_own_ord0 Z A h0 n0 _ T1.heap _; rw [e1]; exact ⟨rfl, N0, rfl⟩)
def Q_own_pick0 (Z : State) (A : Nat → Addr) (h0 : Heap) (n0 : Nat) (v : Option Value) (h : Heap) (L : List Loc) : Prop := v = some (.ref (A 0)) ∧ Fr n0 L ∧ h = h0
theorem own_d1_0 : decode method_2_code 0 = .ok (.iload_n 0, 1) := by decide +kernel
theorem own_d1_1 : decode method_2_code 1 = .ok (.ifCond .ne 7, 3) := by decide +kernel
theorem own_d1_4 : decode method_2_code 4 = .ok (.getstatic 7, 3) := by decide +kernel
theorem own_d1_7 : decode method_2_code 7 = .ok (.areturn, 1) := by decide +kernel
theorem own_pn_com_example_affirm_rows_affirmrows_rules_ComparisonHoldsPinLaw : plainName "com/example/affirm_rows/affirmrows/rules/ComparisonHoldsPinLaw" = true := by first | (simp [plainName, overriddenIn]; done) | decide +kernel
set_option maxRecDepth 65536 in
set_option maxHeartbeats 40000000 in
theorem own_pick0 (l : Launch) (Z : State) (a0 : Array Value) (hw : ∀ d ∈ tables_1, d.before a0 Z = true) (ws : List Jvm.Cond) (A : Nat → Addr) (h0 : Heap) (n0 : Nat) (Z0 : n0 ≤ h0.size) (En : own_En Z h0 A) :
    MetFree l (⟨"com/example/affirm_rows/affirmrows/rules/ComparisonHoldsPinLaw", "pick", "(I)Lcom/example/affirm_rows/affirmrows/rules/Comparison;"⟩ : MethodName) (head1 (Jvm.Cond.code (⟨"com/example/affirm_rows/affirmrows/rules/ComparisonHoldsPinLaw", "pick", "(I)Lcom/example/affirm_rows/affirmrows/rules/Comparison;"⟩ : MethodName) method_2_code 1 (some (.object "com/example/affirm_rows/affirmrows/rules/Comparison")) :: ws) ({ frames := 0, cells := 0, slots := 0, locals := 0 } : Room)) (fun a U => a = #[(.int (0 : Int32))] ∧ Z.Warmed39 U.vm ∧ U.heap = h0) (fun _ _ _ _ _ => True) (fun _ U o U' => ∃ v L, o = .returned v ∧ Q_own_pick0 Z A h0 n0 v U'.heap L ∧ FrameEnd U o U' L ({ frames := 0, cells := 0, slots := 0, locals := 0 } : Room).cells ({ frames := 0, cells := 0, slots := 0, locals := 0 } : Room).slots) := by
  refine MetFree.of_bodySF (plainFor_of_name own_pn_com_example_affirm_rows_affirmrows_rules_ComparisonHoldsPinLaw) hisR ?_
  intro p e s m args below meth c s₁ Bd hml0 hP hK
  obtain ⟨rfl, hZ, hh⟩ := hP
  have hx := Bd.exec
  have hby := Bd.bytes
  have hml : c.maxLocals = 1 := hml0
  have hown : s.vm.findClass "com/example/affirm_rows/affirmrows/rules/ComparisonHoldsPinLaw" = some m.cls := findClass_of_methodNamed Bd.named
  have hnm := (name_of_methodNamed Bd.named Bd.method).1
  have hlk : meth.locks = false := BodyLoose.notSynchronized Bd
  have X0 : Stand p l e ({ frames := 0, cells := 0, slots := 0, locals := 0 } : Room) s m #[(.int (0 : Int32))] below meth c s₁ [] 0 0 := Stand.of_body Bd
  have e0 : s₁.heap = h0 := by rw [← hh, Bd.state]; rfl
  have N0 := Fr.nil n0
  show own_Go p e below #[(.int (0 : Int32))] s (fun _ U o U' => ∃ v L, o = .returned v ∧ Q_own_pick0 Z A h0 n0 v U'.heap L ∧ FrameEnd U o U' L ({ frames := 0, cells := 0, slots := 0, locals := 0 } : Room).cells ({ frames := 0, cells := 0, slots := 0, locals := 0 } : Room).slots) (s₁.setTop (entryFrame m #[(.int (0 : Int32))] 1))
  refine own_st (V := s₁.setTop (mkF m 0 #[.val (.int (0 : Int32))] [])) (fun t k => castTop (by first | (simp [entryFrame, mkF, argsToLocals, Value.category]; done) | rfl) k) ?_
  refine own_st (V := s₁.setTop (mkF m 1 #[.val (.int (0 : Int32))] [(.int (0 : Int32))])) (fun t k => XS.iloadN X0.here hx rfl (hb hby own_d1_0) rfl k) ?_
  refine own_st (V := s₁.setTop (mkF m 4 #[.val (.int (0 : Int32))] [])) (fun t k => XS.ifNo X0.here hx rfl (hb hby own_d1_1) rfl ((if0 _ _).trans (teq (by decide : (0 : Int32) = (0 : Int32))).2) k) ?_
  obtain ⟨T2, X2, e2, st2⟩ := getS2 X0 hx hZ hown (host := "") (Or.inl (hw _ (List.mem_of_getElem? (i := 5) rfl))) Via.refl e0 (own_S En 0 (i := 0) (n := "EQUAL") rfl) (g := (mkF m 4 #[.val (.int (0 : Int32))] [])) rfl (hb hby own_d1_4)
  refine own_st (V := T2.setTop (mkF m 7 #[.val (.int (0 : Int32))] [(.ref (A 0))])) (fun t k => st2 _ k) ?_
  exact own_ret X2 hx hlk Bd.returns rfl (Or.inr (Or.inr (Or.inr (Or.inr ⟨rfl, rfl, rfl⟩)))) (hb hby own_d1_7) (by decide) (by decide) (by show Q_own_pick0 Z A h0 n0 _ T2.heap _; rw [e2]; exact ⟨rfl, N0, rfl⟩)
def Q_own_ad0 (Z : State) (A : Nat → Addr) (h0 : Heap) (n0 : Nat) (v : Option Value) (h : Heap) (L : List Loc) : Prop := v = some (.int (2 : Int32)) ∧ Fr n0 L ∧ h = h0
theorem own_d2_0 : decode method_3_code 0 = .ok (.iload_n 0, 1) := by decide +kernel
theorem own_d2_1 : decode method_3_code 1 = .ok (.ifCond .ne 5, 3) := by decide +kernel
theorem own_d2_4 : decode method_3_code 4 = .ok (.iconst 2, 1) := by decide +kernel
theorem own_d2_5 : decode method_3_code 5 = .ok (.ireturn, 1) := by decide +kernel
set_option maxRecDepth 65536 in
set_option maxHeartbeats 40000000 in
theorem own_ad0 (l : Launch) (Z : State) (a0 : Array Value) (hw : ∀ d ∈ tables_1, d.before a0 Z = true) (ws : List Jvm.Cond) (A : Nat → Addr) (h0 : Heap) (n0 : Nat) (Z0 : n0 ≤ h0.size) (En : own_En Z h0 A) :
    MetFree l (⟨"com/example/affirm_rows/affirmrows/rules/ComparisonHoldsPinLaw", "admittedSigns", "(I)I"⟩ : MethodName) (head1 (Jvm.Cond.code (⟨"com/example/affirm_rows/affirmrows/rules/ComparisonHoldsPinLaw", "admittedSigns", "(I)I"⟩ : MethodName) method_3_code 1 (some .int) :: ws) ({ frames := 0, cells := 0, slots := 0, locals := 0 } : Room)) (fun a U => a = #[(.int (0 : Int32))] ∧ Z.Warmed39 U.vm ∧ U.heap = h0) (fun _ _ _ _ _ => True) (fun _ U o U' => ∃ v L, o = .returned v ∧ Q_own_ad0 Z A h0 n0 v U'.heap L ∧ FrameEnd U o U' L ({ frames := 0, cells := 0, slots := 0, locals := 0 } : Room).cells ({ frames := 0, cells := 0, slots := 0, locals := 0 } : Room).slots) := by
  refine MetFree.of_bodySF (plainFor_of_name own_pn_com_example_affirm_rows_affirmrows_rules_ComparisonHoldsPinLaw) hisR ?_
  intro p e s m args below meth c s₁ Bd hml0 hP hK
  obtain ⟨rfl, hZ, hh⟩ := hP
  have hx := Bd.exec
  have hby := Bd.bytes
  have hml : c.maxLocals = 1 := hml0
  have hown : s.vm.findClass "com/example/affirm_rows/affirmrows/rules/ComparisonHoldsPinLaw" = some m.cls := findClass_of_methodNamed Bd.named
  have hnm := (name_of_methodNamed Bd.named Bd.method).1
  have hlk : meth.locks = false := BodyLoose.notSynchronized Bd
  have X0 : Stand p l e ({ frames := 0, cells := 0, slots := 0, locals := 0 } : Room) s m #[(.int (0 : Int32))] below meth c s₁ [] 0 0 := Stand.of_body Bd
  have e0 : s₁.heap = h0 := by rw [← hh, Bd.state]; rfl
  have N0 := Fr.nil n0
  show own_Go p e below #[(.int (0 : Int32))] s (fun _ U o U' => ∃ v L, o = .returned v ∧ Q_own_ad0 Z A h0 n0 v U'.heap L ∧ FrameEnd U o U' L ({ frames := 0, cells := 0, slots := 0, locals := 0 } : Room).cells ({ frames := 0, cells := 0, slots := 0, locals := 0 } : Room).slots) (s₁.setTop (entryFrame m #[(.int (0 : Int32))] 1))
  refine own_st (V := s₁.setTop (mkF m 0 #[.val (.int (0 : Int32))] [])) (fun t k => castTop (by first | (simp [entryFrame, mkF, argsToLocals, Value.category]; done) | rfl) k) ?_
  refine own_st (V := s₁.setTop (mkF m 1 #[.val (.int (0 : Int32))] [(.int (0 : Int32))])) (fun t k => XS.iloadN X0.here hx rfl (hb hby own_d2_0) rfl k) ?_
  refine own_st (V := s₁.setTop (mkF m 4 #[.val (.int (0 : Int32))] [])) (fun t k => XS.ifNo X0.here hx rfl (hb hby own_d2_1) rfl ((if0 _ _).trans (teq (by decide : (0 : Int32) = (0 : Int32))).2) k) ?_
  refine own_st (V := s₁.setTop (mkF m 5 #[.val (.int (0 : Int32))] [(.int (2 : Int32))])) (fun t k => XS.iconst X0.here hx rfl (hb hby own_d2_4) k) ?_
  exact own_ret X0 hx hlk Bd.returns rfl (Or.inl ⟨rfl, by simp, _, rfl⟩) (hb hby own_d2_5) (by decide) (by decide) (by show Q_own_ad0 Z A h0 n0 _ s₁.heap _; rw [e0]; exact ⟨rfl, N0, rfl⟩)
def Q_own_ho0n (Z : State) (q1 : Int32) (A : Nat → Addr) (h0 : Heap) (n0 : Nat) (v : Option Value) (h : Heap) (L : List Loc) : Prop := v = some (.int (0 : Int32)) ∧ Fr n0 L ∧ h = h0
theorem own_d3_0 : decode prog_45_method_6_code 0 = .ok (.aload_n 0, 1) := by decide +kernel
theorem own_d3_1 : decode prog_45_method_6_code 1 = .ok (.invokevirtual 70, 3) := by decide +kernel
theorem own_pd0 : parseMethodDescriptor "()I" = some ⟨[], some .int⟩ := by decide +kernel
theorem own_d3_4 : decode prog_45_method_6_code 4 = .ok (.tableswitch 40 0 5 #[50, 62, 74, 86, 98, 110], 40) := by decide +kernel
theorem own_d3_54 : decode prog_45_method_6_code 54 = .ok (.iload_n 1, 1) := by decide +kernel
theorem own_d3_55 : decode prog_45_method_6_code 55 = .ok (.ifCond .ne 7, 3) := by decide +kernel
theorem own_d3_62 : decode prog_45_method_6_code 62 = .ok (.iconst 0, 1) := by decide +kernel
theorem own_d3_63 : decode prog_45_method_6_code 63 = .ok (.goto 60, 3) := by decide +kernel
theorem own_d3_123 : decode prog_45_method_6_code 123 = .ok (.ireturn, 1) := by decide +kernel
theorem own_pn_com_example_affirm_rows_affirmrows_rules_Comparison : plainName "com/example/affirm_rows/affirmrows/rules/Comparison" = true := by first | (simp [plainName, overriddenIn]; done) | decide +kernel
set_option maxRecDepth 65536 in
set_option maxHeartbeats 40000000 in
theorem own_ho0n (l : Launch) (Z : State) (a0 : Array Value) (hw : ∀ d ∈ tables_1, d.before a0 Z = true) (ws : List Jvm.Cond) (q1 : Int32) (A : Nat → Addr) (h0 : Heap) (n0 : Nat) (Z0 : n0 ≤ h0.size) (En : own_En Z h0 A) (hs : q1 < (0 : Int32)) :
    MetFree l (⟨"com/example/affirm_rows/affirmrows/rules/Comparison", "holds", "(I)Z"⟩ : MethodName) (head1 (Jvm.Cond.code (⟨"com/example/affirm_rows/affirmrows/rules/Comparison", "holds", "(I)Z"⟩ : MethodName) prog_45_method_6_code 2 (some .boolean) :: ws) ({ frames := 1, cells := 0, slots := 0, locals := 12 } : Room)) (fun a U => a = #[(.ref (A 0)), (.int q1)] ∧ Z.Warmed39 U.vm ∧ U.heap = h0) (fun _ _ _ _ _ => True) (fun _ U o U' => ∃ v L, o = .returned v ∧ Q_own_ho0n Z q1 A h0 n0 v U'.heap L ∧ FrameEnd U o U' L ({ frames := 1, cells := 0, slots := 0, locals := 12 } : Room).cells ({ frames := 1, cells := 0, slots := 0, locals := 12 } : Room).slots) := by
  refine MetFree.of_bodySF (plainFor_of_name own_pn_com_example_affirm_rows_affirmrows_rules_Comparison) hisR ?_
  intro p e s m args below meth c s₁ Bd hml0 hP hK
  obtain ⟨rfl, hZ, hh⟩ := hP
  have hx := Bd.exec
  have hby := Bd.bytes
  have hml : c.maxLocals = 2 := hml0
  have hown : s.vm.findClass "com/example/affirm_rows/affirmrows/rules/Comparison" = some m.cls := findClass_of_methodNamed Bd.named
  have hnm := (name_of_methodNamed Bd.named Bd.method).1
  have hlk : meth.locks = false := BodyLoose.notSynchronized Bd
  have X0 : Stand p l e ({ frames := 1, cells := 0, slots := 0, locals := 12 } : Room) s m #[(.ref (A 0)), (.int q1)] below meth c s₁ [] 0 0 := Stand.of_body Bd
  have e0 : s₁.heap = h0 := by rw [← hh, Bd.state]; rfl
  have N0 := Fr.nil n0
  show own_Go p e below #[(.ref (A 0)), (.int q1)] s (fun _ U o U' => ∃ v L, o = .returned v ∧ Q_own_ho0n Z q1 A h0 n0 v U'.heap L ∧ FrameEnd U o U' L ({ frames := 1, cells := 0, slots := 0, locals := 12 } : Room).cells ({ frames := 1, cells := 0, slots := 0, locals := 12 } : Room).slots) (s₁.setTop (entryFrame m #[(.ref (A 0)), (.int q1)] 2))
  refine own_st (V := s₁.setTop (mkF m 0 #[.val (.ref (A 0)), .val (.int q1)] [])) (fun t k => castTop (by first | (simp [entryFrame, mkF, argsToLocals, Value.category]; done) | rfl) k) ?_
  refine own_st (V := s₁.setTop (mkF m 1 #[.val (.ref (A 0)), .val (.int q1)] [(.ref (A 0))])) (fun t k => XS.aloadN X0.here hx rfl (hb hby own_d3_0) rfl rfl k) ?_
  obtain ⟨cq3, kq3, q3a, q3b, q3c⟩ := isOf hZ e0 (own_E En 0 (i := 0) (n := "EQUAL") rfl)
  obtain ⟨_, _, ⟨T3, L3, k3, n3⟩, -, X3, ⟨Lc3, hQ3, l3, y3, z3⟩, st3⟩ := X0.virtualBackUp hx (x := (⟨"com/example/affirm_rows/affirmrows/rules/Comparison", "ordinal", "()I"⟩ : MethodName)) (y := (⟨"java/lang/Enum", "ordinal", "()I"⟩ : MethodName)) hown (mvT hZ (hw _ (List.mem_of_getElem? (i := 16) rfl))) (mvT hZ (hw _ (List.mem_of_getElem? (i := 17) rfl))) (mvT hZ (hw _ (List.mem_of_getElem? (i := 18) rfl))) (by decide) (mvT hZ (hw _ (List.mem_of_getElem? (i := 20) rfl))) (mvT hZ (hw _ (List.mem_of_getElem? (i := 19) rfl))) (backOf (W := 0) (own_ord0 l Z a0 hw [] A h0 n0 Z0 En ) hZ (hw _ (List.mem_of_getElem? (i := 22) rfl)) (hw _ (List.mem_of_getElem? (i := 21) rfl)) (by decide) (by decide)) q3a q3c (g := (mkF m 1 #[.val (.ref (A 0)), .val (.int q1)] [(.ref (A 0))])) rfl (by rw [hml]; rfl) (Steps.refl _) (argsL := []) (rest := []) (lenOf own_pd0 rfl) rfl (by show 2 * 0 + _ ≤ _; exact Nat.le_of_eq rfl) (hb hby own_d3_1) (fun _ _ => ⟨rfl, e0, (by decide : 0 + 0 ≤ _), (by decide : 0 + 0 ≤ _)⟩)
  dsimp only [Pt.U, Pt.locs, Pt.cells, Pt.slots] at X3 l3 y3 z3 st3 hQ3
  subst l3 y3 z3
  obtain ⟨rfl, N3q, e3⟩ := hQ3
  have N3 := Fr.app N0 N3q
  refine own_st (V := T3.setTop (mkF m 4 #[.val (.ref (A 0)), .val (.int q1)] [(.int (0 : Int32))])) (fun t k => st3.trans k) ?_
  refine own_st (V := T3.setTop (mkF m 54 #[.val (.ref (A 0)), .val (.int q1)] [])) (fun t k => XS.tswIn X3.here hx rfl (pc0 := 4) (pc' := 54) rfl (hb hby own_d3_4) rfl (by decide) (o := 50) rfl (by decide) rfl k) ?_
  refine own_st (V := T3.setTop (mkF m 55 #[.val (.ref (A 0)), .val (.int q1)] [(.int q1)])) (fun t k => XS.iloadN X3.here hx rfl (hb hby own_d3_54) rfl k) ?_
  refine own_st (V := T3.setTop (mkF m 62 #[.val (.ref (A 0)), .val (.int q1)] [])) (fun t k => XS.ifYes X3.here hx rfl (pc0 := 55) (pc' := 62) rfl (hb hby own_d3_55) rfl ((if0 _ _).trans (feq (own_n1 hs)).2) (by decide) (by decide) k) ?_
  refine own_st (V := T3.setTop (mkF m 63 #[.val (.ref (A 0)), .val (.int q1)] [(.int (0 : Int32))])) (fun t k => XS.iconst X3.here hx rfl (hb hby own_d3_62) k) ?_
  refine own_st (V := T3.setTop (mkF m 123 #[.val (.ref (A 0)), .val (.int q1)] [(.int (0 : Int32))])) (fun t k => XS.goto X3.here hx rfl (pc0 := 63) (pc' := 123) rfl (hb hby own_d3_63) (by decide) (by decide) k) ?_
  exact own_ret X3 hx hlk Bd.returns (by decide +kernel) (Or.inl ⟨rfl, by simp, _, rfl⟩) (hb hby own_d3_123) (by decide) (by decide) (by show Q_own_ho0n Z q1 A h0 n0 _ T3.heap _; rw [e3]; exact ⟨rfl, N3, rfl⟩)
def Q_own_ho0z (Z : State) (q1 : Int32) (A : Nat → Addr) (h0 : Heap) (n0 : Nat) (v : Option Value) (h : Heap) (L : List Loc) : Prop := v = some (.int (1 : Int32)) ∧ Fr n0 L ∧ h = h0
theorem own_d3_58 : decode prog_45_method_6_code 58 = .ok (.iconst 1, 1) := by decide +kernel
theorem own_d3_59 : decode prog_45_method_6_code 59 = .ok (.goto 64, 3) := by decide +kernel
set_option maxRecDepth 65536 in
set_option maxHeartbeats 40000000 in
theorem own_ho0z (l : Launch) (Z : State) (a0 : Array Value) (hw : ∀ d ∈ tables_1, d.before a0 Z = true) (ws : List Jvm.Cond) (q1 : Int32) (A : Nat → Addr) (h0 : Heap) (n0 : Nat) (Z0 : n0 ≤ h0.size) (En : own_En Z h0 A) (hs : q1 = (0 : Int32)) :
    MetFree l (⟨"com/example/affirm_rows/affirmrows/rules/Comparison", "holds", "(I)Z"⟩ : MethodName) (head1 (Jvm.Cond.code (⟨"com/example/affirm_rows/affirmrows/rules/Comparison", "holds", "(I)Z"⟩ : MethodName) prog_45_method_6_code 2 (some .boolean) :: ws) ({ frames := 1, cells := 0, slots := 0, locals := 12 } : Room)) (fun a U => a = #[(.ref (A 0)), (.int q1)] ∧ Z.Warmed39 U.vm ∧ U.heap = h0) (fun _ _ _ _ _ => True) (fun _ U o U' => ∃ v L, o = .returned v ∧ Q_own_ho0z Z q1 A h0 n0 v U'.heap L ∧ FrameEnd U o U' L ({ frames := 1, cells := 0, slots := 0, locals := 12 } : Room).cells ({ frames := 1, cells := 0, slots := 0, locals := 12 } : Room).slots) := by
  refine MetFree.of_bodySF (plainFor_of_name own_pn_com_example_affirm_rows_affirmrows_rules_Comparison) hisR ?_
  intro p e s m args below meth c s₁ Bd hml0 hP hK
  obtain ⟨rfl, hZ, hh⟩ := hP
  have hx := Bd.exec
  have hby := Bd.bytes
  have hml : c.maxLocals = 2 := hml0
  have hown : s.vm.findClass "com/example/affirm_rows/affirmrows/rules/Comparison" = some m.cls := findClass_of_methodNamed Bd.named
  have hnm := (name_of_methodNamed Bd.named Bd.method).1
  have hlk : meth.locks = false := BodyLoose.notSynchronized Bd
  have X0 : Stand p l e ({ frames := 1, cells := 0, slots := 0, locals := 12 } : Room) s m #[(.ref (A 0)), (.int q1)] below meth c s₁ [] 0 0 := Stand.of_body Bd
  have e0 : s₁.heap = h0 := by rw [← hh, Bd.state]; rfl
  have N0 := Fr.nil n0
  show own_Go p e below #[(.ref (A 0)), (.int q1)] s (fun _ U o U' => ∃ v L, o = .returned v ∧ Q_own_ho0z Z q1 A h0 n0 v U'.heap L ∧ FrameEnd U o U' L ({ frames := 1, cells := 0, slots := 0, locals := 12 } : Room).cells ({ frames := 1, cells := 0, slots := 0, locals := 12 } : Room).slots) (s₁.setTop (entryFrame m #[(.ref (A 0)), (.int q1)] 2))
  refine own_st (V := s₁.setTop (mkF m 0 #[.val (.ref (A 0)), .val (.int q1)] [])) (fun t k => castTop (by first | (simp [entryFrame, mkF, argsToLocals, Value.category]; done) | rfl) k) ?_
  refine own_st (V := s₁.setTop (mkF m 1 #[.val (.ref (A 0)), .val (.int q1)] [(.ref (A 0))])) (fun t k => XS.aloadN X0.here hx rfl (hb hby own_d3_0) rfl rfl k) ?_
  obtain ⟨cq4, kq4, q4a, q4b, q4c⟩ := isOf hZ e0 (own_E En 0 (i := 0) (n := "EQUAL") rfl)
  obtain ⟨_, _, ⟨T4, L4, k4, n4⟩, -, X4, ⟨Lc4, hQ4, l4, y4, z4⟩, st4⟩ := X0.virtualBackUp hx (x := (⟨"com/example/affirm_rows/affirmrows/rules/Comparison", "ordinal", "()I"⟩ : MethodName)) (y := (⟨"java/lang/Enum", "ordinal", "()I"⟩ : MethodName)) hown (mvT hZ (hw _ (List.mem_of_getElem? (i := 16) rfl))) (mvT hZ (hw _ (List.mem_of_getElem? (i := 17) rfl))) (mvT hZ (hw _ (List.mem_of_getElem? (i := 18) rfl))) (by decide) (mvT hZ (hw _ (List.mem_of_getElem? (i := 20) rfl))) (mvT hZ (hw _ (List.mem_of_getElem? (i := 19) rfl))) (backOf (W := 0) (own_ord0 l Z a0 hw [] A h0 n0 Z0 En ) hZ (hw _ (List.mem_of_getElem? (i := 22) rfl)) (hw _ (List.mem_of_getElem? (i := 21) rfl)) (by decide) (by decide)) q4a q4c (g := (mkF m 1 #[.val (.ref (A 0)), .val (.int q1)] [(.ref (A 0))])) rfl (by rw [hml]; rfl) (Steps.refl _) (argsL := []) (rest := []) (lenOf own_pd0 rfl) rfl (by show 2 * 0 + _ ≤ _; exact Nat.le_of_eq rfl) (hb hby own_d3_1) (fun _ _ => ⟨rfl, e0, (by decide : 0 + 0 ≤ _), (by decide : 0 + 0 ≤ _)⟩)
  dsimp only [Pt.U, Pt.locs, Pt.cells, Pt.slots] at X4 l4 y4 z4 st4 hQ4
  subst l4 y4 z4
  obtain ⟨rfl, N4q, e4⟩ := hQ4
  have N4 := Fr.app N0 N4q
  refine own_st (V := T4.setTop (mkF m 4 #[.val (.ref (A 0)), .val (.int q1)] [(.int (0 : Int32))])) (fun t k => st4.trans k) ?_
  refine own_st (V := T4.setTop (mkF m 54 #[.val (.ref (A 0)), .val (.int q1)] [])) (fun t k => XS.tswIn X4.here hx rfl (pc0 := 4) (pc' := 54) rfl (hb hby own_d3_4) rfl (by decide) (o := 50) rfl (by decide) rfl k) ?_
  refine own_st (V := T4.setTop (mkF m 55 #[.val (.ref (A 0)), .val (.int q1)] [(.int q1)])) (fun t k => XS.iloadN X4.here hx rfl (hb hby own_d3_54) rfl k) ?_
  refine own_st (V := T4.setTop (mkF m 58 #[.val (.ref (A 0)), .val (.int q1)] [])) (fun t k => XS.ifNo X4.here hx rfl (hb hby own_d3_55) rfl ((if0 _ _).trans (teq hs).2) k) ?_
  refine own_st (V := T4.setTop (mkF m 59 #[.val (.ref (A 0)), .val (.int q1)] [(.int (1 : Int32))])) (fun t k => XS.iconst X4.here hx rfl (hb hby own_d3_58) k) ?_
  refine own_st (V := T4.setTop (mkF m 123 #[.val (.ref (A 0)), .val (.int q1)] [(.int (1 : Int32))])) (fun t k => XS.goto X4.here hx rfl (pc0 := 59) (pc' := 123) rfl (hb hby own_d3_59) (by decide) (by decide) k) ?_
  exact own_ret X4 hx hlk Bd.returns (by decide +kernel) (Or.inl ⟨rfl, by simp, _, rfl⟩) (hb hby own_d3_123) (by decide) (by decide) (by show Q_own_ho0z Z q1 A h0 n0 _ T4.heap _; rw [e4]; exact ⟨rfl, N4, rfl⟩)
def Q_own_ho0p (Z : State) (q1 : Int32) (A : Nat → Addr) (h0 : Heap) (n0 : Nat) (v : Option Value) (h : Heap) (L : List Loc) : Prop := v = some (.int (0 : Int32)) ∧ Fr n0 L ∧ h = h0
set_option maxRecDepth 65536 in
set_option maxHeartbeats 40000000 in
theorem own_ho0p (l : Launch) (Z : State) (a0 : Array Value) (hw : ∀ d ∈ tables_1, d.before a0 Z = true) (ws : List Jvm.Cond) (q1 : Int32) (A : Nat → Addr) (h0 : Heap) (n0 : Nat) (Z0 : n0 ≤ h0.size) (En : own_En Z h0 A) (hs : (0 : Int32) < q1) :
    MetFree l (⟨"com/example/affirm_rows/affirmrows/rules/Comparison", "holds", "(I)Z"⟩ : MethodName) (head1 (Jvm.Cond.code (⟨"com/example/affirm_rows/affirmrows/rules/Comparison", "holds", "(I)Z"⟩ : MethodName) prog_45_method_6_code 2 (some .boolean) :: ws) ({ frames := 1, cells := 0, slots := 0, locals := 12 } : Room)) (fun a U => a = #[(.ref (A 0)), (.int q1)] ∧ Z.Warmed39 U.vm ∧ U.heap = h0) (fun _ _ _ _ _ => True) (fun _ U o U' => ∃ v L, o = .returned v ∧ Q_own_ho0p Z q1 A h0 n0 v U'.heap L ∧ FrameEnd U o U' L ({ frames := 1, cells := 0, slots := 0, locals := 12 } : Room).cells ({ frames := 1, cells := 0, slots := 0, locals := 12 } : Room).slots) := by
  refine MetFree.of_bodySF (plainFor_of_name own_pn_com_example_affirm_rows_affirmrows_rules_Comparison) hisR ?_
  intro p e s m args below meth c s₁ Bd hml0 hP hK
  obtain ⟨rfl, hZ, hh⟩ := hP
  have hx := Bd.exec
  have hby := Bd.bytes
  have hml : c.maxLocals = 2 := hml0
  have hown : s.vm.findClass "com/example/affirm_rows/affirmrows/rules/Comparison" = some m.cls := findClass_of_methodNamed Bd.named
  have hnm := (name_of_methodNamed Bd.named Bd.method).1
  have hlk : meth.locks = false := BodyLoose.notSynchronized Bd
  have X0 : Stand p l e ({ frames := 1, cells := 0, slots := 0, locals := 12 } : Room) s m #[(.ref (A 0)), (.int q1)] below meth c s₁ [] 0 0 := Stand.of_body Bd
  have e0 : s₁.heap = h0 := by rw [← hh, Bd.state]; rfl
  have N0 := Fr.nil n0
  show own_Go p e below #[(.ref (A 0)), (.int q1)] s (fun _ U o U' => ∃ v L, o = .returned v ∧ Q_own_ho0p Z q1 A h0 n0 v U'.heap L ∧ FrameEnd U o U' L ({ frames := 1, cells := 0, slots := 0, locals := 12 } : Room).cells ({ frames := 1, cells := 0, slots := 0, locals := 12 } : Room).slots) (s₁.setTop (entryFrame m #[(.ref (A 0)), (.int q1)] 2))
  refine own_st (V := s₁.setTop (mkF m 0 #[.val (.ref (A 0)), .val (.int q1)] [])) (fun t k => castTop (by first | (simp [entryFrame, mkF, argsToLocals, Value.category]; done) | rfl) k) ?_
  refine own_st (V := s₁.setTop (mkF m 1 #[.val (.ref (A 0)), .val (.int q1)] [(.ref (A 0))])) (fun t k => XS.aloadN X0.here hx rfl (hb hby own_d3_0) rfl rfl k) ?_
  obtain ⟨cq5, kq5, q5a, q5b, q5c⟩ := isOf hZ e0 (own_E En 0 (i := 0) (n := "EQUAL") rfl)
  obtain ⟨_, _, ⟨T5, L5, k5, n5⟩, -, X5, ⟨Lc5, hQ5, l5, y5, z5⟩, st5⟩ := X0.virtualBackUp hx (x := (⟨"com/example/affirm_rows/affirmrows/rules/Comparison", "ordinal", "()I"⟩ : MethodName)) (y := (⟨"java/lang/Enum", "ordinal", "()I"⟩ : MethodName)) hown (mvT hZ (hw _ (List.mem_of_getElem? (i := 16) rfl))) (mvT hZ (hw _ (List.mem_of_getElem? (i := 17) rfl))) (mvT hZ (hw _ (List.mem_of_getElem? (i := 18) rfl))) (by decide) (mvT hZ (hw _ (List.mem_of_getElem? (i := 20) rfl))) (mvT hZ (hw _ (List.mem_of_getElem? (i := 19) rfl))) (backOf (W := 0) (own_ord0 l Z a0 hw [] A h0 n0 Z0 En ) hZ (hw _ (List.mem_of_getElem? (i := 22) rfl)) (hw _ (List.mem_of_getElem? (i := 21) rfl)) (by decide) (by decide)) q5a q5c (g := (mkF m 1 #[.val (.ref (A 0)), .val (.int q1)] [(.ref (A 0))])) rfl (by rw [hml]; rfl) (Steps.refl _) (argsL := []) (rest := []) (lenOf own_pd0 rfl) rfl (by show 2 * 0 + _ ≤ _; exact Nat.le_of_eq rfl) (hb hby own_d3_1) (fun _ _ => ⟨rfl, e0, (by decide : 0 + 0 ≤ _), (by decide : 0 + 0 ≤ _)⟩)
  dsimp only [Pt.U, Pt.locs, Pt.cells, Pt.slots] at X5 l5 y5 z5 st5 hQ5
  subst l5 y5 z5
  obtain ⟨rfl, N5q, e5⟩ := hQ5
  have N5 := Fr.app N0 N5q
  refine own_st (V := T5.setTop (mkF m 4 #[.val (.ref (A 0)), .val (.int q1)] [(.int (0 : Int32))])) (fun t k => st5.trans k) ?_
  refine own_st (V := T5.setTop (mkF m 54 #[.val (.ref (A 0)), .val (.int q1)] [])) (fun t k => XS.tswIn X5.here hx rfl (pc0 := 4) (pc' := 54) rfl (hb hby own_d3_4) rfl (by decide) (o := 50) rfl (by decide) rfl k) ?_
  refine own_st (V := T5.setTop (mkF m 55 #[.val (.ref (A 0)), .val (.int q1)] [(.int q1)])) (fun t k => XS.iloadN X5.here hx rfl (hb hby own_d3_54) rfl k) ?_
  refine own_st (V := T5.setTop (mkF m 62 #[.val (.ref (A 0)), .val (.int q1)] [])) (fun t k => XS.ifYes X5.here hx rfl (pc0 := 55) (pc' := 62) rfl (hb hby own_d3_55) rfl ((if0 _ _).trans (feq (own_p2 hs)).2) (by decide) (by decide) k) ?_
  refine own_st (V := T5.setTop (mkF m 63 #[.val (.ref (A 0)), .val (.int q1)] [(.int (0 : Int32))])) (fun t k => XS.iconst X5.here hx rfl (hb hby own_d3_62) k) ?_
  refine own_st (V := T5.setTop (mkF m 123 #[.val (.ref (A 0)), .val (.int q1)] [(.int (0 : Int32))])) (fun t k => XS.goto X5.here hx rfl (pc0 := 63) (pc' := 123) rfl (hb hby own_d3_63) (by decide) (by decide) k) ?_
  exact own_ret X5 hx hlk Bd.returns (by decide +kernel) (Or.inl ⟨rfl, by simp, _, rfl⟩) (hb hby own_d3_123) (by decide) (by decide) (by show Q_own_ho0p Z q1 A h0 n0 _ T5.heap _; rw [e5]; exact ⟨rfl, N5, rfl⟩)
def Q_own_ord1 (Z : State) (A : Nat → Addr) (h0 : Heap) (n0 : Nat) (v : Option Value) (h : Heap) (L : List Loc) : Prop := v = some (.int (1 : Int32)) ∧ Fr n0 L ∧ h = h0
set_option maxRecDepth 65536 in
set_option maxHeartbeats 40000000 in
theorem own_ord1 (l : Launch) (Z : State) (a0 : Array Value) (hw : ∀ d ∈ tables_1, d.before a0 Z = true) (ws : List Jvm.Cond) (A : Nat → Addr) (h0 : Heap) (n0 : Nat) (Z0 : n0 ≤ h0.size) (En : own_En Z h0 A) :
    MetFree l (⟨"java/lang/Enum", "ordinal", "()I"⟩ : MethodName) (head1 (Jvm.Cond.code (⟨"java/lang/Enum", "ordinal", "()I"⟩ : MethodName) jdk_37_method_2_code 1 (some .int) :: ws) ({ frames := 0, cells := 0, slots := 0, locals := 0 } : Room)) (fun a U => a = #[(.ref (A 1))] ∧ Z.Warmed39 U.vm ∧ U.heap = h0) (fun _ _ _ _ _ => True) (fun _ U o U' => ∃ v L, o = .returned v ∧ Q_own_ord1 Z A h0 n0 v U'.heap L ∧ FrameEnd U o U' L ({ frames := 0, cells := 0, slots := 0, locals := 0 } : Room).cells ({ frames := 0, cells := 0, slots := 0, locals := 0 } : Room).slots) := by
  refine MetFree.of_bodySF (plainFor_of_name own_pn_java_lang_Enum) hisR ?_
  intro p e s m args below meth c s₁ Bd hml0 hP hK
  obtain ⟨rfl, hZ, hh⟩ := hP
  have hx := Bd.exec
  have hby := Bd.bytes
  have hml : c.maxLocals = 1 := hml0
  have hown : s.vm.findClass "java/lang/Enum" = some m.cls := findClass_of_methodNamed Bd.named
  have hnm := (name_of_methodNamed Bd.named Bd.method).1
  have hlk : meth.locks = false := BodyLoose.notSynchronized Bd
  have X0 : Stand p l e ({ frames := 0, cells := 0, slots := 0, locals := 0 } : Room) s m #[(.ref (A 1))] below meth c s₁ [] 0 0 := Stand.of_body Bd
  have e0 : s₁.heap = h0 := by rw [← hh, Bd.state]; rfl
  have N0 := Fr.nil n0
  show own_Go p e below #[(.ref (A 1))] s (fun _ U o U' => ∃ v L, o = .returned v ∧ Q_own_ord1 Z A h0 n0 v U'.heap L ∧ FrameEnd U o U' L ({ frames := 0, cells := 0, slots := 0, locals := 0 } : Room).cells ({ frames := 0, cells := 0, slots := 0, locals := 0 } : Room).slots) (s₁.setTop (entryFrame m #[(.ref (A 1))] 1))
  refine own_st (V := s₁.setTop (mkF m 0 #[.val (.ref (A 1))] [])) (fun t k => castTop (by first | (simp [entryFrame, mkF, argsToLocals, Value.category]; done) | rfl) k) ?_
  refine own_st (V := s₁.setTop (mkF m 1 #[.val (.ref (A 1))] [(.ref (A 1))])) (fun t k => XS.aloadN X0.here hx rfl (hb hby own_d4_0) rfl rfl k) ?_
  obtain ⟨T6, X6, e6, st6⟩ := getF X0 hx hZ hown (host := "") (Or.inl (hw _ (List.mem_of_getElem? (i := 23) rfl))) Via.refl e0 (own_O En 1 (i := 1) (n := "NOT_EQUAL") rfl) (g := (mkF m 1 #[.val (.ref (A 1))] [(.ref (A 1))])) rfl rfl (hb hby own_d4_1)
  refine own_st (V := T6.setTop (mkF m 4 #[.val (.ref (A 1))] [(.int (1 : Int32))])) (fun t k => st6 _ k) ?_
  exact own_ret X6 hx hlk Bd.returns rfl (Or.inl ⟨rfl, by simp, _, rfl⟩) (hb hby own_d4_4) (by decide) (by decide) (by show Q_own_ord1 Z A h0 n0 _ T6.heap _; rw [e6]; exact ⟨rfl, N0, rfl⟩)
def Q_own_pick1 (Z : State) (A : Nat → Addr) (h0 : Heap) (n0 : Nat) (v : Option Value) (h : Heap) (L : List Loc) : Prop := v = some (.ref (A 1)) ∧ Fr n0 L ∧ h = h0
theorem own_d1_8 : decode method_2_code 8 = .ok (.iload_n 0, 1) := by decide +kernel
theorem own_d1_9 : decode method_2_code 9 = .ok (.iconst 1, 1) := by decide +kernel
theorem own_d1_10 : decode method_2_code 10 = .ok (.if_icmp .ne 7, 3) := by decide +kernel
theorem own_d1_13 : decode method_2_code 13 = .ok (.getstatic 13, 3) := by decide +kernel
theorem own_d1_16 : decode method_2_code 16 = .ok (.areturn, 1) := by decide +kernel
set_option maxRecDepth 65536 in
set_option maxHeartbeats 40000000 in
theorem own_pick1 (l : Launch) (Z : State) (a0 : Array Value) (hw : ∀ d ∈ tables_1, d.before a0 Z = true) (ws : List Jvm.Cond) (A : Nat → Addr) (h0 : Heap) (n0 : Nat) (Z0 : n0 ≤ h0.size) (En : own_En Z h0 A) :
    MetFree l (⟨"com/example/affirm_rows/affirmrows/rules/ComparisonHoldsPinLaw", "pick", "(I)Lcom/example/affirm_rows/affirmrows/rules/Comparison;"⟩ : MethodName) (head1 (Jvm.Cond.code (⟨"com/example/affirm_rows/affirmrows/rules/ComparisonHoldsPinLaw", "pick", "(I)Lcom/example/affirm_rows/affirmrows/rules/Comparison;"⟩ : MethodName) method_2_code 1 (some (.object "com/example/affirm_rows/affirmrows/rules/Comparison")) :: ws) ({ frames := 0, cells := 0, slots := 0, locals := 0 } : Room)) (fun a U => a = #[(.int (1 : Int32))] ∧ Z.Warmed39 U.vm ∧ U.heap = h0) (fun _ _ _ _ _ => True) (fun _ U o U' => ∃ v L, o = .returned v ∧ Q_own_pick1 Z A h0 n0 v U'.heap L ∧ FrameEnd U o U' L ({ frames := 0, cells := 0, slots := 0, locals := 0 } : Room).cells ({ frames := 0, cells := 0, slots := 0, locals := 0 } : Room).slots) := by
  refine MetFree.of_bodySF (plainFor_of_name own_pn_com_example_affirm_rows_affirmrows_rules_ComparisonHoldsPinLaw) hisR ?_
  intro p e s m args below meth c s₁ Bd hml0 hP hK
  obtain ⟨rfl, hZ, hh⟩ := hP
  have hx := Bd.exec
  have hby := Bd.bytes
  have hml : c.maxLocals = 1 := hml0
  have hown : s.vm.findClass "com/example/affirm_rows/affirmrows/rules/ComparisonHoldsPinLaw" = some m.cls := findClass_of_methodNamed Bd.named
  have hnm := (name_of_methodNamed Bd.named Bd.method).1
  have hlk : meth.locks = false := BodyLoose.notSynchronized Bd
  have X0 : Stand p l e ({ frames := 0, cells := 0, slots := 0, locals := 0 } : Room) s m #[(.int (1 : Int32))] below meth c s₁ [] 0 0 := Stand.of_body Bd
  have e0 : s₁.heap = h0 := by rw [← hh, Bd.state]; rfl
  have N0 := Fr.nil n0
  show own_Go p e below #[(.int (1 : Int32))] s (fun _ U o U' => ∃ v L, o = .returned v ∧ Q_own_pick1 Z A h0 n0 v U'.heap L ∧ FrameEnd U o U' L ({ frames := 0, cells := 0, slots := 0, locals := 0 } : Room).cells ({ frames := 0, cells := 0, slots := 0, locals := 0 } : Room).slots) (s₁.setTop (entryFrame m #[(.int (1 : Int32))] 1))
  refine own_st (V := s₁.setTop (mkF m 0 #[.val (.int (1 : Int32))] [])) (fun t k => castTop (by first | (simp [entryFrame, mkF, argsToLocals, Value.category]; done) | rfl) k) ?_
  refine own_st (V := s₁.setTop (mkF m 1 #[.val (.int (1 : Int32))] [(.int (1 : Int32))])) (fun t k => XS.iloadN X0.here hx rfl (hb hby own_d1_0) rfl k) ?_
  refine own_st (V := s₁.setTop (mkF m 8 #[.val (.int (1 : Int32))] [])) (fun t k => XS.ifYes X0.here hx rfl (pc0 := 1) (pc' := 8) rfl (hb hby own_d1_1) rfl ((if0 _ _).trans (feq (by decide : ¬ ((1 : Int32) = (0 : Int32)))).2) (by decide) (by decide) k) ?_
  refine own_st (V := s₁.setTop (mkF m 9 #[.val (.int (1 : Int32))] [(.int (1 : Int32))])) (fun t k => XS.iloadN X0.here hx rfl (hb hby own_d1_8) rfl k) ?_
  refine own_st (V := s₁.setTop (mkF m 10 #[.val (.int (1 : Int32))] [(.int (1 : Int32)), (.int (1 : Int32))])) (fun t k => XS.iconst X0.here hx rfl (hb hby own_d1_9) k) ?_
  refine own_st (V := s₁.setTop (mkF m 13 #[.val (.int (1 : Int32))] [])) (fun t k => XS.icmpNo X0.here hx rfl (hb hby own_d1_10) rfl (teq (by decide : (1 : Int32) = (1 : Int32))).2 k) ?_
  obtain ⟨T7, X7, e7, st7⟩ := getS2 X0 hx hZ hown (host := "") (Or.inl (hw _ (List.mem_of_getElem? (i := 29) rfl))) Via.refl e0 (own_S En 1 (i := 1) (n := "NOT_EQUAL") rfl) (g := (mkF m 13 #[.val (.int (1 : Int32))] [])) rfl (hb hby own_d1_13)
  refine own_st (V := T7.setTop (mkF m 16 #[.val (.int (1 : Int32))] [(.ref (A 1))])) (fun t k => st7 _ k) ?_
  exact own_ret X7 hx hlk Bd.returns rfl (Or.inr (Or.inr (Or.inr (Or.inr ⟨rfl, rfl, rfl⟩)))) (hb hby own_d1_16) (by decide) (by decide) (by show Q_own_pick1 Z A h0 n0 _ T7.heap _; rw [e7]; exact ⟨rfl, N0, rfl⟩)
def Q_own_ad1 (Z : State) (A : Nat → Addr) (h0 : Heap) (n0 : Nat) (v : Option Value) (h : Heap) (L : List Loc) : Prop := v = some (.int (5 : Int32)) ∧ Fr n0 L ∧ h = h0
theorem own_d2_6 : decode method_3_code 6 = .ok (.iload_n 0, 1) := by decide +kernel
theorem own_d2_7 : decode method_3_code 7 = .ok (.iconst 1, 1) := by decide +kernel
theorem own_d2_8 : decode method_3_code 8 = .ok (.if_icmp .ne 5, 3) := by decide +kernel
theorem own_d2_11 : decode method_3_code 11 = .ok (.iconst 5, 1) := by decide +kernel
theorem own_d2_12 : decode method_3_code 12 = .ok (.ireturn, 1) := by decide +kernel
set_option maxRecDepth 65536 in
set_option maxHeartbeats 40000000 in
theorem own_ad1 (l : Launch) (Z : State) (a0 : Array Value) (hw : ∀ d ∈ tables_1, d.before a0 Z = true) (ws : List Jvm.Cond) (A : Nat → Addr) (h0 : Heap) (n0 : Nat) (Z0 : n0 ≤ h0.size) (En : own_En Z h0 A) :
    MetFree l (⟨"com/example/affirm_rows/affirmrows/rules/ComparisonHoldsPinLaw", "admittedSigns", "(I)I"⟩ : MethodName) (head1 (Jvm.Cond.code (⟨"com/example/affirm_rows/affirmrows/rules/ComparisonHoldsPinLaw", "admittedSigns", "(I)I"⟩ : MethodName) method_3_code 1 (some .int) :: ws) ({ frames := 0, cells := 0, slots := 0, locals := 0 } : Room)) (fun a U => a = #[(.int (1 : Int32))] ∧ Z.Warmed39 U.vm ∧ U.heap = h0) (fun _ _ _ _ _ => True) (fun _ U o U' => ∃ v L, o = .returned v ∧ Q_own_ad1 Z A h0 n0 v U'.heap L ∧ FrameEnd U o U' L ({ frames := 0, cells := 0, slots := 0, locals := 0 } : Room).cells ({ frames := 0, cells := 0, slots := 0, locals := 0 } : Room).slots) := by
  refine MetFree.of_bodySF (plainFor_of_name own_pn_com_example_affirm_rows_affirmrows_rules_ComparisonHoldsPinLaw) hisR ?_
  intro p e s m args below meth c s₁ Bd hml0 hP hK
  obtain ⟨rfl, hZ, hh⟩ := hP
  have hx := Bd.exec
  have hby := Bd.bytes
  have hml : c.maxLocals = 1 := hml0
  have hown : s.vm.findClass "com/example/affirm_rows/affirmrows/rules/ComparisonHoldsPinLaw" = some m.cls := findClass_of_methodNamed Bd.named
  have hnm := (name_of_methodNamed Bd.named Bd.method).1
  have hlk : meth.locks = false := BodyLoose.notSynchronized Bd
  have X0 : Stand p l e ({ frames := 0, cells := 0, slots := 0, locals := 0 } : Room) s m #[(.int (1 : Int32))] below meth c s₁ [] 0 0 := Stand.of_body Bd
  have e0 : s₁.heap = h0 := by rw [← hh, Bd.state]; rfl
  have N0 := Fr.nil n0
  show own_Go p e below #[(.int (1 : Int32))] s (fun _ U o U' => ∃ v L, o = .returned v ∧ Q_own_ad1 Z A h0 n0 v U'.heap L ∧ FrameEnd U o U' L ({ frames := 0, cells := 0, slots := 0, locals := 0 } : Room).cells ({ frames := 0, cells := 0, slots := 0, locals := 0 } : Room).slots) (s₁.setTop (entryFrame m #[(.int (1 : Int32))] 1))
  refine own_st (V := s₁.setTop (mkF m 0 #[.val (.int (1 : Int32))] [])) (fun t k => castTop (by first | (simp [entryFrame, mkF, argsToLocals, Value.category]; done) | rfl) k) ?_
  refine own_st (V := s₁.setTop (mkF m 1 #[.val (.int (1 : Int32))] [(.int (1 : Int32))])) (fun t k => XS.iloadN X0.here hx rfl (hb hby own_d2_0) rfl k) ?_
  refine own_st (V := s₁.setTop (mkF m 6 #[.val (.int (1 : Int32))] [])) (fun t k => XS.ifYes X0.here hx rfl (pc0 := 1) (pc' := 6) rfl (hb hby own_d2_1) rfl ((if0 _ _).trans (feq (by decide : ¬ ((1 : Int32) = (0 : Int32)))).2) (by decide) (by decide) k) ?_
  refine own_st (V := s₁.setTop (mkF m 7 #[.val (.int (1 : Int32))] [(.int (1 : Int32))])) (fun t k => XS.iloadN X0.here hx rfl (hb hby own_d2_6) rfl k) ?_
  refine own_st (V := s₁.setTop (mkF m 8 #[.val (.int (1 : Int32))] [(.int (1 : Int32)), (.int (1 : Int32))])) (fun t k => XS.iconst X0.here hx rfl (hb hby own_d2_7) k) ?_
  refine own_st (V := s₁.setTop (mkF m 11 #[.val (.int (1 : Int32))] [])) (fun t k => XS.icmpNo X0.here hx rfl (hb hby own_d2_8) rfl (teq (by decide : (1 : Int32) = (1 : Int32))).2 k) ?_
  refine own_st (V := s₁.setTop (mkF m 12 #[.val (.int (1 : Int32))] [(.int (5 : Int32))])) (fun t k => XS.iconst X0.here hx rfl (hb hby own_d2_11) k) ?_
  exact own_ret X0 hx hlk Bd.returns rfl (Or.inl ⟨rfl, by simp, _, rfl⟩) (hb hby own_d2_12) (by decide) (by decide) (by show Q_own_ad1 Z A h0 n0 _ s₁.heap _; rw [e0]; exact ⟨rfl, N0, rfl⟩)
def Q_own_ho1n (Z : State) (q1 : Int32) (A : Nat → Addr) (h0 : Heap) (n0 : Nat) (v : Option Value) (h : Heap) (L : List Loc) : Prop := v = some (.int (1 : Int32)) ∧ Fr n0 L ∧ h = h0
theorem own_d3_66 : decode prog_45_method_6_code 66 = .ok (.iload_n 1, 1) := by decide +kernel
theorem own_d3_67 : decode prog_45_method_6_code 67 = .ok (.ifCond .eq 7, 3) := by decide +kernel
theorem own_d3_70 : decode prog_45_method_6_code 70 = .ok (.iconst 1, 1) := by decide +kernel
theorem own_d3_71 : decode prog_45_method_6_code 71 = .ok (.goto 52, 3) := by decide +kernel
set_option maxRecDepth 65536 in
set_option maxHeartbeats 40000000 in
theorem own_ho1n (l : Launch) (Z : State) (a0 : Array Value) (hw : ∀ d ∈ tables_1, d.before a0 Z = true) (ws : List Jvm.Cond) (q1 : Int32) (A : Nat → Addr) (h0 : Heap) (n0 : Nat) (Z0 : n0 ≤ h0.size) (En : own_En Z h0 A) (hs : q1 < (0 : Int32)) :
    MetFree l (⟨"com/example/affirm_rows/affirmrows/rules/Comparison", "holds", "(I)Z"⟩ : MethodName) (head1 (Jvm.Cond.code (⟨"com/example/affirm_rows/affirmrows/rules/Comparison", "holds", "(I)Z"⟩ : MethodName) prog_45_method_6_code 2 (some .boolean) :: ws) ({ frames := 1, cells := 0, slots := 0, locals := 12 } : Room)) (fun a U => a = #[(.ref (A 1)), (.int q1)] ∧ Z.Warmed39 U.vm ∧ U.heap = h0) (fun _ _ _ _ _ => True) (fun _ U o U' => ∃ v L, o = .returned v ∧ Q_own_ho1n Z q1 A h0 n0 v U'.heap L ∧ FrameEnd U o U' L ({ frames := 1, cells := 0, slots := 0, locals := 12 } : Room).cells ({ frames := 1, cells := 0, slots := 0, locals := 12 } : Room).slots) := by
  refine MetFree.of_bodySF (plainFor_of_name own_pn_com_example_affirm_rows_affirmrows_rules_Comparison) hisR ?_
  intro p e s m args below meth c s₁ Bd hml0 hP hK
  obtain ⟨rfl, hZ, hh⟩ := hP
  have hx := Bd.exec
  have hby := Bd.bytes
  have hml : c.maxLocals = 2 := hml0
  have hown : s.vm.findClass "com/example/affirm_rows/affirmrows/rules/Comparison" = some m.cls := findClass_of_methodNamed Bd.named
  have hnm := (name_of_methodNamed Bd.named Bd.method).1
  have hlk : meth.locks = false := BodyLoose.notSynchronized Bd
  have X0 : Stand p l e ({ frames := 1, cells := 0, slots := 0, locals := 12 } : Room) s m #[(.ref (A 1)), (.int q1)] below meth c s₁ [] 0 0 := Stand.of_body Bd
  have e0 : s₁.heap = h0 := by rw [← hh, Bd.state]; rfl
  have N0 := Fr.nil n0
  show own_Go p e below #[(.ref (A 1)), (.int q1)] s (fun _ U o U' => ∃ v L, o = .returned v ∧ Q_own_ho1n Z q1 A h0 n0 v U'.heap L ∧ FrameEnd U o U' L ({ frames := 1, cells := 0, slots := 0, locals := 12 } : Room).cells ({ frames := 1, cells := 0, slots := 0, locals := 12 } : Room).slots) (s₁.setTop (entryFrame m #[(.ref (A 1)), (.int q1)] 2))
  refine own_st (V := s₁.setTop (mkF m 0 #[.val (.ref (A 1)), .val (.int q1)] [])) (fun t k => castTop (by first | (simp [entryFrame, mkF, argsToLocals, Value.category]; done) | rfl) k) ?_
  refine own_st (V := s₁.setTop (mkF m 1 #[.val (.ref (A 1)), .val (.int q1)] [(.ref (A 1))])) (fun t k => XS.aloadN X0.here hx rfl (hb hby own_d3_0) rfl rfl k) ?_
  obtain ⟨cq8, kq8, q8a, q8b, q8c⟩ := isOf hZ e0 (own_E En 1 (i := 1) (n := "NOT_EQUAL") rfl)
  obtain ⟨_, _, ⟨T8, L8, k8, n8⟩, -, X8, ⟨Lc8, hQ8, l8, y8, z8⟩, st8⟩ := X0.virtualBackUp hx (x := (⟨"com/example/affirm_rows/affirmrows/rules/Comparison", "ordinal", "()I"⟩ : MethodName)) (y := (⟨"java/lang/Enum", "ordinal", "()I"⟩ : MethodName)) hown (mvT hZ (hw _ (List.mem_of_getElem? (i := 16) rfl))) (mvT hZ (hw _ (List.mem_of_getElem? (i := 17) rfl))) (mvT hZ (hw _ (List.mem_of_getElem? (i := 18) rfl))) (by decide) (mvT hZ (hw _ (List.mem_of_getElem? (i := 20) rfl))) (mvT hZ (hw _ (List.mem_of_getElem? (i := 19) rfl))) (backOf (W := 0) (own_ord1 l Z a0 hw [] A h0 n0 Z0 En ) hZ (hw _ (List.mem_of_getElem? (i := 22) rfl)) (hw _ (List.mem_of_getElem? (i := 21) rfl)) (by decide) (by decide)) q8a q8c (g := (mkF m 1 #[.val (.ref (A 1)), .val (.int q1)] [(.ref (A 1))])) rfl (by rw [hml]; rfl) (Steps.refl _) (argsL := []) (rest := []) (lenOf own_pd0 rfl) rfl (by show 2 * 0 + _ ≤ _; exact Nat.le_of_eq rfl) (hb hby own_d3_1) (fun _ _ => ⟨rfl, e0, (by decide : 0 + 0 ≤ _), (by decide : 0 + 0 ≤ _)⟩)
  dsimp only [Pt.U, Pt.locs, Pt.cells, Pt.slots] at X8 l8 y8 z8 st8 hQ8
  subst l8 y8 z8
  obtain ⟨rfl, N8q, e8⟩ := hQ8
  have N8 := Fr.app N0 N8q
  refine own_st (V := T8.setTop (mkF m 4 #[.val (.ref (A 1)), .val (.int q1)] [(.int (1 : Int32))])) (fun t k => st8.trans k) ?_
  refine own_st (V := T8.setTop (mkF m 66 #[.val (.ref (A 1)), .val (.int q1)] [])) (fun t k => XS.tswIn X8.here hx rfl (pc0 := 4) (pc' := 66) rfl (hb hby own_d3_4) rfl (by decide) (o := 62) rfl (by decide) rfl k) ?_
  refine own_st (V := T8.setTop (mkF m 67 #[.val (.ref (A 1)), .val (.int q1)] [(.int q1)])) (fun t k => XS.iloadN X8.here hx rfl (hb hby own_d3_66) rfl k) ?_
  refine own_st (V := T8.setTop (mkF m 70 #[.val (.ref (A 1)), .val (.int q1)] [])) (fun t k => XS.ifNo X8.here hx rfl (hb hby own_d3_67) rfl ((if0 _ _).trans (feq (own_n1 hs)).1) k) ?_
  refine own_st (V := T8.setTop (mkF m 71 #[.val (.ref (A 1)), .val (.int q1)] [(.int (1 : Int32))])) (fun t k => XS.iconst X8.here hx rfl (hb hby own_d3_70) k) ?_
  refine own_st (V := T8.setTop (mkF m 123 #[.val (.ref (A 1)), .val (.int q1)] [(.int (1 : Int32))])) (fun t k => XS.goto X8.here hx rfl (pc0 := 71) (pc' := 123) rfl (hb hby own_d3_71) (by decide) (by decide) k) ?_
  exact own_ret X8 hx hlk Bd.returns (by decide +kernel) (Or.inl ⟨rfl, by simp, _, rfl⟩) (hb hby own_d3_123) (by decide) (by decide) (by show Q_own_ho1n Z q1 A h0 n0 _ T8.heap _; rw [e8]; exact ⟨rfl, N8, rfl⟩)
def Q_own_ho1z (Z : State) (q1 : Int32) (A : Nat → Addr) (h0 : Heap) (n0 : Nat) (v : Option Value) (h : Heap) (L : List Loc) : Prop := v = some (.int (0 : Int32)) ∧ Fr n0 L ∧ h = h0
theorem own_d3_74 : decode prog_45_method_6_code 74 = .ok (.iconst 0, 1) := by decide +kernel
theorem own_d3_75 : decode prog_45_method_6_code 75 = .ok (.goto 48, 3) := by decide +kernel
set_option maxRecDepth 65536 in
set_option maxHeartbeats 40000000 in
theorem own_ho1z (l : Launch) (Z : State) (a0 : Array Value) (hw : ∀ d ∈ tables_1, d.before a0 Z = true) (ws : List Jvm.Cond) (q1 : Int32) (A : Nat → Addr) (h0 : Heap) (n0 : Nat) (Z0 : n0 ≤ h0.size) (En : own_En Z h0 A) (hs : q1 = (0 : Int32)) :
    MetFree l (⟨"com/example/affirm_rows/affirmrows/rules/Comparison", "holds", "(I)Z"⟩ : MethodName) (head1 (Jvm.Cond.code (⟨"com/example/affirm_rows/affirmrows/rules/Comparison", "holds", "(I)Z"⟩ : MethodName) prog_45_method_6_code 2 (some .boolean) :: ws) ({ frames := 1, cells := 0, slots := 0, locals := 12 } : Room)) (fun a U => a = #[(.ref (A 1)), (.int q1)] ∧ Z.Warmed39 U.vm ∧ U.heap = h0) (fun _ _ _ _ _ => True) (fun _ U o U' => ∃ v L, o = .returned v ∧ Q_own_ho1z Z q1 A h0 n0 v U'.heap L ∧ FrameEnd U o U' L ({ frames := 1, cells := 0, slots := 0, locals := 12 } : Room).cells ({ frames := 1, cells := 0, slots := 0, locals := 12 } : Room).slots) := by
  refine MetFree.of_bodySF (plainFor_of_name own_pn_com_example_affirm_rows_affirmrows_rules_Comparison) hisR ?_
  intro p e s m args below meth c s₁ Bd hml0 hP hK
  obtain ⟨rfl, hZ, hh⟩ := hP
  have hx := Bd.exec
  have hby := Bd.bytes
  have hml : c.maxLocals = 2 := hml0
  have hown : s.vm.findClass "com/example/affirm_rows/affirmrows/rules/Comparison" = some m.cls := findClass_of_methodNamed Bd.named
  have hnm := (name_of_methodNamed Bd.named Bd.method).1
  have hlk : meth.locks = false := BodyLoose.notSynchronized Bd
  have X0 : Stand p l e ({ frames := 1, cells := 0, slots := 0, locals := 12 } : Room) s m #[(.ref (A 1)), (.int q1)] below meth c s₁ [] 0 0 := Stand.of_body Bd
  have e0 : s₁.heap = h0 := by rw [← hh, Bd.state]; rfl
  have N0 := Fr.nil n0
  show own_Go p e below #[(.ref (A 1)), (.int q1)] s (fun _ U o U' => ∃ v L, o = .returned v ∧ Q_own_ho1z Z q1 A h0 n0 v U'.heap L ∧ FrameEnd U o U' L ({ frames := 1, cells := 0, slots := 0, locals := 12 } : Room).cells ({ frames := 1, cells := 0, slots := 0, locals := 12 } : Room).slots) (s₁.setTop (entryFrame m #[(.ref (A 1)), (.int q1)] 2))
  refine own_st (V := s₁.setTop (mkF m 0 #[.val (.ref (A 1)), .val (.int q1)] [])) (fun t k => castTop (by first | (simp [entryFrame, mkF, argsToLocals, Value.category]; done) | rfl) k) ?_
  refine own_st (V := s₁.setTop (mkF m 1 #[.val (.ref (A 1)), .val (.int q1)] [(.ref (A 1))])) (fun t k => XS.aloadN X0.here hx rfl (hb hby own_d3_0) rfl rfl k) ?_
  obtain ⟨cq9, kq9, q9a, q9b, q9c⟩ := isOf hZ e0 (own_E En 1 (i := 1) (n := "NOT_EQUAL") rfl)
  obtain ⟨_, _, ⟨T9, L9, k9, n9⟩, -, X9, ⟨Lc9, hQ9, l9, y9, z9⟩, st9⟩ := X0.virtualBackUp hx (x := (⟨"com/example/affirm_rows/affirmrows/rules/Comparison", "ordinal", "()I"⟩ : MethodName)) (y := (⟨"java/lang/Enum", "ordinal", "()I"⟩ : MethodName)) hown (mvT hZ (hw _ (List.mem_of_getElem? (i := 16) rfl))) (mvT hZ (hw _ (List.mem_of_getElem? (i := 17) rfl))) (mvT hZ (hw _ (List.mem_of_getElem? (i := 18) rfl))) (by decide) (mvT hZ (hw _ (List.mem_of_getElem? (i := 20) rfl))) (mvT hZ (hw _ (List.mem_of_getElem? (i := 19) rfl))) (backOf (W := 0) (own_ord1 l Z a0 hw [] A h0 n0 Z0 En ) hZ (hw _ (List.mem_of_getElem? (i := 22) rfl)) (hw _ (List.mem_of_getElem? (i := 21) rfl)) (by decide) (by decide)) q9a q9c (g := (mkF m 1 #[.val (.ref (A 1)), .val (.int q1)] [(.ref (A 1))])) rfl (by rw [hml]; rfl) (Steps.refl _) (argsL := []) (rest := []) (lenOf own_pd0 rfl) rfl (by show 2 * 0 + _ ≤ _; exact Nat.le_of_eq rfl) (hb hby own_d3_1) (fun _ _ => ⟨rfl, e0, (by decide : 0 + 0 ≤ _), (by decide : 0 + 0 ≤ _)⟩)
  dsimp only [Pt.U, Pt.locs, Pt.cells, Pt.slots] at X9 l9 y9 z9 st9 hQ9
  subst l9 y9 z9
  obtain ⟨rfl, N9q, e9⟩ := hQ9
  have N9 := Fr.app N0 N9q
  refine own_st (V := T9.setTop (mkF m 4 #[.val (.ref (A 1)), .val (.int q1)] [(.int (1 : Int32))])) (fun t k => st9.trans k) ?_
  refine own_st (V := T9.setTop (mkF m 66 #[.val (.ref (A 1)), .val (.int q1)] [])) (fun t k => XS.tswIn X9.here hx rfl (pc0 := 4) (pc' := 66) rfl (hb hby own_d3_4) rfl (by decide) (o := 62) rfl (by decide) rfl k) ?_
  refine own_st (V := T9.setTop (mkF m 67 #[.val (.ref (A 1)), .val (.int q1)] [(.int q1)])) (fun t k => XS.iloadN X9.here hx rfl (hb hby own_d3_66) rfl k) ?_
  refine own_st (V := T9.setTop (mkF m 74 #[.val (.ref (A 1)), .val (.int q1)] [])) (fun t k => XS.ifYes X9.here hx rfl (pc0 := 67) (pc' := 74) rfl (hb hby own_d3_67) rfl ((if0 _ _).trans (teq hs).1) (by decide) (by decide) k) ?_
  refine own_st (V := T9.setTop (mkF m 75 #[.val (.ref (A 1)), .val (.int q1)] [(.int (0 : Int32))])) (fun t k => XS.iconst X9.here hx rfl (hb hby own_d3_74) k) ?_
  refine own_st (V := T9.setTop (mkF m 123 #[.val (.ref (A 1)), .val (.int q1)] [(.int (0 : Int32))])) (fun t k => XS.goto X9.here hx rfl (pc0 := 75) (pc' := 123) rfl (hb hby own_d3_75) (by decide) (by decide) k) ?_
  exact own_ret X9 hx hlk Bd.returns (by decide +kernel) (Or.inl ⟨rfl, by simp, _, rfl⟩) (hb hby own_d3_123) (by decide) (by decide) (by show Q_own_ho1z Z q1 A h0 n0 _ T9.heap _; rw [e9]; exact ⟨rfl, N9, rfl⟩)
def Q_own_ho1p (Z : State) (q1 : Int32) (A : Nat → Addr) (h0 : Heap) (n0 : Nat) (v : Option Value) (h : Heap) (L : List Loc) : Prop := v = some (.int (1 : Int32)) ∧ Fr n0 L ∧ h = h0
set_option maxRecDepth 65536 in
set_option maxHeartbeats 40000000 in
theorem own_ho1p (l : Launch) (Z : State) (a0 : Array Value) (hw : ∀ d ∈ tables_1, d.before a0 Z = true) (ws : List Jvm.Cond) (q1 : Int32) (A : Nat → Addr) (h0 : Heap) (n0 : Nat) (Z0 : n0 ≤ h0.size) (En : own_En Z h0 A) (hs : (0 : Int32) < q1) :
    MetFree l (⟨"com/example/affirm_rows/affirmrows/rules/Comparison", "holds", "(I)Z"⟩ : MethodName) (head1 (Jvm.Cond.code (⟨"com/example/affirm_rows/affirmrows/rules/Comparison", "holds", "(I)Z"⟩ : MethodName) prog_45_method_6_code 2 (some .boolean) :: ws) ({ frames := 1, cells := 0, slots := 0, locals := 12 } : Room)) (fun a U => a = #[(.ref (A 1)), (.int q1)] ∧ Z.Warmed39 U.vm ∧ U.heap = h0) (fun _ _ _ _ _ => True) (fun _ U o U' => ∃ v L, o = .returned v ∧ Q_own_ho1p Z q1 A h0 n0 v U'.heap L ∧ FrameEnd U o U' L ({ frames := 1, cells := 0, slots := 0, locals := 12 } : Room).cells ({ frames := 1, cells := 0, slots := 0, locals := 12 } : Room).slots) := by
  refine MetFree.of_bodySF (plainFor_of_name own_pn_com_example_affirm_rows_affirmrows_rules_Comparison) hisR ?_
  intro p e s m args below meth c s₁ Bd hml0 hP hK
  obtain ⟨rfl, hZ, hh⟩ := hP
  have hx := Bd.exec
  have hby := Bd.bytes
  have hml : c.maxLocals = 2 := hml0
  have hown : s.vm.findClass "com/example/affirm_rows/affirmrows/rules/Comparison" = some m.cls := findClass_of_methodNamed Bd.named
  have hnm := (name_of_methodNamed Bd.named Bd.method).1
  have hlk : meth.locks = false := BodyLoose.notSynchronized Bd
  have X0 : Stand p l e ({ frames := 1, cells := 0, slots := 0, locals := 12 } : Room) s m #[(.ref (A 1)), (.int q1)] below meth c s₁ [] 0 0 := Stand.of_body Bd
  have e0 : s₁.heap = h0 := by rw [← hh, Bd.state]; rfl
  have N0 := Fr.nil n0
  show own_Go p e below #[(.ref (A 1)), (.int q1)] s (fun _ U o U' => ∃ v L, o = .returned v ∧ Q_own_ho1p Z q1 A h0 n0 v U'.heap L ∧ FrameEnd U o U' L ({ frames := 1, cells := 0, slots := 0, locals := 12 } : Room).cells ({ frames := 1, cells := 0, slots := 0, locals := 12 } : Room).slots) (s₁.setTop (entryFrame m #[(.ref (A 1)), (.int q1)] 2))
  refine own_st (V := s₁.setTop (mkF m 0 #[.val (.ref (A 1)), .val (.int q1)] [])) (fun t k => castTop (by first | (simp [entryFrame, mkF, argsToLocals, Value.category]; done) | rfl) k) ?_
  refine own_st (V := s₁.setTop (mkF m 1 #[.val (.ref (A 1)), .val (.int q1)] [(.ref (A 1))])) (fun t k => XS.aloadN X0.here hx rfl (hb hby own_d3_0) rfl rfl k) ?_
  obtain ⟨cq10, kq10, q10a, q10b, q10c⟩ := isOf hZ e0 (own_E En 1 (i := 1) (n := "NOT_EQUAL") rfl)
  obtain ⟨_, _, ⟨T10, L10, k10, n10⟩, -, X10, ⟨Lc10, hQ10, l10, y10, z10⟩, st10⟩ := X0.virtualBackUp hx (x := (⟨"com/example/affirm_rows/affirmrows/rules/Comparison", "ordinal", "()I"⟩ : MethodName)) (y := (⟨"java/lang/Enum", "ordinal", "()I"⟩ : MethodName)) hown (mvT hZ (hw _ (List.mem_of_getElem? (i := 16) rfl))) (mvT hZ (hw _ (List.mem_of_getElem? (i := 17) rfl))) (mvT hZ (hw _ (List.mem_of_getElem? (i := 18) rfl))) (by decide) (mvT hZ (hw _ (List.mem_of_getElem? (i := 20) rfl))) (mvT hZ (hw _ (List.mem_of_getElem? (i := 19) rfl))) (backOf (W := 0) (own_ord1 l Z a0 hw [] A h0 n0 Z0 En ) hZ (hw _ (List.mem_of_getElem? (i := 22) rfl)) (hw _ (List.mem_of_getElem? (i := 21) rfl)) (by decide) (by decide)) q10a q10c (g := (mkF m 1 #[.val (.ref (A 1)), .val (.int q1)] [(.ref (A 1))])) rfl (by rw [hml]; rfl) (Steps.refl _) (argsL := []) (rest := []) (lenOf own_pd0 rfl) rfl (by show 2 * 0 + _ ≤ _; exact Nat.le_of_eq rfl) (hb hby own_d3_1) (fun _ _ => ⟨rfl, e0, (by decide : 0 + 0 ≤ _), (by decide : 0 + 0 ≤ _)⟩)
  dsimp only [Pt.U, Pt.locs, Pt.cells, Pt.slots] at X10 l10 y10 z10 st10 hQ10
  subst l10 y10 z10
  obtain ⟨rfl, N10q, e10⟩ := hQ10
  have N10 := Fr.app N0 N10q
  refine own_st (V := T10.setTop (mkF m 4 #[.val (.ref (A 1)), .val (.int q1)] [(.int (1 : Int32))])) (fun t k => st10.trans k) ?_
  refine own_st (V := T10.setTop (mkF m 66 #[.val (.ref (A 1)), .val (.int q1)] [])) (fun t k => XS.tswIn X10.here hx rfl (pc0 := 4) (pc' := 66) rfl (hb hby own_d3_4) rfl (by decide) (o := 62) rfl (by decide) rfl k) ?_
  refine own_st (V := T10.setTop (mkF m 67 #[.val (.ref (A 1)), .val (.int q1)] [(.int q1)])) (fun t k => XS.iloadN X10.here hx rfl (hb hby own_d3_66) rfl k) ?_
  refine own_st (V := T10.setTop (mkF m 70 #[.val (.ref (A 1)), .val (.int q1)] [])) (fun t k => XS.ifNo X10.here hx rfl (hb hby own_d3_67) rfl ((if0 _ _).trans (feq (own_p2 hs)).1) k) ?_
  refine own_st (V := T10.setTop (mkF m 71 #[.val (.ref (A 1)), .val (.int q1)] [(.int (1 : Int32))])) (fun t k => XS.iconst X10.here hx rfl (hb hby own_d3_70) k) ?_
  refine own_st (V := T10.setTop (mkF m 123 #[.val (.ref (A 1)), .val (.int q1)] [(.int (1 : Int32))])) (fun t k => XS.goto X10.here hx rfl (pc0 := 71) (pc' := 123) rfl (hb hby own_d3_71) (by decide) (by decide) k) ?_
  exact own_ret X10 hx hlk Bd.returns (by decide +kernel) (Or.inl ⟨rfl, by simp, _, rfl⟩) (hb hby own_d3_123) (by decide) (by decide) (by show Q_own_ho1p Z q1 A h0 n0 _ T10.heap _; rw [e10]; exact ⟨rfl, N10, rfl⟩)
def Q_own_ord2 (Z : State) (A : Nat → Addr) (h0 : Heap) (n0 : Nat) (v : Option Value) (h : Heap) (L : List Loc) : Prop := v = some (.int (2 : Int32)) ∧ Fr n0 L ∧ h = h0
set_option maxRecDepth 65536 in
set_option maxHeartbeats 40000000 in
theorem own_ord2 (l : Launch) (Z : State) (a0 : Array Value) (hw : ∀ d ∈ tables_1, d.before a0 Z = true) (ws : List Jvm.Cond) (A : Nat → Addr) (h0 : Heap) (n0 : Nat) (Z0 : n0 ≤ h0.size) (En : own_En Z h0 A) :
    MetFree l (⟨"java/lang/Enum", "ordinal", "()I"⟩ : MethodName) (head1 (Jvm.Cond.code (⟨"java/lang/Enum", "ordinal", "()I"⟩ : MethodName) jdk_37_method_2_code 1 (some .int) :: ws) ({ frames := 0, cells := 0, slots := 0, locals := 0 } : Room)) (fun a U => a = #[(.ref (A 2))] ∧ Z.Warmed39 U.vm ∧ U.heap = h0) (fun _ _ _ _ _ => True) (fun _ U o U' => ∃ v L, o = .returned v ∧ Q_own_ord2 Z A h0 n0 v U'.heap L ∧ FrameEnd U o U' L ({ frames := 0, cells := 0, slots := 0, locals := 0 } : Room).cells ({ frames := 0, cells := 0, slots := 0, locals := 0 } : Room).slots) := by
  refine MetFree.of_bodySF (plainFor_of_name own_pn_java_lang_Enum) hisR ?_
  intro p e s m args below meth c s₁ Bd hml0 hP hK
  obtain ⟨rfl, hZ, hh⟩ := hP
  have hx := Bd.exec
  have hby := Bd.bytes
  have hml : c.maxLocals = 1 := hml0
  have hown : s.vm.findClass "java/lang/Enum" = some m.cls := findClass_of_methodNamed Bd.named
  have hnm := (name_of_methodNamed Bd.named Bd.method).1
  have hlk : meth.locks = false := BodyLoose.notSynchronized Bd
  have X0 : Stand p l e ({ frames := 0, cells := 0, slots := 0, locals := 0 } : Room) s m #[(.ref (A 2))] below meth c s₁ [] 0 0 := Stand.of_body Bd
  have e0 : s₁.heap = h0 := by rw [← hh, Bd.state]; rfl
  have N0 := Fr.nil n0
  show own_Go p e below #[(.ref (A 2))] s (fun _ U o U' => ∃ v L, o = .returned v ∧ Q_own_ord2 Z A h0 n0 v U'.heap L ∧ FrameEnd U o U' L ({ frames := 0, cells := 0, slots := 0, locals := 0 } : Room).cells ({ frames := 0, cells := 0, slots := 0, locals := 0 } : Room).slots) (s₁.setTop (entryFrame m #[(.ref (A 2))] 1))
  refine own_st (V := s₁.setTop (mkF m 0 #[.val (.ref (A 2))] [])) (fun t k => castTop (by first | (simp [entryFrame, mkF, argsToLocals, Value.category]; done) | rfl) k) ?_
  refine own_st (V := s₁.setTop (mkF m 1 #[.val (.ref (A 2))] [(.ref (A 2))])) (fun t k => XS.aloadN X0.here hx rfl (hb hby own_d4_0) rfl rfl k) ?_
  obtain ⟨T11, X11, e11, st11⟩ := getF X0 hx hZ hown (host := "") (Or.inl (hw _ (List.mem_of_getElem? (i := 23) rfl))) Via.refl e0 (own_O En 2 (i := 2) (n := "LESS") rfl) (g := (mkF m 1 #[.val (.ref (A 2))] [(.ref (A 2))])) rfl rfl (hb hby own_d4_1)
  refine own_st (V := T11.setTop (mkF m 4 #[.val (.ref (A 2))] [(.int (2 : Int32))])) (fun t k => st11 _ k) ?_
  exact own_ret X11 hx hlk Bd.returns rfl (Or.inl ⟨rfl, by simp, _, rfl⟩) (hb hby own_d4_4) (by decide) (by decide) (by show Q_own_ord2 Z A h0 n0 _ T11.heap _; rw [e11]; exact ⟨rfl, N0, rfl⟩)
def Q_own_pick2 (Z : State) (A : Nat → Addr) (h0 : Heap) (n0 : Nat) (v : Option Value) (h : Heap) (L : List Loc) : Prop := v = some (.ref (A 2)) ∧ Fr n0 L ∧ h = h0
theorem own_d1_17 : decode method_2_code 17 = .ok (.iload_n 0, 1) := by decide +kernel
theorem own_d1_18 : decode method_2_code 18 = .ok (.iconst 2, 1) := by decide +kernel
theorem own_d1_19 : decode method_2_code 19 = .ok (.if_icmp .ne 7, 3) := by decide +kernel
theorem own_d1_22 : decode method_2_code 22 = .ok (.getstatic 16, 3) := by decide +kernel
theorem own_d1_25 : decode method_2_code 25 = .ok (.areturn, 1) := by decide +kernel
set_option maxRecDepth 65536 in
set_option maxHeartbeats 40000000 in
theorem own_pick2 (l : Launch) (Z : State) (a0 : Array Value) (hw : ∀ d ∈ tables_1, d.before a0 Z = true) (ws : List Jvm.Cond) (A : Nat → Addr) (h0 : Heap) (n0 : Nat) (Z0 : n0 ≤ h0.size) (En : own_En Z h0 A) :
    MetFree l (⟨"com/example/affirm_rows/affirmrows/rules/ComparisonHoldsPinLaw", "pick", "(I)Lcom/example/affirm_rows/affirmrows/rules/Comparison;"⟩ : MethodName) (head1 (Jvm.Cond.code (⟨"com/example/affirm_rows/affirmrows/rules/ComparisonHoldsPinLaw", "pick", "(I)Lcom/example/affirm_rows/affirmrows/rules/Comparison;"⟩ : MethodName) method_2_code 1 (some (.object "com/example/affirm_rows/affirmrows/rules/Comparison")) :: ws) ({ frames := 0, cells := 0, slots := 0, locals := 0 } : Room)) (fun a U => a = #[(.int (2 : Int32))] ∧ Z.Warmed39 U.vm ∧ U.heap = h0) (fun _ _ _ _ _ => True) (fun _ U o U' => ∃ v L, o = .returned v ∧ Q_own_pick2 Z A h0 n0 v U'.heap L ∧ FrameEnd U o U' L ({ frames := 0, cells := 0, slots := 0, locals := 0 } : Room).cells ({ frames := 0, cells := 0, slots := 0, locals := 0 } : Room).slots) := by
  refine MetFree.of_bodySF (plainFor_of_name own_pn_com_example_affirm_rows_affirmrows_rules_ComparisonHoldsPinLaw) hisR ?_
  intro p e s m args below meth c s₁ Bd hml0 hP hK
  obtain ⟨rfl, hZ, hh⟩ := hP
  have hx := Bd.exec
  have hby := Bd.bytes
  have hml : c.maxLocals = 1 := hml0
  have hown : s.vm.findClass "com/example/affirm_rows/affirmrows/rules/ComparisonHoldsPinLaw" = some m.cls := findClass_of_methodNamed Bd.named
  have hnm := (name_of_methodNamed Bd.named Bd.method).1
  have hlk : meth.locks = false := BodyLoose.notSynchronized Bd
  have X0 : Stand p l e ({ frames := 0, cells := 0, slots := 0, locals := 0 } : Room) s m #[(.int (2 : Int32))] below meth c s₁ [] 0 0 := Stand.of_body Bd
  have e0 : s₁.heap = h0 := by rw [← hh, Bd.state]; rfl
  have N0 := Fr.nil n0
  show own_Go p e below #[(.int (2 : Int32))] s (fun _ U o U' => ∃ v L, o = .returned v ∧ Q_own_pick2 Z A h0 n0 v U'.heap L ∧ FrameEnd U o U' L ({ frames := 0, cells := 0, slots := 0, locals := 0 } : Room).cells ({ frames := 0, cells := 0, slots := 0, locals := 0 } : Room).slots) (s₁.setTop (entryFrame m #[(.int (2 : Int32))] 1))
  refine own_st (V := s₁.setTop (mkF m 0 #[.val (.int (2 : Int32))] [])) (fun t k => castTop (by first | (simp [entryFrame, mkF, argsToLocals, Value.category]; done) | rfl) k) ?_
  refine own_st (V := s₁.setTop (mkF m 1 #[.val (.int (2 : Int32))] [(.int (2 : Int32))])) (fun t k => XS.iloadN X0.here hx rfl (hb hby own_d1_0) rfl k) ?_
  refine own_st (V := s₁.setTop (mkF m 8 #[.val (.int (2 : Int32))] [])) (fun t k => XS.ifYes X0.here hx rfl (pc0 := 1) (pc' := 8) rfl (hb hby own_d1_1) rfl ((if0 _ _).trans (feq (by decide : ¬ ((2 : Int32) = (0 : Int32)))).2) (by decide) (by decide) k) ?_
  refine own_st (V := s₁.setTop (mkF m 9 #[.val (.int (2 : Int32))] [(.int (2 : Int32))])) (fun t k => XS.iloadN X0.here hx rfl (hb hby own_d1_8) rfl k) ?_
  refine own_st (V := s₁.setTop (mkF m 10 #[.val (.int (2 : Int32))] [(.int (1 : Int32)), (.int (2 : Int32))])) (fun t k => XS.iconst X0.here hx rfl (hb hby own_d1_9) k) ?_
  refine own_st (V := s₁.setTop (mkF m 17 #[.val (.int (2 : Int32))] [])) (fun t k => XS.icmpYes X0.here hx rfl (pc0 := 10) (pc' := 17) rfl (hb hby own_d1_10) rfl (feq (by decide : ¬ ((2 : Int32) = (1 : Int32)))).2 (by decide) (by decide) k) ?_
  refine own_st (V := s₁.setTop (mkF m 18 #[.val (.int (2 : Int32))] [(.int (2 : Int32))])) (fun t k => XS.iloadN X0.here hx rfl (hb hby own_d1_17) rfl k) ?_
  refine own_st (V := s₁.setTop (mkF m 19 #[.val (.int (2 : Int32))] [(.int (2 : Int32)), (.int (2 : Int32))])) (fun t k => XS.iconst X0.here hx rfl (hb hby own_d1_18) k) ?_
  refine own_st (V := s₁.setTop (mkF m 22 #[.val (.int (2 : Int32))] [])) (fun t k => XS.icmpNo X0.here hx rfl (hb hby own_d1_19) rfl (teq (by decide : (2 : Int32) = (2 : Int32))).2 k) ?_
  obtain ⟨T12, X12, e12, st12⟩ := getS2 X0 hx hZ hown (host := "") (Or.inl (hw _ (List.mem_of_getElem? (i := 25) rfl))) Via.refl e0 (own_S En 2 (i := 2) (n := "LESS") rfl) (g := (mkF m 22 #[.val (.int (2 : Int32))] [])) rfl (hb hby own_d1_22)
  refine own_st (V := T12.setTop (mkF m 25 #[.val (.int (2 : Int32))] [(.ref (A 2))])) (fun t k => st12 _ k) ?_
  exact own_ret X12 hx hlk Bd.returns rfl (Or.inr (Or.inr (Or.inr (Or.inr ⟨rfl, rfl, rfl⟩)))) (hb hby own_d1_25) (by decide) (by decide) (by show Q_own_pick2 Z A h0 n0 _ T12.heap _; rw [e12]; exact ⟨rfl, N0, rfl⟩)
def Q_own_ad2 (Z : State) (A : Nat → Addr) (h0 : Heap) (n0 : Nat) (v : Option Value) (h : Heap) (L : List Loc) : Prop := v = some (.int (1 : Int32)) ∧ Fr n0 L ∧ h = h0
theorem own_d2_13 : decode method_3_code 13 = .ok (.iload_n 0, 1) := by decide +kernel
theorem own_d2_14 : decode method_3_code 14 = .ok (.iconst 2, 1) := by decide +kernel
theorem own_d2_15 : decode method_3_code 15 = .ok (.if_icmp .ne 5, 3) := by decide +kernel
theorem own_d2_18 : decode method_3_code 18 = .ok (.iconst 1, 1) := by decide +kernel
theorem own_d2_19 : decode method_3_code 19 = .ok (.ireturn, 1) := by decide +kernel
set_option maxRecDepth 65536 in
set_option maxHeartbeats 40000000 in
theorem own_ad2 (l : Launch) (Z : State) (a0 : Array Value) (hw : ∀ d ∈ tables_1, d.before a0 Z = true) (ws : List Jvm.Cond) (A : Nat → Addr) (h0 : Heap) (n0 : Nat) (Z0 : n0 ≤ h0.size) (En : own_En Z h0 A) :
    MetFree l (⟨"com/example/affirm_rows/affirmrows/rules/ComparisonHoldsPinLaw", "admittedSigns", "(I)I"⟩ : MethodName) (head1 (Jvm.Cond.code (⟨"com/example/affirm_rows/affirmrows/rules/ComparisonHoldsPinLaw", "admittedSigns", "(I)I"⟩ : MethodName) method_3_code 1 (some .int) :: ws) ({ frames := 0, cells := 0, slots := 0, locals := 0 } : Room)) (fun a U => a = #[(.int (2 : Int32))] ∧ Z.Warmed39 U.vm ∧ U.heap = h0) (fun _ _ _ _ _ => True) (fun _ U o U' => ∃ v L, o = .returned v ∧ Q_own_ad2 Z A h0 n0 v U'.heap L ∧ FrameEnd U o U' L ({ frames := 0, cells := 0, slots := 0, locals := 0 } : Room).cells ({ frames := 0, cells := 0, slots := 0, locals := 0 } : Room).slots) := by
  refine MetFree.of_bodySF (plainFor_of_name own_pn_com_example_affirm_rows_affirmrows_rules_ComparisonHoldsPinLaw) hisR ?_
  intro p e s m args below meth c s₁ Bd hml0 hP hK
  obtain ⟨rfl, hZ, hh⟩ := hP
  have hx := Bd.exec
  have hby := Bd.bytes
  have hml : c.maxLocals = 1 := hml0
  have hown : s.vm.findClass "com/example/affirm_rows/affirmrows/rules/ComparisonHoldsPinLaw" = some m.cls := findClass_of_methodNamed Bd.named
  have hnm := (name_of_methodNamed Bd.named Bd.method).1
  have hlk : meth.locks = false := BodyLoose.notSynchronized Bd
  have X0 : Stand p l e ({ frames := 0, cells := 0, slots := 0, locals := 0 } : Room) s m #[(.int (2 : Int32))] below meth c s₁ [] 0 0 := Stand.of_body Bd
  have e0 : s₁.heap = h0 := by rw [← hh, Bd.state]; rfl
  have N0 := Fr.nil n0
  show own_Go p e below #[(.int (2 : Int32))] s (fun _ U o U' => ∃ v L, o = .returned v ∧ Q_own_ad2 Z A h0 n0 v U'.heap L ∧ FrameEnd U o U' L ({ frames := 0, cells := 0, slots := 0, locals := 0 } : Room).cells ({ frames := 0, cells := 0, slots := 0, locals := 0 } : Room).slots) (s₁.setTop (entryFrame m #[(.int (2 : Int32))] 1))
  refine own_st (V := s₁.setTop (mkF m 0 #[.val (.int (2 : Int32))] [])) (fun t k => castTop (by first | (simp [entryFrame, mkF, argsToLocals, Value.category]; done) | rfl) k) ?_
  refine own_st (V := s₁.setTop (mkF m 1 #[.val (.int (2 : Int32))] [(.int (2 : Int32))])) (fun t k => XS.iloadN X0.here hx rfl (hb hby own_d2_0) rfl k) ?_
  refine own_st (V := s₁.setTop (mkF m 6 #[.val (.int (2 : Int32))] [])) (fun t k => XS.ifYes X0.here hx rfl (pc0 := 1) (pc' := 6) rfl (hb hby own_d2_1) rfl ((if0 _ _).trans (feq (by decide : ¬ ((2 : Int32) = (0 : Int32)))).2) (by decide) (by decide) k) ?_
  refine own_st (V := s₁.setTop (mkF m 7 #[.val (.int (2 : Int32))] [(.int (2 : Int32))])) (fun t k => XS.iloadN X0.here hx rfl (hb hby own_d2_6) rfl k) ?_
  refine own_st (V := s₁.setTop (mkF m 8 #[.val (.int (2 : Int32))] [(.int (1 : Int32)), (.int (2 : Int32))])) (fun t k => XS.iconst X0.here hx rfl (hb hby own_d2_7) k) ?_
  refine own_st (V := s₁.setTop (mkF m 13 #[.val (.int (2 : Int32))] [])) (fun t k => XS.icmpYes X0.here hx rfl (pc0 := 8) (pc' := 13) rfl (hb hby own_d2_8) rfl (feq (by decide : ¬ ((2 : Int32) = (1 : Int32)))).2 (by decide) (by decide) k) ?_
  refine own_st (V := s₁.setTop (mkF m 14 #[.val (.int (2 : Int32))] [(.int (2 : Int32))])) (fun t k => XS.iloadN X0.here hx rfl (hb hby own_d2_13) rfl k) ?_
  refine own_st (V := s₁.setTop (mkF m 15 #[.val (.int (2 : Int32))] [(.int (2 : Int32)), (.int (2 : Int32))])) (fun t k => XS.iconst X0.here hx rfl (hb hby own_d2_14) k) ?_
  refine own_st (V := s₁.setTop (mkF m 18 #[.val (.int (2 : Int32))] [])) (fun t k => XS.icmpNo X0.here hx rfl (hb hby own_d2_15) rfl (teq (by decide : (2 : Int32) = (2 : Int32))).2 k) ?_
  refine own_st (V := s₁.setTop (mkF m 19 #[.val (.int (2 : Int32))] [(.int (1 : Int32))])) (fun t k => XS.iconst X0.here hx rfl (hb hby own_d2_18) k) ?_
  exact own_ret X0 hx hlk Bd.returns rfl (Or.inl ⟨rfl, by simp, _, rfl⟩) (hb hby own_d2_19) (by decide) (by decide) (by show Q_own_ad2 Z A h0 n0 _ s₁.heap _; rw [e0]; exact ⟨rfl, N0, rfl⟩)
def Q_own_ho2n (Z : State) (q1 : Int32) (A : Nat → Addr) (h0 : Heap) (n0 : Nat) (v : Option Value) (h : Heap) (L : List Loc) : Prop := v = some (.int (1 : Int32)) ∧ Fr n0 L ∧ h = h0
theorem own_d3_78 : decode prog_45_method_6_code 78 = .ok (.iload_n 1, 1) := by decide +kernel
theorem own_d3_79 : decode prog_45_method_6_code 79 = .ok (.ifCond .ge 7, 3) := by decide +kernel
theorem own_d3_82 : decode prog_45_method_6_code 82 = .ok (.iconst 1, 1) := by decide +kernel
theorem own_d3_83 : decode prog_45_method_6_code 83 = .ok (.goto 40, 3) := by decide +kernel
set_option maxRecDepth 65536 in
set_option maxHeartbeats 40000000 in
theorem own_ho2n (l : Launch) (Z : State) (a0 : Array Value) (hw : ∀ d ∈ tables_1, d.before a0 Z = true) (ws : List Jvm.Cond) (q1 : Int32) (A : Nat → Addr) (h0 : Heap) (n0 : Nat) (Z0 : n0 ≤ h0.size) (En : own_En Z h0 A) (hs : q1 < (0 : Int32)) :
    MetFree l (⟨"com/example/affirm_rows/affirmrows/rules/Comparison", "holds", "(I)Z"⟩ : MethodName) (head1 (Jvm.Cond.code (⟨"com/example/affirm_rows/affirmrows/rules/Comparison", "holds", "(I)Z"⟩ : MethodName) prog_45_method_6_code 2 (some .boolean) :: ws) ({ frames := 1, cells := 0, slots := 0, locals := 12 } : Room)) (fun a U => a = #[(.ref (A 2)), (.int q1)] ∧ Z.Warmed39 U.vm ∧ U.heap = h0) (fun _ _ _ _ _ => True) (fun _ U o U' => ∃ v L, o = .returned v ∧ Q_own_ho2n Z q1 A h0 n0 v U'.heap L ∧ FrameEnd U o U' L ({ frames := 1, cells := 0, slots := 0, locals := 12 } : Room).cells ({ frames := 1, cells := 0, slots := 0, locals := 12 } : Room).slots) := by
  refine MetFree.of_bodySF (plainFor_of_name own_pn_com_example_affirm_rows_affirmrows_rules_Comparison) hisR ?_
  intro p e s m args below meth c s₁ Bd hml0 hP hK
  obtain ⟨rfl, hZ, hh⟩ := hP
  have hx := Bd.exec
  have hby := Bd.bytes
  have hml : c.maxLocals = 2 := hml0
  have hown : s.vm.findClass "com/example/affirm_rows/affirmrows/rules/Comparison" = some m.cls := findClass_of_methodNamed Bd.named
  have hnm := (name_of_methodNamed Bd.named Bd.method).1
  have hlk : meth.locks = false := BodyLoose.notSynchronized Bd
  have X0 : Stand p l e ({ frames := 1, cells := 0, slots := 0, locals := 12 } : Room) s m #[(.ref (A 2)), (.int q1)] below meth c s₁ [] 0 0 := Stand.of_body Bd
  have e0 : s₁.heap = h0 := by rw [← hh, Bd.state]; rfl
  have N0 := Fr.nil n0
  show own_Go p e below #[(.ref (A 2)), (.int q1)] s (fun _ U o U' => ∃ v L, o = .returned v ∧ Q_own_ho2n Z q1 A h0 n0 v U'.heap L ∧ FrameEnd U o U' L ({ frames := 1, cells := 0, slots := 0, locals := 12 } : Room).cells ({ frames := 1, cells := 0, slots := 0, locals := 12 } : Room).slots) (s₁.setTop (entryFrame m #[(.ref (A 2)), (.int q1)] 2))
  refine own_st (V := s₁.setTop (mkF m 0 #[.val (.ref (A 2)), .val (.int q1)] [])) (fun t k => castTop (by first | (simp [entryFrame, mkF, argsToLocals, Value.category]; done) | rfl) k) ?_
  refine own_st (V := s₁.setTop (mkF m 1 #[.val (.ref (A 2)), .val (.int q1)] [(.ref (A 2))])) (fun t k => XS.aloadN X0.here hx rfl (hb hby own_d3_0) rfl rfl k) ?_
  obtain ⟨cq13, kq13, q13a, q13b, q13c⟩ := isOf hZ e0 (own_E En 2 (i := 2) (n := "LESS") rfl)
  obtain ⟨_, _, ⟨T13, L13, k13, n13⟩, -, X13, ⟨Lc13, hQ13, l13, y13, z13⟩, st13⟩ := X0.virtualBackUp hx (x := (⟨"com/example/affirm_rows/affirmrows/rules/Comparison", "ordinal", "()I"⟩ : MethodName)) (y := (⟨"java/lang/Enum", "ordinal", "()I"⟩ : MethodName)) hown (mvT hZ (hw _ (List.mem_of_getElem? (i := 16) rfl))) (mvT hZ (hw _ (List.mem_of_getElem? (i := 17) rfl))) (mvT hZ (hw _ (List.mem_of_getElem? (i := 18) rfl))) (by decide) (mvT hZ (hw _ (List.mem_of_getElem? (i := 20) rfl))) (mvT hZ (hw _ (List.mem_of_getElem? (i := 19) rfl))) (backOf (W := 0) (own_ord2 l Z a0 hw [] A h0 n0 Z0 En ) hZ (hw _ (List.mem_of_getElem? (i := 22) rfl)) (hw _ (List.mem_of_getElem? (i := 21) rfl)) (by decide) (by decide)) q13a q13c (g := (mkF m 1 #[.val (.ref (A 2)), .val (.int q1)] [(.ref (A 2))])) rfl (by rw [hml]; rfl) (Steps.refl _) (argsL := []) (rest := []) (lenOf own_pd0 rfl) rfl (by show 2 * 0 + _ ≤ _; exact Nat.le_of_eq rfl) (hb hby own_d3_1) (fun _ _ => ⟨rfl, e0, (by decide : 0 + 0 ≤ _), (by decide : 0 + 0 ≤ _)⟩)
  dsimp only [Pt.U, Pt.locs, Pt.cells, Pt.slots] at X13 l13 y13 z13 st13 hQ13
  subst l13 y13 z13
  obtain ⟨rfl, N13q, e13⟩ := hQ13
  have N13 := Fr.app N0 N13q
  refine own_st (V := T13.setTop (mkF m 4 #[.val (.ref (A 2)), .val (.int q1)] [(.int (2 : Int32))])) (fun t k => st13.trans k) ?_
  refine own_st (V := T13.setTop (mkF m 78 #[.val (.ref (A 2)), .val (.int q1)] [])) (fun t k => XS.tswIn X13.here hx rfl (pc0 := 4) (pc' := 78) rfl (hb hby own_d3_4) rfl (by decide) (o := 74) rfl (by decide) rfl k) ?_
  refine own_st (V := T13.setTop (mkF m 79 #[.val (.ref (A 2)), .val (.int q1)] [(.int q1)])) (fun t k => XS.iloadN X13.here hx rfl (hb hby own_d3_78) rfl k) ?_
  refine own_st (V := T13.setTop (mkF m 82 #[.val (.ref (A 2)), .val (.int q1)] [])) (fun t k => XS.ifNo X13.here hx rfl (hb hby own_d3_79) rfl ((if0 _ _).trans (tlt hs).2.1) k) ?_
  refine own_st (V := T13.setTop (mkF m 83 #[.val (.ref (A 2)), .val (.int q1)] [(.int (1 : Int32))])) (fun t k => XS.iconst X13.here hx rfl (hb hby own_d3_82) k) ?_
  refine own_st (V := T13.setTop (mkF m 123 #[.val (.ref (A 2)), .val (.int q1)] [(.int (1 : Int32))])) (fun t k => XS.goto X13.here hx rfl (pc0 := 83) (pc' := 123) rfl (hb hby own_d3_83) (by decide) (by decide) k) ?_
  exact own_ret X13 hx hlk Bd.returns (by decide +kernel) (Or.inl ⟨rfl, by simp, _, rfl⟩) (hb hby own_d3_123) (by decide) (by decide) (by show Q_own_ho2n Z q1 A h0 n0 _ T13.heap _; rw [e13]; exact ⟨rfl, N13, rfl⟩)
def Q_own_ho2z (Z : State) (q1 : Int32) (A : Nat → Addr) (h0 : Heap) (n0 : Nat) (v : Option Value) (h : Heap) (L : List Loc) : Prop := v = some (.int (0 : Int32)) ∧ Fr n0 L ∧ h = h0
theorem own_d3_86 : decode prog_45_method_6_code 86 = .ok (.iconst 0, 1) := by decide +kernel
theorem own_d3_87 : decode prog_45_method_6_code 87 = .ok (.goto 36, 3) := by decide +kernel
set_option maxRecDepth 65536 in
set_option maxHeartbeats 40000000 in
theorem own_ho2z (l : Launch) (Z : State) (a0 : Array Value) (hw : ∀ d ∈ tables_1, d.before a0 Z = true) (ws : List Jvm.Cond) (q1 : Int32) (A : Nat → Addr) (h0 : Heap) (n0 : Nat) (Z0 : n0 ≤ h0.size) (En : own_En Z h0 A) (hs : q1 = (0 : Int32)) :
    MetFree l (⟨"com/example/affirm_rows/affirmrows/rules/Comparison", "holds", "(I)Z"⟩ : MethodName) (head1 (Jvm.Cond.code (⟨"com/example/affirm_rows/affirmrows/rules/Comparison", "holds", "(I)Z"⟩ : MethodName) prog_45_method_6_code 2 (some .boolean) :: ws) ({ frames := 1, cells := 0, slots := 0, locals := 12 } : Room)) (fun a U => a = #[(.ref (A 2)), (.int q1)] ∧ Z.Warmed39 U.vm ∧ U.heap = h0) (fun _ _ _ _ _ => True) (fun _ U o U' => ∃ v L, o = .returned v ∧ Q_own_ho2z Z q1 A h0 n0 v U'.heap L ∧ FrameEnd U o U' L ({ frames := 1, cells := 0, slots := 0, locals := 12 } : Room).cells ({ frames := 1, cells := 0, slots := 0, locals := 12 } : Room).slots) := by
  refine MetFree.of_bodySF (plainFor_of_name own_pn_com_example_affirm_rows_affirmrows_rules_Comparison) hisR ?_
  intro p e s m args below meth c s₁ Bd hml0 hP hK
  obtain ⟨rfl, hZ, hh⟩ := hP
  have hx := Bd.exec
  have hby := Bd.bytes
  have hml : c.maxLocals = 2 := hml0
  have hown : s.vm.findClass "com/example/affirm_rows/affirmrows/rules/Comparison" = some m.cls := findClass_of_methodNamed Bd.named
  have hnm := (name_of_methodNamed Bd.named Bd.method).1
  have hlk : meth.locks = false := BodyLoose.notSynchronized Bd
  have X0 : Stand p l e ({ frames := 1, cells := 0, slots := 0, locals := 12 } : Room) s m #[(.ref (A 2)), (.int q1)] below meth c s₁ [] 0 0 := Stand.of_body Bd
  have e0 : s₁.heap = h0 := by rw [← hh, Bd.state]; rfl
  have N0 := Fr.nil n0
  show own_Go p e below #[(.ref (A 2)), (.int q1)] s (fun _ U o U' => ∃ v L, o = .returned v ∧ Q_own_ho2z Z q1 A h0 n0 v U'.heap L ∧ FrameEnd U o U' L ({ frames := 1, cells := 0, slots := 0, locals := 12 } : Room).cells ({ frames := 1, cells := 0, slots := 0, locals := 12 } : Room).slots) (s₁.setTop (entryFrame m #[(.ref (A 2)), (.int q1)] 2))
  refine own_st (V := s₁.setTop (mkF m 0 #[.val (.ref (A 2)), .val (.int q1)] [])) (fun t k => castTop (by first | (simp [entryFrame, mkF, argsToLocals, Value.category]; done) | rfl) k) ?_
  refine own_st (V := s₁.setTop (mkF m 1 #[.val (.ref (A 2)), .val (.int q1)] [(.ref (A 2))])) (fun t k => XS.aloadN X0.here hx rfl (hb hby own_d3_0) rfl rfl k) ?_
  obtain ⟨cq14, kq14, q14a, q14b, q14c⟩ := isOf hZ e0 (own_E En 2 (i := 2) (n := "LESS") rfl)
  obtain ⟨_, _, ⟨T14, L14, k14, n14⟩, -, X14, ⟨Lc14, hQ14, l14, y14, z14⟩, st14⟩ := X0.virtualBackUp hx (x := (⟨"com/example/affirm_rows/affirmrows/rules/Comparison", "ordinal", "()I"⟩ : MethodName)) (y := (⟨"java/lang/Enum", "ordinal", "()I"⟩ : MethodName)) hown (mvT hZ (hw _ (List.mem_of_getElem? (i := 16) rfl))) (mvT hZ (hw _ (List.mem_of_getElem? (i := 17) rfl))) (mvT hZ (hw _ (List.mem_of_getElem? (i := 18) rfl))) (by decide) (mvT hZ (hw _ (List.mem_of_getElem? (i := 20) rfl))) (mvT hZ (hw _ (List.mem_of_getElem? (i := 19) rfl))) (backOf (W := 0) (own_ord2 l Z a0 hw [] A h0 n0 Z0 En ) hZ (hw _ (List.mem_of_getElem? (i := 22) rfl)) (hw _ (List.mem_of_getElem? (i := 21) rfl)) (by decide) (by decide)) q14a q14c (g := (mkF m 1 #[.val (.ref (A 2)), .val (.int q1)] [(.ref (A 2))])) rfl (by rw [hml]; rfl) (Steps.refl _) (argsL := []) (rest := []) (lenOf own_pd0 rfl) rfl (by show 2 * 0 + _ ≤ _; exact Nat.le_of_eq rfl) (hb hby own_d3_1) (fun _ _ => ⟨rfl, e0, (by decide : 0 + 0 ≤ _), (by decide : 0 + 0 ≤ _)⟩)
  dsimp only [Pt.U, Pt.locs, Pt.cells, Pt.slots] at X14 l14 y14 z14 st14 hQ14
  subst l14 y14 z14
  obtain ⟨rfl, N14q, e14⟩ := hQ14
  have N14 := Fr.app N0 N14q
  refine own_st (V := T14.setTop (mkF m 4 #[.val (.ref (A 2)), .val (.int q1)] [(.int (2 : Int32))])) (fun t k => st14.trans k) ?_
  refine own_st (V := T14.setTop (mkF m 78 #[.val (.ref (A 2)), .val (.int q1)] [])) (fun t k => XS.tswIn X14.here hx rfl (pc0 := 4) (pc' := 78) rfl (hb hby own_d3_4) rfl (by decide) (o := 74) rfl (by decide) rfl k) ?_
  refine own_st (V := T14.setTop (mkF m 79 #[.val (.ref (A 2)), .val (.int q1)] [(.int q1)])) (fun t k => XS.iloadN X14.here hx rfl (hb hby own_d3_78) rfl k) ?_
  refine own_st (V := T14.setTop (mkF m 86 #[.val (.ref (A 2)), .val (.int q1)] [])) (fun t k => XS.ifYes X14.here hx rfl (pc0 := 79) (pc' := 86) rfl (hb hby own_d3_79) rfl ((if0 _ _).trans (flt (own_z1 hs)).2.1) (by decide) (by decide) k) ?_
  refine own_st (V := T14.setTop (mkF m 87 #[.val (.ref (A 2)), .val (.int q1)] [(.int (0 : Int32))])) (fun t k => XS.iconst X14.here hx rfl (hb hby own_d3_86) k) ?_
  refine own_st (V := T14.setTop (mkF m 123 #[.val (.ref (A 2)), .val (.int q1)] [(.int (0 : Int32))])) (fun t k => XS.goto X14.here hx rfl (pc0 := 87) (pc' := 123) rfl (hb hby own_d3_87) (by decide) (by decide) k) ?_
  exact own_ret X14 hx hlk Bd.returns (by decide +kernel) (Or.inl ⟨rfl, by simp, _, rfl⟩) (hb hby own_d3_123) (by decide) (by decide) (by show Q_own_ho2z Z q1 A h0 n0 _ T14.heap _; rw [e14]; exact ⟨rfl, N14, rfl⟩)
def Q_own_ho2p (Z : State) (q1 : Int32) (A : Nat → Addr) (h0 : Heap) (n0 : Nat) (v : Option Value) (h : Heap) (L : List Loc) : Prop := v = some (.int (0 : Int32)) ∧ Fr n0 L ∧ h = h0
set_option maxRecDepth 65536 in
set_option maxHeartbeats 40000000 in
theorem own_ho2p (l : Launch) (Z : State) (a0 : Array Value) (hw : ∀ d ∈ tables_1, d.before a0 Z = true) (ws : List Jvm.Cond) (q1 : Int32) (A : Nat → Addr) (h0 : Heap) (n0 : Nat) (Z0 : n0 ≤ h0.size) (En : own_En Z h0 A) (hs : (0 : Int32) < q1) :
    MetFree l (⟨"com/example/affirm_rows/affirmrows/rules/Comparison", "holds", "(I)Z"⟩ : MethodName) (head1 (Jvm.Cond.code (⟨"com/example/affirm_rows/affirmrows/rules/Comparison", "holds", "(I)Z"⟩ : MethodName) prog_45_method_6_code 2 (some .boolean) :: ws) ({ frames := 1, cells := 0, slots := 0, locals := 12 } : Room)) (fun a U => a = #[(.ref (A 2)), (.int q1)] ∧ Z.Warmed39 U.vm ∧ U.heap = h0) (fun _ _ _ _ _ => True) (fun _ U o U' => ∃ v L, o = .returned v ∧ Q_own_ho2p Z q1 A h0 n0 v U'.heap L ∧ FrameEnd U o U' L ({ frames := 1, cells := 0, slots := 0, locals := 12 } : Room).cells ({ frames := 1, cells := 0, slots := 0, locals := 12 } : Room).slots) := by
  refine MetFree.of_bodySF (plainFor_of_name own_pn_com_example_affirm_rows_affirmrows_rules_Comparison) hisR ?_
  intro p e s m args below meth c s₁ Bd hml0 hP hK
  obtain ⟨rfl, hZ, hh⟩ := hP
  have hx := Bd.exec
  have hby := Bd.bytes
  have hml : c.maxLocals = 2 := hml0
  have hown : s.vm.findClass "com/example/affirm_rows/affirmrows/rules/Comparison" = some m.cls := findClass_of_methodNamed Bd.named
  have hnm := (name_of_methodNamed Bd.named Bd.method).1
  have hlk : meth.locks = false := BodyLoose.notSynchronized Bd
  have X0 : Stand p l e ({ frames := 1, cells := 0, slots := 0, locals := 12 } : Room) s m #[(.ref (A 2)), (.int q1)] below meth c s₁ [] 0 0 := Stand.of_body Bd
  have e0 : s₁.heap = h0 := by rw [← hh, Bd.state]; rfl
  have N0 := Fr.nil n0
  show own_Go p e below #[(.ref (A 2)), (.int q1)] s (fun _ U o U' => ∃ v L, o = .returned v ∧ Q_own_ho2p Z q1 A h0 n0 v U'.heap L ∧ FrameEnd U o U' L ({ frames := 1, cells := 0, slots := 0, locals := 12 } : Room).cells ({ frames := 1, cells := 0, slots := 0, locals := 12 } : Room).slots) (s₁.setTop (entryFrame m #[(.ref (A 2)), (.int q1)] 2))
  refine own_st (V := s₁.setTop (mkF m 0 #[.val (.ref (A 2)), .val (.int q1)] [])) (fun t k => castTop (by first | (simp [entryFrame, mkF, argsToLocals, Value.category]; done) | rfl) k) ?_
  refine own_st (V := s₁.setTop (mkF m 1 #[.val (.ref (A 2)), .val (.int q1)] [(.ref (A 2))])) (fun t k => XS.aloadN X0.here hx rfl (hb hby own_d3_0) rfl rfl k) ?_
  obtain ⟨cq15, kq15, q15a, q15b, q15c⟩ := isOf hZ e0 (own_E En 2 (i := 2) (n := "LESS") rfl)
  obtain ⟨_, _, ⟨T15, L15, k15, n15⟩, -, X15, ⟨Lc15, hQ15, l15, y15, z15⟩, st15⟩ := X0.virtualBackUp hx (x := (⟨"com/example/affirm_rows/affirmrows/rules/Comparison", "ordinal", "()I"⟩ : MethodName)) (y := (⟨"java/lang/Enum", "ordinal", "()I"⟩ : MethodName)) hown (mvT hZ (hw _ (List.mem_of_getElem? (i := 16) rfl))) (mvT hZ (hw _ (List.mem_of_getElem? (i := 17) rfl))) (mvT hZ (hw _ (List.mem_of_getElem? (i := 18) rfl))) (by decide) (mvT hZ (hw _ (List.mem_of_getElem? (i := 20) rfl))) (mvT hZ (hw _ (List.mem_of_getElem? (i := 19) rfl))) (backOf (W := 0) (own_ord2 l Z a0 hw [] A h0 n0 Z0 En ) hZ (hw _ (List.mem_of_getElem? (i := 22) rfl)) (hw _ (List.mem_of_getElem? (i := 21) rfl)) (by decide) (by decide)) q15a q15c (g := (mkF m 1 #[.val (.ref (A 2)), .val (.int q1)] [(.ref (A 2))])) rfl (by rw [hml]; rfl) (Steps.refl _) (argsL := []) (rest := []) (lenOf own_pd0 rfl) rfl (by show 2 * 0 + _ ≤ _; exact Nat.le_of_eq rfl) (hb hby own_d3_1) (fun _ _ => ⟨rfl, e0, (by decide : 0 + 0 ≤ _), (by decide : 0 + 0 ≤ _)⟩)
  dsimp only [Pt.U, Pt.locs, Pt.cells, Pt.slots] at X15 l15 y15 z15 st15 hQ15
  subst l15 y15 z15
  obtain ⟨rfl, N15q, e15⟩ := hQ15
  have N15 := Fr.app N0 N15q
  refine own_st (V := T15.setTop (mkF m 4 #[.val (.ref (A 2)), .val (.int q1)] [(.int (2 : Int32))])) (fun t k => st15.trans k) ?_
  refine own_st (V := T15.setTop (mkF m 78 #[.val (.ref (A 2)), .val (.int q1)] [])) (fun t k => XS.tswIn X15.here hx rfl (pc0 := 4) (pc' := 78) rfl (hb hby own_d3_4) rfl (by decide) (o := 74) rfl (by decide) rfl k) ?_
  refine own_st (V := T15.setTop (mkF m 79 #[.val (.ref (A 2)), .val (.int q1)] [(.int q1)])) (fun t k => XS.iloadN X15.here hx rfl (hb hby own_d3_78) rfl k) ?_
  refine own_st (V := T15.setTop (mkF m 86 #[.val (.ref (A 2)), .val (.int q1)] [])) (fun t k => XS.ifYes X15.here hx rfl (pc0 := 79) (pc' := 86) rfl (hb hby own_d3_79) rfl ((if0 _ _).trans (flt (own_p1 hs)).2.1) (by decide) (by decide) k) ?_
  refine own_st (V := T15.setTop (mkF m 87 #[.val (.ref (A 2)), .val (.int q1)] [(.int (0 : Int32))])) (fun t k => XS.iconst X15.here hx rfl (hb hby own_d3_86) k) ?_
  refine own_st (V := T15.setTop (mkF m 123 #[.val (.ref (A 2)), .val (.int q1)] [(.int (0 : Int32))])) (fun t k => XS.goto X15.here hx rfl (pc0 := 87) (pc' := 123) rfl (hb hby own_d3_87) (by decide) (by decide) k) ?_
  exact own_ret X15 hx hlk Bd.returns (by decide +kernel) (Or.inl ⟨rfl, by simp, _, rfl⟩) (hb hby own_d3_123) (by decide) (by decide) (by show Q_own_ho2p Z q1 A h0 n0 _ T15.heap _; rw [e15]; exact ⟨rfl, N15, rfl⟩)
def Q_own_ord3 (Z : State) (A : Nat → Addr) (h0 : Heap) (n0 : Nat) (v : Option Value) (h : Heap) (L : List Loc) : Prop := v = some (.int (3 : Int32)) ∧ Fr n0 L ∧ h = h0
set_option maxRecDepth 65536 in
set_option maxHeartbeats 40000000 in
theorem own_ord3 (l : Launch) (Z : State) (a0 : Array Value) (hw : ∀ d ∈ tables_1, d.before a0 Z = true) (ws : List Jvm.Cond) (A : Nat → Addr) (h0 : Heap) (n0 : Nat) (Z0 : n0 ≤ h0.size) (En : own_En Z h0 A) :
    MetFree l (⟨"java/lang/Enum", "ordinal", "()I"⟩ : MethodName) (head1 (Jvm.Cond.code (⟨"java/lang/Enum", "ordinal", "()I"⟩ : MethodName) jdk_37_method_2_code 1 (some .int) :: ws) ({ frames := 0, cells := 0, slots := 0, locals := 0 } : Room)) (fun a U => a = #[(.ref (A 3))] ∧ Z.Warmed39 U.vm ∧ U.heap = h0) (fun _ _ _ _ _ => True) (fun _ U o U' => ∃ v L, o = .returned v ∧ Q_own_ord3 Z A h0 n0 v U'.heap L ∧ FrameEnd U o U' L ({ frames := 0, cells := 0, slots := 0, locals := 0 } : Room).cells ({ frames := 0, cells := 0, slots := 0, locals := 0 } : Room).slots) := by
  refine MetFree.of_bodySF (plainFor_of_name own_pn_java_lang_Enum) hisR ?_
  intro p e s m args below meth c s₁ Bd hml0 hP hK
  obtain ⟨rfl, hZ, hh⟩ := hP
  have hx := Bd.exec
  have hby := Bd.bytes
  have hml : c.maxLocals = 1 := hml0
  have hown : s.vm.findClass "java/lang/Enum" = some m.cls := findClass_of_methodNamed Bd.named
  have hnm := (name_of_methodNamed Bd.named Bd.method).1
  have hlk : meth.locks = false := BodyLoose.notSynchronized Bd
  have X0 : Stand p l e ({ frames := 0, cells := 0, slots := 0, locals := 0 } : Room) s m #[(.ref (A 3))] below meth c s₁ [] 0 0 := Stand.of_body Bd
  have e0 : s₁.heap = h0 := by rw [← hh, Bd.state]; rfl
  have N0 := Fr.nil n0
  show own_Go p e below #[(.ref (A 3))] s (fun _ U o U' => ∃ v L, o = .returned v ∧ Q_own_ord3 Z A h0 n0 v U'.heap L ∧ FrameEnd U o U' L ({ frames := 0, cells := 0, slots := 0, locals := 0 } : Room).cells ({ frames := 0, cells := 0, slots := 0, locals := 0 } : Room).slots) (s₁.setTop (entryFrame m #[(.ref (A 3))] 1))
  refine own_st (V := s₁.setTop (mkF m 0 #[.val (.ref (A 3))] [])) (fun t k => castTop (by first | (simp [entryFrame, mkF, argsToLocals, Value.category]; done) | rfl) k) ?_
  refine own_st (V := s₁.setTop (mkF m 1 #[.val (.ref (A 3))] [(.ref (A 3))])) (fun t k => XS.aloadN X0.here hx rfl (hb hby own_d4_0) rfl rfl k) ?_
  obtain ⟨T16, X16, e16, st16⟩ := getF X0 hx hZ hown (host := "") (Or.inl (hw _ (List.mem_of_getElem? (i := 23) rfl))) Via.refl e0 (own_O En 3 (i := 3) (n := "LESS_OR_EQUAL") rfl) (g := (mkF m 1 #[.val (.ref (A 3))] [(.ref (A 3))])) rfl rfl (hb hby own_d4_1)
  refine own_st (V := T16.setTop (mkF m 4 #[.val (.ref (A 3))] [(.int (3 : Int32))])) (fun t k => st16 _ k) ?_
  exact own_ret X16 hx hlk Bd.returns rfl (Or.inl ⟨rfl, by simp, _, rfl⟩) (hb hby own_d4_4) (by decide) (by decide) (by show Q_own_ord3 Z A h0 n0 _ T16.heap _; rw [e16]; exact ⟨rfl, N0, rfl⟩)
def Q_own_pick3 (Z : State) (A : Nat → Addr) (h0 : Heap) (n0 : Nat) (v : Option Value) (h : Heap) (L : List Loc) : Prop := v = some (.ref (A 3)) ∧ Fr n0 L ∧ h = h0
theorem own_d1_26 : decode method_2_code 26 = .ok (.iload_n 0, 1) := by decide +kernel
theorem own_d1_27 : decode method_2_code 27 = .ok (.iconst 3, 1) := by decide +kernel
theorem own_d1_28 : decode method_2_code 28 = .ok (.if_icmp .ne 7, 3) := by decide +kernel
theorem own_d1_31 : decode method_2_code 31 = .ok (.getstatic 19, 3) := by decide +kernel
theorem own_d1_34 : decode method_2_code 34 = .ok (.areturn, 1) := by decide +kernel
set_option maxRecDepth 65536 in
set_option maxHeartbeats 40000000 in
theorem own_pick3 (l : Launch) (Z : State) (a0 : Array Value) (hw : ∀ d ∈ tables_1, d.before a0 Z = true) (ws : List Jvm.Cond) (A : Nat → Addr) (h0 : Heap) (n0 : Nat) (Z0 : n0 ≤ h0.size) (En : own_En Z h0 A) :
    MetFree l (⟨"com/example/affirm_rows/affirmrows/rules/ComparisonHoldsPinLaw", "pick", "(I)Lcom/example/affirm_rows/affirmrows/rules/Comparison;"⟩ : MethodName) (head1 (Jvm.Cond.code (⟨"com/example/affirm_rows/affirmrows/rules/ComparisonHoldsPinLaw", "pick", "(I)Lcom/example/affirm_rows/affirmrows/rules/Comparison;"⟩ : MethodName) method_2_code 1 (some (.object "com/example/affirm_rows/affirmrows/rules/Comparison")) :: ws) ({ frames := 0, cells := 0, slots := 0, locals := 0 } : Room)) (fun a U => a = #[(.int (3 : Int32))] ∧ Z.Warmed39 U.vm ∧ U.heap = h0) (fun _ _ _ _ _ => True) (fun _ U o U' => ∃ v L, o = .returned v ∧ Q_own_pick3 Z A h0 n0 v U'.heap L ∧ FrameEnd U o U' L ({ frames := 0, cells := 0, slots := 0, locals := 0 } : Room).cells ({ frames := 0, cells := 0, slots := 0, locals := 0 } : Room).slots) := by
  refine MetFree.of_bodySF (plainFor_of_name own_pn_com_example_affirm_rows_affirmrows_rules_ComparisonHoldsPinLaw) hisR ?_
  intro p e s m args below meth c s₁ Bd hml0 hP hK
  obtain ⟨rfl, hZ, hh⟩ := hP
  have hx := Bd.exec
  have hby := Bd.bytes
  have hml : c.maxLocals = 1 := hml0
  have hown : s.vm.findClass "com/example/affirm_rows/affirmrows/rules/ComparisonHoldsPinLaw" = some m.cls := findClass_of_methodNamed Bd.named
  have hnm := (name_of_methodNamed Bd.named Bd.method).1
  have hlk : meth.locks = false := BodyLoose.notSynchronized Bd
  have X0 : Stand p l e ({ frames := 0, cells := 0, slots := 0, locals := 0 } : Room) s m #[(.int (3 : Int32))] below meth c s₁ [] 0 0 := Stand.of_body Bd
  have e0 : s₁.heap = h0 := by rw [← hh, Bd.state]; rfl
  have N0 := Fr.nil n0
  show own_Go p e below #[(.int (3 : Int32))] s (fun _ U o U' => ∃ v L, o = .returned v ∧ Q_own_pick3 Z A h0 n0 v U'.heap L ∧ FrameEnd U o U' L ({ frames := 0, cells := 0, slots := 0, locals := 0 } : Room).cells ({ frames := 0, cells := 0, slots := 0, locals := 0 } : Room).slots) (s₁.setTop (entryFrame m #[(.int (3 : Int32))] 1))
  refine own_st (V := s₁.setTop (mkF m 0 #[.val (.int (3 : Int32))] [])) (fun t k => castTop (by first | (simp [entryFrame, mkF, argsToLocals, Value.category]; done) | rfl) k) ?_
  refine own_st (V := s₁.setTop (mkF m 1 #[.val (.int (3 : Int32))] [(.int (3 : Int32))])) (fun t k => XS.iloadN X0.here hx rfl (hb hby own_d1_0) rfl k) ?_
  refine own_st (V := s₁.setTop (mkF m 8 #[.val (.int (3 : Int32))] [])) (fun t k => XS.ifYes X0.here hx rfl (pc0 := 1) (pc' := 8) rfl (hb hby own_d1_1) rfl ((if0 _ _).trans (feq (by decide : ¬ ((3 : Int32) = (0 : Int32)))).2) (by decide) (by decide) k) ?_
  refine own_st (V := s₁.setTop (mkF m 9 #[.val (.int (3 : Int32))] [(.int (3 : Int32))])) (fun t k => XS.iloadN X0.here hx rfl (hb hby own_d1_8) rfl k) ?_
  refine own_st (V := s₁.setTop (mkF m 10 #[.val (.int (3 : Int32))] [(.int (1 : Int32)), (.int (3 : Int32))])) (fun t k => XS.iconst X0.here hx rfl (hb hby own_d1_9) k) ?_
  refine own_st (V := s₁.setTop (mkF m 17 #[.val (.int (3 : Int32))] [])) (fun t k => XS.icmpYes X0.here hx rfl (pc0 := 10) (pc' := 17) rfl (hb hby own_d1_10) rfl (feq (by decide : ¬ ((3 : Int32) = (1 : Int32)))).2 (by decide) (by decide) k) ?_
  refine own_st (V := s₁.setTop (mkF m 18 #[.val (.int (3 : Int32))] [(.int (3 : Int32))])) (fun t k => XS.iloadN X0.here hx rfl (hb hby own_d1_17) rfl k) ?_
  refine own_st (V := s₁.setTop (mkF m 19 #[.val (.int (3 : Int32))] [(.int (2 : Int32)), (.int (3 : Int32))])) (fun t k => XS.iconst X0.here hx rfl (hb hby own_d1_18) k) ?_
  refine own_st (V := s₁.setTop (mkF m 26 #[.val (.int (3 : Int32))] [])) (fun t k => XS.icmpYes X0.here hx rfl (pc0 := 19) (pc' := 26) rfl (hb hby own_d1_19) rfl (feq (by decide : ¬ ((3 : Int32) = (2 : Int32)))).2 (by decide) (by decide) k) ?_
  refine own_st (V := s₁.setTop (mkF m 27 #[.val (.int (3 : Int32))] [(.int (3 : Int32))])) (fun t k => XS.iloadN X0.here hx rfl (hb hby own_d1_26) rfl k) ?_
  refine own_st (V := s₁.setTop (mkF m 28 #[.val (.int (3 : Int32))] [(.int (3 : Int32)), (.int (3 : Int32))])) (fun t k => XS.iconst X0.here hx rfl (hb hby own_d1_27) k) ?_
  refine own_st (V := s₁.setTop (mkF m 31 #[.val (.int (3 : Int32))] [])) (fun t k => XS.icmpNo X0.here hx rfl (hb hby own_d1_28) rfl (teq (by decide : (3 : Int32) = (3 : Int32))).2 k) ?_
  obtain ⟨T17, X17, e17, st17⟩ := getS2 X0 hx hZ hown (host := "") (Or.inl (hw _ (List.mem_of_getElem? (i := 33) rfl))) Via.refl e0 (own_S En 3 (i := 3) (n := "LESS_OR_EQUAL") rfl) (g := (mkF m 31 #[.val (.int (3 : Int32))] [])) rfl (hb hby own_d1_31)
  refine own_st (V := T17.setTop (mkF m 34 #[.val (.int (3 : Int32))] [(.ref (A 3))])) (fun t k => st17 _ k) ?_
  exact own_ret X17 hx hlk Bd.returns rfl (Or.inr (Or.inr (Or.inr (Or.inr ⟨rfl, rfl, rfl⟩)))) (hb hby own_d1_34) (by decide) (by decide) (by show Q_own_pick3 Z A h0 n0 _ T17.heap _; rw [e17]; exact ⟨rfl, N0, rfl⟩)
def Q_own_ad3 (Z : State) (A : Nat → Addr) (h0 : Heap) (n0 : Nat) (v : Option Value) (h : Heap) (L : List Loc) : Prop := v = some (.int (3 : Int32)) ∧ Fr n0 L ∧ h = h0
theorem own_d2_20 : decode method_3_code 20 = .ok (.iload_n 0, 1) := by decide +kernel
theorem own_d2_21 : decode method_3_code 21 = .ok (.iconst 3, 1) := by decide +kernel
theorem own_d2_22 : decode method_3_code 22 = .ok (.if_icmp .ne 5, 3) := by decide +kernel
theorem own_d2_25 : decode method_3_code 25 = .ok (.iconst 3, 1) := by decide +kernel
theorem own_d2_26 : decode method_3_code 26 = .ok (.ireturn, 1) := by decide +kernel
set_option maxRecDepth 65536 in
set_option maxHeartbeats 40000000 in
theorem own_ad3 (l : Launch) (Z : State) (a0 : Array Value) (hw : ∀ d ∈ tables_1, d.before a0 Z = true) (ws : List Jvm.Cond) (A : Nat → Addr) (h0 : Heap) (n0 : Nat) (Z0 : n0 ≤ h0.size) (En : own_En Z h0 A) :
    MetFree l (⟨"com/example/affirm_rows/affirmrows/rules/ComparisonHoldsPinLaw", "admittedSigns", "(I)I"⟩ : MethodName) (head1 (Jvm.Cond.code (⟨"com/example/affirm_rows/affirmrows/rules/ComparisonHoldsPinLaw", "admittedSigns", "(I)I"⟩ : MethodName) method_3_code 1 (some .int) :: ws) ({ frames := 0, cells := 0, slots := 0, locals := 0 } : Room)) (fun a U => a = #[(.int (3 : Int32))] ∧ Z.Warmed39 U.vm ∧ U.heap = h0) (fun _ _ _ _ _ => True) (fun _ U o U' => ∃ v L, o = .returned v ∧ Q_own_ad3 Z A h0 n0 v U'.heap L ∧ FrameEnd U o U' L ({ frames := 0, cells := 0, slots := 0, locals := 0 } : Room).cells ({ frames := 0, cells := 0, slots := 0, locals := 0 } : Room).slots) := by
  refine MetFree.of_bodySF (plainFor_of_name own_pn_com_example_affirm_rows_affirmrows_rules_ComparisonHoldsPinLaw) hisR ?_
  intro p e s m args below meth c s₁ Bd hml0 hP hK
  obtain ⟨rfl, hZ, hh⟩ := hP
  have hx := Bd.exec
  have hby := Bd.bytes
  have hml : c.maxLocals = 1 := hml0
  have hown : s.vm.findClass "com/example/affirm_rows/affirmrows/rules/ComparisonHoldsPinLaw" = some m.cls := findClass_of_methodNamed Bd.named
  have hnm := (name_of_methodNamed Bd.named Bd.method).1
  have hlk : meth.locks = false := BodyLoose.notSynchronized Bd
  have X0 : Stand p l e ({ frames := 0, cells := 0, slots := 0, locals := 0 } : Room) s m #[(.int (3 : Int32))] below meth c s₁ [] 0 0 := Stand.of_body Bd
  have e0 : s₁.heap = h0 := by rw [← hh, Bd.state]; rfl
  have N0 := Fr.nil n0
  show own_Go p e below #[(.int (3 : Int32))] s (fun _ U o U' => ∃ v L, o = .returned v ∧ Q_own_ad3 Z A h0 n0 v U'.heap L ∧ FrameEnd U o U' L ({ frames := 0, cells := 0, slots := 0, locals := 0 } : Room).cells ({ frames := 0, cells := 0, slots := 0, locals := 0 } : Room).slots) (s₁.setTop (entryFrame m #[(.int (3 : Int32))] 1))
  refine own_st (V := s₁.setTop (mkF m 0 #[.val (.int (3 : Int32))] [])) (fun t k => castTop (by first | (simp [entryFrame, mkF, argsToLocals, Value.category]; done) | rfl) k) ?_
  refine own_st (V := s₁.setTop (mkF m 1 #[.val (.int (3 : Int32))] [(.int (3 : Int32))])) (fun t k => XS.iloadN X0.here hx rfl (hb hby own_d2_0) rfl k) ?_
  refine own_st (V := s₁.setTop (mkF m 6 #[.val (.int (3 : Int32))] [])) (fun t k => XS.ifYes X0.here hx rfl (pc0 := 1) (pc' := 6) rfl (hb hby own_d2_1) rfl ((if0 _ _).trans (feq (by decide : ¬ ((3 : Int32) = (0 : Int32)))).2) (by decide) (by decide) k) ?_
  refine own_st (V := s₁.setTop (mkF m 7 #[.val (.int (3 : Int32))] [(.int (3 : Int32))])) (fun t k => XS.iloadN X0.here hx rfl (hb hby own_d2_6) rfl k) ?_
  refine own_st (V := s₁.setTop (mkF m 8 #[.val (.int (3 : Int32))] [(.int (1 : Int32)), (.int (3 : Int32))])) (fun t k => XS.iconst X0.here hx rfl (hb hby own_d2_7) k) ?_
  refine own_st (V := s₁.setTop (mkF m 13 #[.val (.int (3 : Int32))] [])) (fun t k => XS.icmpYes X0.here hx rfl (pc0 := 8) (pc' := 13) rfl (hb hby own_d2_8) rfl (feq (by decide : ¬ ((3 : Int32) = (1 : Int32)))).2 (by decide) (by decide) k) ?_
  refine own_st (V := s₁.setTop (mkF m 14 #[.val (.int (3 : Int32))] [(.int (3 : Int32))])) (fun t k => XS.iloadN X0.here hx rfl (hb hby own_d2_13) rfl k) ?_
  refine own_st (V := s₁.setTop (mkF m 15 #[.val (.int (3 : Int32))] [(.int (2 : Int32)), (.int (3 : Int32))])) (fun t k => XS.iconst X0.here hx rfl (hb hby own_d2_14) k) ?_
  refine own_st (V := s₁.setTop (mkF m 20 #[.val (.int (3 : Int32))] [])) (fun t k => XS.icmpYes X0.here hx rfl (pc0 := 15) (pc' := 20) rfl (hb hby own_d2_15) rfl (feq (by decide : ¬ ((3 : Int32) = (2 : Int32)))).2 (by decide) (by decide) k) ?_
  refine own_st (V := s₁.setTop (mkF m 21 #[.val (.int (3 : Int32))] [(.int (3 : Int32))])) (fun t k => XS.iloadN X0.here hx rfl (hb hby own_d2_20) rfl k) ?_
  refine own_st (V := s₁.setTop (mkF m 22 #[.val (.int (3 : Int32))] [(.int (3 : Int32)), (.int (3 : Int32))])) (fun t k => XS.iconst X0.here hx rfl (hb hby own_d2_21) k) ?_
  refine own_st (V := s₁.setTop (mkF m 25 #[.val (.int (3 : Int32))] [])) (fun t k => XS.icmpNo X0.here hx rfl (hb hby own_d2_22) rfl (teq (by decide : (3 : Int32) = (3 : Int32))).2 k) ?_
  refine own_st (V := s₁.setTop (mkF m 26 #[.val (.int (3 : Int32))] [(.int (3 : Int32))])) (fun t k => XS.iconst X0.here hx rfl (hb hby own_d2_25) k) ?_
  exact own_ret X0 hx hlk Bd.returns rfl (Or.inl ⟨rfl, by simp, _, rfl⟩) (hb hby own_d2_26) (by decide) (by decide) (by show Q_own_ad3 Z A h0 n0 _ s₁.heap _; rw [e0]; exact ⟨rfl, N0, rfl⟩)
def Q_own_ho3n (Z : State) (q1 : Int32) (A : Nat → Addr) (h0 : Heap) (n0 : Nat) (v : Option Value) (h : Heap) (L : List Loc) : Prop := v = some (.int (1 : Int32)) ∧ Fr n0 L ∧ h = h0
theorem own_d3_90 : decode prog_45_method_6_code 90 = .ok (.iload_n 1, 1) := by decide +kernel
theorem own_d3_91 : decode prog_45_method_6_code 91 = .ok (.ifCond .gt 7, 3) := by decide +kernel
theorem own_d3_94 : decode prog_45_method_6_code 94 = .ok (.iconst 1, 1) := by decide +kernel
theorem own_d3_95 : decode prog_45_method_6_code 95 = .ok (.goto 28, 3) := by decide +kernel
set_option maxRecDepth 65536 in
set_option maxHeartbeats 40000000 in
theorem own_ho3n (l : Launch) (Z : State) (a0 : Array Value) (hw : ∀ d ∈ tables_1, d.before a0 Z = true) (ws : List Jvm.Cond) (q1 : Int32) (A : Nat → Addr) (h0 : Heap) (n0 : Nat) (Z0 : n0 ≤ h0.size) (En : own_En Z h0 A) (hs : q1 < (0 : Int32)) :
    MetFree l (⟨"com/example/affirm_rows/affirmrows/rules/Comparison", "holds", "(I)Z"⟩ : MethodName) (head1 (Jvm.Cond.code (⟨"com/example/affirm_rows/affirmrows/rules/Comparison", "holds", "(I)Z"⟩ : MethodName) prog_45_method_6_code 2 (some .boolean) :: ws) ({ frames := 1, cells := 0, slots := 0, locals := 12 } : Room)) (fun a U => a = #[(.ref (A 3)), (.int q1)] ∧ Z.Warmed39 U.vm ∧ U.heap = h0) (fun _ _ _ _ _ => True) (fun _ U o U' => ∃ v L, o = .returned v ∧ Q_own_ho3n Z q1 A h0 n0 v U'.heap L ∧ FrameEnd U o U' L ({ frames := 1, cells := 0, slots := 0, locals := 12 } : Room).cells ({ frames := 1, cells := 0, slots := 0, locals := 12 } : Room).slots) := by
  refine MetFree.of_bodySF (plainFor_of_name own_pn_com_example_affirm_rows_affirmrows_rules_Comparison) hisR ?_
  intro p e s m args below meth c s₁ Bd hml0 hP hK
  obtain ⟨rfl, hZ, hh⟩ := hP
  have hx := Bd.exec
  have hby := Bd.bytes
  have hml : c.maxLocals = 2 := hml0
  have hown : s.vm.findClass "com/example/affirm_rows/affirmrows/rules/Comparison" = some m.cls := findClass_of_methodNamed Bd.named
  have hnm := (name_of_methodNamed Bd.named Bd.method).1
  have hlk : meth.locks = false := BodyLoose.notSynchronized Bd
  have X0 : Stand p l e ({ frames := 1, cells := 0, slots := 0, locals := 12 } : Room) s m #[(.ref (A 3)), (.int q1)] below meth c s₁ [] 0 0 := Stand.of_body Bd
  have e0 : s₁.heap = h0 := by rw [← hh, Bd.state]; rfl
  have N0 := Fr.nil n0
  show own_Go p e below #[(.ref (A 3)), (.int q1)] s (fun _ U o U' => ∃ v L, o = .returned v ∧ Q_own_ho3n Z q1 A h0 n0 v U'.heap L ∧ FrameEnd U o U' L ({ frames := 1, cells := 0, slots := 0, locals := 12 } : Room).cells ({ frames := 1, cells := 0, slots := 0, locals := 12 } : Room).slots) (s₁.setTop (entryFrame m #[(.ref (A 3)), (.int q1)] 2))
  refine own_st (V := s₁.setTop (mkF m 0 #[.val (.ref (A 3)), .val (.int q1)] [])) (fun t k => castTop (by first | (simp [entryFrame, mkF, argsToLocals, Value.category]; done) | rfl) k) ?_
  refine own_st (V := s₁.setTop (mkF m 1 #[.val (.ref (A 3)), .val (.int q1)] [(.ref (A 3))])) (fun t k => XS.aloadN X0.here hx rfl (hb hby own_d3_0) rfl rfl k) ?_
  obtain ⟨cq18, kq18, q18a, q18b, q18c⟩ := isOf hZ e0 (own_E En 3 (i := 3) (n := "LESS_OR_EQUAL") rfl)
  obtain ⟨_, _, ⟨T18, L18, k18, n18⟩, -, X18, ⟨Lc18, hQ18, l18, y18, z18⟩, st18⟩ := X0.virtualBackUp hx (x := (⟨"com/example/affirm_rows/affirmrows/rules/Comparison", "ordinal", "()I"⟩ : MethodName)) (y := (⟨"java/lang/Enum", "ordinal", "()I"⟩ : MethodName)) hown (mvT hZ (hw _ (List.mem_of_getElem? (i := 16) rfl))) (mvT hZ (hw _ (List.mem_of_getElem? (i := 17) rfl))) (mvT hZ (hw _ (List.mem_of_getElem? (i := 18) rfl))) (by decide) (mvT hZ (hw _ (List.mem_of_getElem? (i := 20) rfl))) (mvT hZ (hw _ (List.mem_of_getElem? (i := 19) rfl))) (backOf (W := 0) (own_ord3 l Z a0 hw [] A h0 n0 Z0 En ) hZ (hw _ (List.mem_of_getElem? (i := 22) rfl)) (hw _ (List.mem_of_getElem? (i := 21) rfl)) (by decide) (by decide)) q18a q18c (g := (mkF m 1 #[.val (.ref (A 3)), .val (.int q1)] [(.ref (A 3))])) rfl (by rw [hml]; rfl) (Steps.refl _) (argsL := []) (rest := []) (lenOf own_pd0 rfl) rfl (by show 2 * 0 + _ ≤ _; exact Nat.le_of_eq rfl) (hb hby own_d3_1) (fun _ _ => ⟨rfl, e0, (by decide : 0 + 0 ≤ _), (by decide : 0 + 0 ≤ _)⟩)
  dsimp only [Pt.U, Pt.locs, Pt.cells, Pt.slots] at X18 l18 y18 z18 st18 hQ18
  subst l18 y18 z18
  obtain ⟨rfl, N18q, e18⟩ := hQ18
  have N18 := Fr.app N0 N18q
  refine own_st (V := T18.setTop (mkF m 4 #[.val (.ref (A 3)), .val (.int q1)] [(.int (3 : Int32))])) (fun t k => st18.trans k) ?_
  refine own_st (V := T18.setTop (mkF m 90 #[.val (.ref (A 3)), .val (.int q1)] [])) (fun t k => XS.tswIn X18.here hx rfl (pc0 := 4) (pc' := 90) rfl (hb hby own_d3_4) rfl (by decide) (o := 86) rfl (by decide) rfl k) ?_
  refine own_st (V := T18.setTop (mkF m 91 #[.val (.ref (A 3)), .val (.int q1)] [(.int q1)])) (fun t k => XS.iloadN X18.here hx rfl (hb hby own_d3_90) rfl k) ?_
  refine own_st (V := T18.setTop (mkF m 94 #[.val (.ref (A 3)), .val (.int q1)] [])) (fun t k => XS.ifNo X18.here hx rfl (hb hby own_d3_91) rfl ((if0 _ _).trans (flt (own_n2 hs)).2.2.1) k) ?_
  refine own_st (V := T18.setTop (mkF m 95 #[.val (.ref (A 3)), .val (.int q1)] [(.int (1 : Int32))])) (fun t k => XS.iconst X18.here hx rfl (hb hby own_d3_94) k) ?_
  refine own_st (V := T18.setTop (mkF m 123 #[.val (.ref (A 3)), .val (.int q1)] [(.int (1 : Int32))])) (fun t k => XS.goto X18.here hx rfl (pc0 := 95) (pc' := 123) rfl (hb hby own_d3_95) (by decide) (by decide) k) ?_
  exact own_ret X18 hx hlk Bd.returns (by decide +kernel) (Or.inl ⟨rfl, by simp, _, rfl⟩) (hb hby own_d3_123) (by decide) (by decide) (by show Q_own_ho3n Z q1 A h0 n0 _ T18.heap _; rw [e18]; exact ⟨rfl, N18, rfl⟩)
def Q_own_ho3z (Z : State) (q1 : Int32) (A : Nat → Addr) (h0 : Heap) (n0 : Nat) (v : Option Value) (h : Heap) (L : List Loc) : Prop := v = some (.int (1 : Int32)) ∧ Fr n0 L ∧ h = h0
set_option maxRecDepth 65536 in
set_option maxHeartbeats 40000000 in
theorem own_ho3z (l : Launch) (Z : State) (a0 : Array Value) (hw : ∀ d ∈ tables_1, d.before a0 Z = true) (ws : List Jvm.Cond) (q1 : Int32) (A : Nat → Addr) (h0 : Heap) (n0 : Nat) (Z0 : n0 ≤ h0.size) (En : own_En Z h0 A) (hs : q1 = (0 : Int32)) :
    MetFree l (⟨"com/example/affirm_rows/affirmrows/rules/Comparison", "holds", "(I)Z"⟩ : MethodName) (head1 (Jvm.Cond.code (⟨"com/example/affirm_rows/affirmrows/rules/Comparison", "holds", "(I)Z"⟩ : MethodName) prog_45_method_6_code 2 (some .boolean) :: ws) ({ frames := 1, cells := 0, slots := 0, locals := 12 } : Room)) (fun a U => a = #[(.ref (A 3)), (.int q1)] ∧ Z.Warmed39 U.vm ∧ U.heap = h0) (fun _ _ _ _ _ => True) (fun _ U o U' => ∃ v L, o = .returned v ∧ Q_own_ho3z Z q1 A h0 n0 v U'.heap L ∧ FrameEnd U o U' L ({ frames := 1, cells := 0, slots := 0, locals := 12 } : Room).cells ({ frames := 1, cells := 0, slots := 0, locals := 12 } : Room).slots) := by
  refine MetFree.of_bodySF (plainFor_of_name own_pn_com_example_affirm_rows_affirmrows_rules_Comparison) hisR ?_
  intro p e s m args below meth c s₁ Bd hml0 hP hK
  obtain ⟨rfl, hZ, hh⟩ := hP
  have hx := Bd.exec
  have hby := Bd.bytes
  have hml : c.maxLocals = 2 := hml0
  have hown : s.vm.findClass "com/example/affirm_rows/affirmrows/rules/Comparison" = some m.cls := findClass_of_methodNamed Bd.named
  have hnm := (name_of_methodNamed Bd.named Bd.method).1
  have hlk : meth.locks = false := BodyLoose.notSynchronized Bd
  have X0 : Stand p l e ({ frames := 1, cells := 0, slots := 0, locals := 12 } : Room) s m #[(.ref (A 3)), (.int q1)] below meth c s₁ [] 0 0 := Stand.of_body Bd
  have e0 : s₁.heap = h0 := by rw [← hh, Bd.state]; rfl
  have N0 := Fr.nil n0
  show own_Go p e below #[(.ref (A 3)), (.int q1)] s (fun _ U o U' => ∃ v L, o = .returned v ∧ Q_own_ho3z Z q1 A h0 n0 v U'.heap L ∧ FrameEnd U o U' L ({ frames := 1, cells := 0, slots := 0, locals := 12 } : Room).cells ({ frames := 1, cells := 0, slots := 0, locals := 12 } : Room).slots) (s₁.setTop (entryFrame m #[(.ref (A 3)), (.int q1)] 2))
  refine own_st (V := s₁.setTop (mkF m 0 #[.val (.ref (A 3)), .val (.int q1)] [])) (fun t k => castTop (by first | (simp [entryFrame, mkF, argsToLocals, Value.category]; done) | rfl) k) ?_
  refine own_st (V := s₁.setTop (mkF m 1 #[.val (.ref (A 3)), .val (.int q1)] [(.ref (A 3))])) (fun t k => XS.aloadN X0.here hx rfl (hb hby own_d3_0) rfl rfl k) ?_
  obtain ⟨cq19, kq19, q19a, q19b, q19c⟩ := isOf hZ e0 (own_E En 3 (i := 3) (n := "LESS_OR_EQUAL") rfl)
  obtain ⟨_, _, ⟨T19, L19, k19, n19⟩, -, X19, ⟨Lc19, hQ19, l19, y19, z19⟩, st19⟩ := X0.virtualBackUp hx (x := (⟨"com/example/affirm_rows/affirmrows/rules/Comparison", "ordinal", "()I"⟩ : MethodName)) (y := (⟨"java/lang/Enum", "ordinal", "()I"⟩ : MethodName)) hown (mvT hZ (hw _ (List.mem_of_getElem? (i := 16) rfl))) (mvT hZ (hw _ (List.mem_of_getElem? (i := 17) rfl))) (mvT hZ (hw _ (List.mem_of_getElem? (i := 18) rfl))) (by decide) (mvT hZ (hw _ (List.mem_of_getElem? (i := 20) rfl))) (mvT hZ (hw _ (List.mem_of_getElem? (i := 19) rfl))) (backOf (W := 0) (own_ord3 l Z a0 hw [] A h0 n0 Z0 En ) hZ (hw _ (List.mem_of_getElem? (i := 22) rfl)) (hw _ (List.mem_of_getElem? (i := 21) rfl)) (by decide) (by decide)) q19a q19c (g := (mkF m 1 #[.val (.ref (A 3)), .val (.int q1)] [(.ref (A 3))])) rfl (by rw [hml]; rfl) (Steps.refl _) (argsL := []) (rest := []) (lenOf own_pd0 rfl) rfl (by show 2 * 0 + _ ≤ _; exact Nat.le_of_eq rfl) (hb hby own_d3_1) (fun _ _ => ⟨rfl, e0, (by decide : 0 + 0 ≤ _), (by decide : 0 + 0 ≤ _)⟩)
  dsimp only [Pt.U, Pt.locs, Pt.cells, Pt.slots] at X19 l19 y19 z19 st19 hQ19
  subst l19 y19 z19
  obtain ⟨rfl, N19q, e19⟩ := hQ19
  have N19 := Fr.app N0 N19q
  refine own_st (V := T19.setTop (mkF m 4 #[.val (.ref (A 3)), .val (.int q1)] [(.int (3 : Int32))])) (fun t k => st19.trans k) ?_
  refine own_st (V := T19.setTop (mkF m 90 #[.val (.ref (A 3)), .val (.int q1)] [])) (fun t k => XS.tswIn X19.here hx rfl (pc0 := 4) (pc' := 90) rfl (hb hby own_d3_4) rfl (by decide) (o := 86) rfl (by decide) rfl k) ?_
  refine own_st (V := T19.setTop (mkF m 91 #[.val (.ref (A 3)), .val (.int q1)] [(.int q1)])) (fun t k => XS.iloadN X19.here hx rfl (hb hby own_d3_90) rfl k) ?_
  refine own_st (V := T19.setTop (mkF m 94 #[.val (.ref (A 3)), .val (.int q1)] [])) (fun t k => XS.ifNo X19.here hx rfl (hb hby own_d3_91) rfl ((if0 _ _).trans (flt (own_z2 hs)).2.2.1) k) ?_
  refine own_st (V := T19.setTop (mkF m 95 #[.val (.ref (A 3)), .val (.int q1)] [(.int (1 : Int32))])) (fun t k => XS.iconst X19.here hx rfl (hb hby own_d3_94) k) ?_
  refine own_st (V := T19.setTop (mkF m 123 #[.val (.ref (A 3)), .val (.int q1)] [(.int (1 : Int32))])) (fun t k => XS.goto X19.here hx rfl (pc0 := 95) (pc' := 123) rfl (hb hby own_d3_95) (by decide) (by decide) k) ?_
  exact own_ret X19 hx hlk Bd.returns (by decide +kernel) (Or.inl ⟨rfl, by simp, _, rfl⟩) (hb hby own_d3_123) (by decide) (by decide) (by show Q_own_ho3z Z q1 A h0 n0 _ T19.heap _; rw [e19]; exact ⟨rfl, N19, rfl⟩)
def Q_own_ho3p (Z : State) (q1 : Int32) (A : Nat → Addr) (h0 : Heap) (n0 : Nat) (v : Option Value) (h : Heap) (L : List Loc) : Prop := v = some (.int (0 : Int32)) ∧ Fr n0 L ∧ h = h0
theorem own_d3_98 : decode prog_45_method_6_code 98 = .ok (.iconst 0, 1) := by decide +kernel
theorem own_d3_99 : decode prog_45_method_6_code 99 = .ok (.goto 24, 3) := by decide +kernel
set_option maxRecDepth 65536 in
set_option maxHeartbeats 40000000 in
theorem own_ho3p (l : Launch) (Z : State) (a0 : Array Value) (hw : ∀ d ∈ tables_1, d.before a0 Z = true) (ws : List Jvm.Cond) (q1 : Int32) (A : Nat → Addr) (h0 : Heap) (n0 : Nat) (Z0 : n0 ≤ h0.size) (En : own_En Z h0 A) (hs : (0 : Int32) < q1) :
    MetFree l (⟨"com/example/affirm_rows/affirmrows/rules/Comparison", "holds", "(I)Z"⟩ : MethodName) (head1 (Jvm.Cond.code (⟨"com/example/affirm_rows/affirmrows/rules/Comparison", "holds", "(I)Z"⟩ : MethodName) prog_45_method_6_code 2 (some .boolean) :: ws) ({ frames := 1, cells := 0, slots := 0, locals := 12 } : Room)) (fun a U => a = #[(.ref (A 3)), (.int q1)] ∧ Z.Warmed39 U.vm ∧ U.heap = h0) (fun _ _ _ _ _ => True) (fun _ U o U' => ∃ v L, o = .returned v ∧ Q_own_ho3p Z q1 A h0 n0 v U'.heap L ∧ FrameEnd U o U' L ({ frames := 1, cells := 0, slots := 0, locals := 12 } : Room).cells ({ frames := 1, cells := 0, slots := 0, locals := 12 } : Room).slots) := by
  refine MetFree.of_bodySF (plainFor_of_name own_pn_com_example_affirm_rows_affirmrows_rules_Comparison) hisR ?_
  intro p e s m args below meth c s₁ Bd hml0 hP hK
  obtain ⟨rfl, hZ, hh⟩ := hP
  have hx := Bd.exec
  have hby := Bd.bytes
  have hml : c.maxLocals = 2 := hml0
  have hown : s.vm.findClass "com/example/affirm_rows/affirmrows/rules/Comparison" = some m.cls := findClass_of_methodNamed Bd.named
  have hnm := (name_of_methodNamed Bd.named Bd.method).1
  have hlk : meth.locks = false := BodyLoose.notSynchronized Bd
  have X0 : Stand p l e ({ frames := 1, cells := 0, slots := 0, locals := 12 } : Room) s m #[(.ref (A 3)), (.int q1)] below meth c s₁ [] 0 0 := Stand.of_body Bd
  have e0 : s₁.heap = h0 := by rw [← hh, Bd.state]; rfl
  have N0 := Fr.nil n0
  show own_Go p e below #[(.ref (A 3)), (.int q1)] s (fun _ U o U' => ∃ v L, o = .returned v ∧ Q_own_ho3p Z q1 A h0 n0 v U'.heap L ∧ FrameEnd U o U' L ({ frames := 1, cells := 0, slots := 0, locals := 12 } : Room).cells ({ frames := 1, cells := 0, slots := 0, locals := 12 } : Room).slots) (s₁.setTop (entryFrame m #[(.ref (A 3)), (.int q1)] 2))
  refine own_st (V := s₁.setTop (mkF m 0 #[.val (.ref (A 3)), .val (.int q1)] [])) (fun t k => castTop (by first | (simp [entryFrame, mkF, argsToLocals, Value.category]; done) | rfl) k) ?_
  refine own_st (V := s₁.setTop (mkF m 1 #[.val (.ref (A 3)), .val (.int q1)] [(.ref (A 3))])) (fun t k => XS.aloadN X0.here hx rfl (hb hby own_d3_0) rfl rfl k) ?_
  obtain ⟨cq20, kq20, q20a, q20b, q20c⟩ := isOf hZ e0 (own_E En 3 (i := 3) (n := "LESS_OR_EQUAL") rfl)
  obtain ⟨_, _, ⟨T20, L20, k20, n20⟩, -, X20, ⟨Lc20, hQ20, l20, y20, z20⟩, st20⟩ := X0.virtualBackUp hx (x := (⟨"com/example/affirm_rows/affirmrows/rules/Comparison", "ordinal", "()I"⟩ : MethodName)) (y := (⟨"java/lang/Enum", "ordinal", "()I"⟩ : MethodName)) hown (mvT hZ (hw _ (List.mem_of_getElem? (i := 16) rfl))) (mvT hZ (hw _ (List.mem_of_getElem? (i := 17) rfl))) (mvT hZ (hw _ (List.mem_of_getElem? (i := 18) rfl))) (by decide) (mvT hZ (hw _ (List.mem_of_getElem? (i := 20) rfl))) (mvT hZ (hw _ (List.mem_of_getElem? (i := 19) rfl))) (backOf (W := 0) (own_ord3 l Z a0 hw [] A h0 n0 Z0 En ) hZ (hw _ (List.mem_of_getElem? (i := 22) rfl)) (hw _ (List.mem_of_getElem? (i := 21) rfl)) (by decide) (by decide)) q20a q20c (g := (mkF m 1 #[.val (.ref (A 3)), .val (.int q1)] [(.ref (A 3))])) rfl (by rw [hml]; rfl) (Steps.refl _) (argsL := []) (rest := []) (lenOf own_pd0 rfl) rfl (by show 2 * 0 + _ ≤ _; exact Nat.le_of_eq rfl) (hb hby own_d3_1) (fun _ _ => ⟨rfl, e0, (by decide : 0 + 0 ≤ _), (by decide : 0 + 0 ≤ _)⟩)
  dsimp only [Pt.U, Pt.locs, Pt.cells, Pt.slots] at X20 l20 y20 z20 st20 hQ20
  subst l20 y20 z20
  obtain ⟨rfl, N20q, e20⟩ := hQ20
  have N20 := Fr.app N0 N20q
  refine own_st (V := T20.setTop (mkF m 4 #[.val (.ref (A 3)), .val (.int q1)] [(.int (3 : Int32))])) (fun t k => st20.trans k) ?_
  refine own_st (V := T20.setTop (mkF m 90 #[.val (.ref (A 3)), .val (.int q1)] [])) (fun t k => XS.tswIn X20.here hx rfl (pc0 := 4) (pc' := 90) rfl (hb hby own_d3_4) rfl (by decide) (o := 86) rfl (by decide) rfl k) ?_
  refine own_st (V := T20.setTop (mkF m 91 #[.val (.ref (A 3)), .val (.int q1)] [(.int q1)])) (fun t k => XS.iloadN X20.here hx rfl (hb hby own_d3_90) rfl k) ?_
  refine own_st (V := T20.setTop (mkF m 98 #[.val (.ref (A 3)), .val (.int q1)] [])) (fun t k => XS.ifYes X20.here hx rfl (pc0 := 91) (pc' := 98) rfl (hb hby own_d3_91) rfl ((if0 _ _).trans (tlt hs).2.2.1) (by decide) (by decide) k) ?_
  refine own_st (V := T20.setTop (mkF m 99 #[.val (.ref (A 3)), .val (.int q1)] [(.int (0 : Int32))])) (fun t k => XS.iconst X20.here hx rfl (hb hby own_d3_98) k) ?_
  refine own_st (V := T20.setTop (mkF m 123 #[.val (.ref (A 3)), .val (.int q1)] [(.int (0 : Int32))])) (fun t k => XS.goto X20.here hx rfl (pc0 := 99) (pc' := 123) rfl (hb hby own_d3_99) (by decide) (by decide) k) ?_
  exact own_ret X20 hx hlk Bd.returns (by decide +kernel) (Or.inl ⟨rfl, by simp, _, rfl⟩) (hb hby own_d3_123) (by decide) (by decide) (by show Q_own_ho3p Z q1 A h0 n0 _ T20.heap _; rw [e20]; exact ⟨rfl, N20, rfl⟩)
def Q_own_ord4 (Z : State) (A : Nat → Addr) (h0 : Heap) (n0 : Nat) (v : Option Value) (h : Heap) (L : List Loc) : Prop := v = some (.int (4 : Int32)) ∧ Fr n0 L ∧ h = h0
set_option maxRecDepth 65536 in
set_option maxHeartbeats 40000000 in
theorem own_ord4 (l : Launch) (Z : State) (a0 : Array Value) (hw : ∀ d ∈ tables_1, d.before a0 Z = true) (ws : List Jvm.Cond) (A : Nat → Addr) (h0 : Heap) (n0 : Nat) (Z0 : n0 ≤ h0.size) (En : own_En Z h0 A) :
    MetFree l (⟨"java/lang/Enum", "ordinal", "()I"⟩ : MethodName) (head1 (Jvm.Cond.code (⟨"java/lang/Enum", "ordinal", "()I"⟩ : MethodName) jdk_37_method_2_code 1 (some .int) :: ws) ({ frames := 0, cells := 0, slots := 0, locals := 0 } : Room)) (fun a U => a = #[(.ref (A 4))] ∧ Z.Warmed39 U.vm ∧ U.heap = h0) (fun _ _ _ _ _ => True) (fun _ U o U' => ∃ v L, o = .returned v ∧ Q_own_ord4 Z A h0 n0 v U'.heap L ∧ FrameEnd U o U' L ({ frames := 0, cells := 0, slots := 0, locals := 0 } : Room).cells ({ frames := 0, cells := 0, slots := 0, locals := 0 } : Room).slots) := by
  refine MetFree.of_bodySF (plainFor_of_name own_pn_java_lang_Enum) hisR ?_
  intro p e s m args below meth c s₁ Bd hml0 hP hK
  obtain ⟨rfl, hZ, hh⟩ := hP
  have hx := Bd.exec
  have hby := Bd.bytes
  have hml : c.maxLocals = 1 := hml0
  have hown : s.vm.findClass "java/lang/Enum" = some m.cls := findClass_of_methodNamed Bd.named
  have hnm := (name_of_methodNamed Bd.named Bd.method).1
  have hlk : meth.locks = false := BodyLoose.notSynchronized Bd
  have X0 : Stand p l e ({ frames := 0, cells := 0, slots := 0, locals := 0 } : Room) s m #[(.ref (A 4))] below meth c s₁ [] 0 0 := Stand.of_body Bd
  have e0 : s₁.heap = h0 := by rw [← hh, Bd.state]; rfl
  have N0 := Fr.nil n0
  show own_Go p e below #[(.ref (A 4))] s (fun _ U o U' => ∃ v L, o = .returned v ∧ Q_own_ord4 Z A h0 n0 v U'.heap L ∧ FrameEnd U o U' L ({ frames := 0, cells := 0, slots := 0, locals := 0 } : Room).cells ({ frames := 0, cells := 0, slots := 0, locals := 0 } : Room).slots) (s₁.setTop (entryFrame m #[(.ref (A 4))] 1))
  refine own_st (V := s₁.setTop (mkF m 0 #[.val (.ref (A 4))] [])) (fun t k => castTop (by first | (simp [entryFrame, mkF, argsToLocals, Value.category]; done) | rfl) k) ?_
  refine own_st (V := s₁.setTop (mkF m 1 #[.val (.ref (A 4))] [(.ref (A 4))])) (fun t k => XS.aloadN X0.here hx rfl (hb hby own_d4_0) rfl rfl k) ?_
  obtain ⟨T21, X21, e21, st21⟩ := getF X0 hx hZ hown (host := "") (Or.inl (hw _ (List.mem_of_getElem? (i := 23) rfl))) Via.refl e0 (own_O En 4 (i := 4) (n := "GREATER") rfl) (g := (mkF m 1 #[.val (.ref (A 4))] [(.ref (A 4))])) rfl rfl (hb hby own_d4_1)
  refine own_st (V := T21.setTop (mkF m 4 #[.val (.ref (A 4))] [(.int (4 : Int32))])) (fun t k => st21 _ k) ?_
  exact own_ret X21 hx hlk Bd.returns rfl (Or.inl ⟨rfl, by simp, _, rfl⟩) (hb hby own_d4_4) (by decide) (by decide) (by show Q_own_ord4 Z A h0 n0 _ T21.heap _; rw [e21]; exact ⟨rfl, N0, rfl⟩)
def Q_own_pick4 (Z : State) (A : Nat → Addr) (h0 : Heap) (n0 : Nat) (v : Option Value) (h : Heap) (L : List Loc) : Prop := v = some (.ref (A 4)) ∧ Fr n0 L ∧ h = h0
theorem own_d1_35 : decode method_2_code 35 = .ok (.iload_n 0, 1) := by decide +kernel
theorem own_d1_36 : decode method_2_code 36 = .ok (.iconst 4, 1) := by decide +kernel
theorem own_d1_37 : decode method_2_code 37 = .ok (.if_icmp .ne 7, 3) := by decide +kernel
theorem own_d1_40 : decode method_2_code 40 = .ok (.getstatic 22, 3) := by decide +kernel
theorem own_d1_43 : decode method_2_code 43 = .ok (.areturn, 1) := by decide +kernel
set_option maxRecDepth 65536 in
set_option maxHeartbeats 40000000 in
theorem own_pick4 (l : Launch) (Z : State) (a0 : Array Value) (hw : ∀ d ∈ tables_1, d.before a0 Z = true) (ws : List Jvm.Cond) (A : Nat → Addr) (h0 : Heap) (n0 : Nat) (Z0 : n0 ≤ h0.size) (En : own_En Z h0 A) :
    MetFree l (⟨"com/example/affirm_rows/affirmrows/rules/ComparisonHoldsPinLaw", "pick", "(I)Lcom/example/affirm_rows/affirmrows/rules/Comparison;"⟩ : MethodName) (head1 (Jvm.Cond.code (⟨"com/example/affirm_rows/affirmrows/rules/ComparisonHoldsPinLaw", "pick", "(I)Lcom/example/affirm_rows/affirmrows/rules/Comparison;"⟩ : MethodName) method_2_code 1 (some (.object "com/example/affirm_rows/affirmrows/rules/Comparison")) :: ws) ({ frames := 0, cells := 0, slots := 0, locals := 0 } : Room)) (fun a U => a = #[(.int (4 : Int32))] ∧ Z.Warmed39 U.vm ∧ U.heap = h0) (fun _ _ _ _ _ => True) (fun _ U o U' => ∃ v L, o = .returned v ∧ Q_own_pick4 Z A h0 n0 v U'.heap L ∧ FrameEnd U o U' L ({ frames := 0, cells := 0, slots := 0, locals := 0 } : Room).cells ({ frames := 0, cells := 0, slots := 0, locals := 0 } : Room).slots) := by
  refine MetFree.of_bodySF (plainFor_of_name own_pn_com_example_affirm_rows_affirmrows_rules_ComparisonHoldsPinLaw) hisR ?_
  intro p e s m args below meth c s₁ Bd hml0 hP hK
  obtain ⟨rfl, hZ, hh⟩ := hP
  have hx := Bd.exec
  have hby := Bd.bytes
  have hml : c.maxLocals = 1 := hml0
  have hown : s.vm.findClass "com/example/affirm_rows/affirmrows/rules/ComparisonHoldsPinLaw" = some m.cls := findClass_of_methodNamed Bd.named
  have hnm := (name_of_methodNamed Bd.named Bd.method).1
  have hlk : meth.locks = false := BodyLoose.notSynchronized Bd
  have X0 : Stand p l e ({ frames := 0, cells := 0, slots := 0, locals := 0 } : Room) s m #[(.int (4 : Int32))] below meth c s₁ [] 0 0 := Stand.of_body Bd
  have e0 : s₁.heap = h0 := by rw [← hh, Bd.state]; rfl
  have N0 := Fr.nil n0
  show own_Go p e below #[(.int (4 : Int32))] s (fun _ U o U' => ∃ v L, o = .returned v ∧ Q_own_pick4 Z A h0 n0 v U'.heap L ∧ FrameEnd U o U' L ({ frames := 0, cells := 0, slots := 0, locals := 0 } : Room).cells ({ frames := 0, cells := 0, slots := 0, locals := 0 } : Room).slots) (s₁.setTop (entryFrame m #[(.int (4 : Int32))] 1))
  refine own_st (V := s₁.setTop (mkF m 0 #[.val (.int (4 : Int32))] [])) (fun t k => castTop (by first | (simp [entryFrame, mkF, argsToLocals, Value.category]; done) | rfl) k) ?_
  refine own_st (V := s₁.setTop (mkF m 1 #[.val (.int (4 : Int32))] [(.int (4 : Int32))])) (fun t k => XS.iloadN X0.here hx rfl (hb hby own_d1_0) rfl k) ?_
  refine own_st (V := s₁.setTop (mkF m 8 #[.val (.int (4 : Int32))] [])) (fun t k => XS.ifYes X0.here hx rfl (pc0 := 1) (pc' := 8) rfl (hb hby own_d1_1) rfl ((if0 _ _).trans (feq (by decide : ¬ ((4 : Int32) = (0 : Int32)))).2) (by decide) (by decide) k) ?_
  refine own_st (V := s₁.setTop (mkF m 9 #[.val (.int (4 : Int32))] [(.int (4 : Int32))])) (fun t k => XS.iloadN X0.here hx rfl (hb hby own_d1_8) rfl k) ?_
  refine own_st (V := s₁.setTop (mkF m 10 #[.val (.int (4 : Int32))] [(.int (1 : Int32)), (.int (4 : Int32))])) (fun t k => XS.iconst X0.here hx rfl (hb hby own_d1_9) k) ?_
  refine own_st (V := s₁.setTop (mkF m 17 #[.val (.int (4 : Int32))] [])) (fun t k => XS.icmpYes X0.here hx rfl (pc0 := 10) (pc' := 17) rfl (hb hby own_d1_10) rfl (feq (by decide : ¬ ((4 : Int32) = (1 : Int32)))).2 (by decide) (by decide) k) ?_
  refine own_st (V := s₁.setTop (mkF m 18 #[.val (.int (4 : Int32))] [(.int (4 : Int32))])) (fun t k => XS.iloadN X0.here hx rfl (hb hby own_d1_17) rfl k) ?_
  refine own_st (V := s₁.setTop (mkF m 19 #[.val (.int (4 : Int32))] [(.int (2 : Int32)), (.int (4 : Int32))])) (fun t k => XS.iconst X0.here hx rfl (hb hby own_d1_18) k) ?_
  refine own_st (V := s₁.setTop (mkF m 26 #[.val (.int (4 : Int32))] [])) (fun t k => XS.icmpYes X0.here hx rfl (pc0 := 19) (pc' := 26) rfl (hb hby own_d1_19) rfl (feq (by decide : ¬ ((4 : Int32) = (2 : Int32)))).2 (by decide) (by decide) k) ?_
  refine own_st (V := s₁.setTop (mkF m 27 #[.val (.int (4 : Int32))] [(.int (4 : Int32))])) (fun t k => XS.iloadN X0.here hx rfl (hb hby own_d1_26) rfl k) ?_
  refine own_st (V := s₁.setTop (mkF m 28 #[.val (.int (4 : Int32))] [(.int (3 : Int32)), (.int (4 : Int32))])) (fun t k => XS.iconst X0.here hx rfl (hb hby own_d1_27) k) ?_
  refine own_st (V := s₁.setTop (mkF m 35 #[.val (.int (4 : Int32))] [])) (fun t k => XS.icmpYes X0.here hx rfl (pc0 := 28) (pc' := 35) rfl (hb hby own_d1_28) rfl (feq (by decide : ¬ ((4 : Int32) = (3 : Int32)))).2 (by decide) (by decide) k) ?_
  refine own_st (V := s₁.setTop (mkF m 36 #[.val (.int (4 : Int32))] [(.int (4 : Int32))])) (fun t k => XS.iloadN X0.here hx rfl (hb hby own_d1_35) rfl k) ?_
  refine own_st (V := s₁.setTop (mkF m 37 #[.val (.int (4 : Int32))] [(.int (4 : Int32)), (.int (4 : Int32))])) (fun t k => XS.iconst X0.here hx rfl (hb hby own_d1_36) k) ?_
  refine own_st (V := s₁.setTop (mkF m 40 #[.val (.int (4 : Int32))] [])) (fun t k => XS.icmpNo X0.here hx rfl (hb hby own_d1_37) rfl (teq (by decide : (4 : Int32) = (4 : Int32))).2 k) ?_
  obtain ⟨T22, X22, e22, st22⟩ := getS2 X0 hx hZ hown (host := "") (Or.inl (hw _ (List.mem_of_getElem? (i := 27) rfl))) Via.refl e0 (own_S En 4 (i := 4) (n := "GREATER") rfl) (g := (mkF m 40 #[.val (.int (4 : Int32))] [])) rfl (hb hby own_d1_40)
  refine own_st (V := T22.setTop (mkF m 43 #[.val (.int (4 : Int32))] [(.ref (A 4))])) (fun t k => st22 _ k) ?_
  exact own_ret X22 hx hlk Bd.returns rfl (Or.inr (Or.inr (Or.inr (Or.inr ⟨rfl, rfl, rfl⟩)))) (hb hby own_d1_43) (by decide) (by decide) (by show Q_own_pick4 Z A h0 n0 _ T22.heap _; rw [e22]; exact ⟨rfl, N0, rfl⟩)
def Q_own_ad4 (Z : State) (A : Nat → Addr) (h0 : Heap) (n0 : Nat) (v : Option Value) (h : Heap) (L : List Loc) : Prop := v = some (.int (4 : Int32)) ∧ Fr n0 L ∧ h = h0
theorem own_d2_27 : decode method_3_code 27 = .ok (.iload_n 0, 1) := by decide +kernel
theorem own_d2_28 : decode method_3_code 28 = .ok (.iconst 4, 1) := by decide +kernel
theorem own_d2_29 : decode method_3_code 29 = .ok (.if_icmp .ne 5, 3) := by decide +kernel
theorem own_d2_32 : decode method_3_code 32 = .ok (.iconst 4, 1) := by decide +kernel
theorem own_d2_33 : decode method_3_code 33 = .ok (.ireturn, 1) := by decide +kernel
set_option maxRecDepth 65536 in
set_option maxHeartbeats 40000000 in
theorem own_ad4 (l : Launch) (Z : State) (a0 : Array Value) (hw : ∀ d ∈ tables_1, d.before a0 Z = true) (ws : List Jvm.Cond) (A : Nat → Addr) (h0 : Heap) (n0 : Nat) (Z0 : n0 ≤ h0.size) (En : own_En Z h0 A) :
    MetFree l (⟨"com/example/affirm_rows/affirmrows/rules/ComparisonHoldsPinLaw", "admittedSigns", "(I)I"⟩ : MethodName) (head1 (Jvm.Cond.code (⟨"com/example/affirm_rows/affirmrows/rules/ComparisonHoldsPinLaw", "admittedSigns", "(I)I"⟩ : MethodName) method_3_code 1 (some .int) :: ws) ({ frames := 0, cells := 0, slots := 0, locals := 0 } : Room)) (fun a U => a = #[(.int (4 : Int32))] ∧ Z.Warmed39 U.vm ∧ U.heap = h0) (fun _ _ _ _ _ => True) (fun _ U o U' => ∃ v L, o = .returned v ∧ Q_own_ad4 Z A h0 n0 v U'.heap L ∧ FrameEnd U o U' L ({ frames := 0, cells := 0, slots := 0, locals := 0 } : Room).cells ({ frames := 0, cells := 0, slots := 0, locals := 0 } : Room).slots) := by
  refine MetFree.of_bodySF (plainFor_of_name own_pn_com_example_affirm_rows_affirmrows_rules_ComparisonHoldsPinLaw) hisR ?_
  intro p e s m args below meth c s₁ Bd hml0 hP hK
  obtain ⟨rfl, hZ, hh⟩ := hP
  have hx := Bd.exec
  have hby := Bd.bytes
  have hml : c.maxLocals = 1 := hml0
  have hown : s.vm.findClass "com/example/affirm_rows/affirmrows/rules/ComparisonHoldsPinLaw" = some m.cls := findClass_of_methodNamed Bd.named
  have hnm := (name_of_methodNamed Bd.named Bd.method).1
  have hlk : meth.locks = false := BodyLoose.notSynchronized Bd
  have X0 : Stand p l e ({ frames := 0, cells := 0, slots := 0, locals := 0 } : Room) s m #[(.int (4 : Int32))] below meth c s₁ [] 0 0 := Stand.of_body Bd
  have e0 : s₁.heap = h0 := by rw [← hh, Bd.state]; rfl
  have N0 := Fr.nil n0
  show own_Go p e below #[(.int (4 : Int32))] s (fun _ U o U' => ∃ v L, o = .returned v ∧ Q_own_ad4 Z A h0 n0 v U'.heap L ∧ FrameEnd U o U' L ({ frames := 0, cells := 0, slots := 0, locals := 0 } : Room).cells ({ frames := 0, cells := 0, slots := 0, locals := 0 } : Room).slots) (s₁.setTop (entryFrame m #[(.int (4 : Int32))] 1))
  refine own_st (V := s₁.setTop (mkF m 0 #[.val (.int (4 : Int32))] [])) (fun t k => castTop (by first | (simp [entryFrame, mkF, argsToLocals, Value.category]; done) | rfl) k) ?_
  refine own_st (V := s₁.setTop (mkF m 1 #[.val (.int (4 : Int32))] [(.int (4 : Int32))])) (fun t k => XS.iloadN X0.here hx rfl (hb hby own_d2_0) rfl k) ?_
  refine own_st (V := s₁.setTop (mkF m 6 #[.val (.int (4 : Int32))] [])) (fun t k => XS.ifYes X0.here hx rfl (pc0 := 1) (pc' := 6) rfl (hb hby own_d2_1) rfl ((if0 _ _).trans (feq (by decide : ¬ ((4 : Int32) = (0 : Int32)))).2) (by decide) (by decide) k) ?_
  refine own_st (V := s₁.setTop (mkF m 7 #[.val (.int (4 : Int32))] [(.int (4 : Int32))])) (fun t k => XS.iloadN X0.here hx rfl (hb hby own_d2_6) rfl k) ?_
  refine own_st (V := s₁.setTop (mkF m 8 #[.val (.int (4 : Int32))] [(.int (1 : Int32)), (.int (4 : Int32))])) (fun t k => XS.iconst X0.here hx rfl (hb hby own_d2_7) k) ?_
  refine own_st (V := s₁.setTop (mkF m 13 #[.val (.int (4 : Int32))] [])) (fun t k => XS.icmpYes X0.here hx rfl (pc0 := 8) (pc' := 13) rfl (hb hby own_d2_8) rfl (feq (by decide : ¬ ((4 : Int32) = (1 : Int32)))).2 (by decide) (by decide) k) ?_
  refine own_st (V := s₁.setTop (mkF m 14 #[.val (.int (4 : Int32))] [(.int (4 : Int32))])) (fun t k => XS.iloadN X0.here hx rfl (hb hby own_d2_13) rfl k) ?_
  refine own_st (V := s₁.setTop (mkF m 15 #[.val (.int (4 : Int32))] [(.int (2 : Int32)), (.int (4 : Int32))])) (fun t k => XS.iconst X0.here hx rfl (hb hby own_d2_14) k) ?_
  refine own_st (V := s₁.setTop (mkF m 20 #[.val (.int (4 : Int32))] [])) (fun t k => XS.icmpYes X0.here hx rfl (pc0 := 15) (pc' := 20) rfl (hb hby own_d2_15) rfl (feq (by decide : ¬ ((4 : Int32) = (2 : Int32)))).2 (by decide) (by decide) k) ?_
  refine own_st (V := s₁.setTop (mkF m 21 #[.val (.int (4 : Int32))] [(.int (4 : Int32))])) (fun t k => XS.iloadN X0.here hx rfl (hb hby own_d2_20) rfl k) ?_
  refine own_st (V := s₁.setTop (mkF m 22 #[.val (.int (4 : Int32))] [(.int (3 : Int32)), (.int (4 : Int32))])) (fun t k => XS.iconst X0.here hx rfl (hb hby own_d2_21) k) ?_
  refine own_st (V := s₁.setTop (mkF m 27 #[.val (.int (4 : Int32))] [])) (fun t k => XS.icmpYes X0.here hx rfl (pc0 := 22) (pc' := 27) rfl (hb hby own_d2_22) rfl (feq (by decide : ¬ ((4 : Int32) = (3 : Int32)))).2 (by decide) (by decide) k) ?_
  refine own_st (V := s₁.setTop (mkF m 28 #[.val (.int (4 : Int32))] [(.int (4 : Int32))])) (fun t k => XS.iloadN X0.here hx rfl (hb hby own_d2_27) rfl k) ?_
  refine own_st (V := s₁.setTop (mkF m 29 #[.val (.int (4 : Int32))] [(.int (4 : Int32)), (.int (4 : Int32))])) (fun t k => XS.iconst X0.here hx rfl (hb hby own_d2_28) k) ?_
  refine own_st (V := s₁.setTop (mkF m 32 #[.val (.int (4 : Int32))] [])) (fun t k => XS.icmpNo X0.here hx rfl (hb hby own_d2_29) rfl (teq (by decide : (4 : Int32) = (4 : Int32))).2 k) ?_
  refine own_st (V := s₁.setTop (mkF m 33 #[.val (.int (4 : Int32))] [(.int (4 : Int32))])) (fun t k => XS.iconst X0.here hx rfl (hb hby own_d2_32) k) ?_
  exact own_ret X0 hx hlk Bd.returns rfl (Or.inl ⟨rfl, by simp, _, rfl⟩) (hb hby own_d2_33) (by decide) (by decide) (by show Q_own_ad4 Z A h0 n0 _ s₁.heap _; rw [e0]; exact ⟨rfl, N0, rfl⟩)
def Q_own_ho4n (Z : State) (q1 : Int32) (A : Nat → Addr) (h0 : Heap) (n0 : Nat) (v : Option Value) (h : Heap) (L : List Loc) : Prop := v = some (.int (0 : Int32)) ∧ Fr n0 L ∧ h = h0
theorem own_d3_102 : decode prog_45_method_6_code 102 = .ok (.iload_n 1, 1) := by decide +kernel
theorem own_d3_103 : decode prog_45_method_6_code 103 = .ok (.ifCond .le 7, 3) := by decide +kernel
theorem own_d3_110 : decode prog_45_method_6_code 110 = .ok (.iconst 0, 1) := by decide +kernel
theorem own_d3_111 : decode prog_45_method_6_code 111 = .ok (.goto 12, 3) := by decide +kernel
set_option maxRecDepth 65536 in
set_option maxHeartbeats 40000000 in
theorem own_ho4n (l : Launch) (Z : State) (a0 : Array Value) (hw : ∀ d ∈ tables_1, d.before a0 Z = true) (ws : List Jvm.Cond) (q1 : Int32) (A : Nat → Addr) (h0 : Heap) (n0 : Nat) (Z0 : n0 ≤ h0.size) (En : own_En Z h0 A) (hs : q1 < (0 : Int32)) :
    MetFree l (⟨"com/example/affirm_rows/affirmrows/rules/Comparison", "holds", "(I)Z"⟩ : MethodName) (head1 (Jvm.Cond.code (⟨"com/example/affirm_rows/affirmrows/rules/Comparison", "holds", "(I)Z"⟩ : MethodName) prog_45_method_6_code 2 (some .boolean) :: ws) ({ frames := 1, cells := 0, slots := 0, locals := 12 } : Room)) (fun a U => a = #[(.ref (A 4)), (.int q1)] ∧ Z.Warmed39 U.vm ∧ U.heap = h0) (fun _ _ _ _ _ => True) (fun _ U o U' => ∃ v L, o = .returned v ∧ Q_own_ho4n Z q1 A h0 n0 v U'.heap L ∧ FrameEnd U o U' L ({ frames := 1, cells := 0, slots := 0, locals := 12 } : Room).cells ({ frames := 1, cells := 0, slots := 0, locals := 12 } : Room).slots) := by
  refine MetFree.of_bodySF (plainFor_of_name own_pn_com_example_affirm_rows_affirmrows_rules_Comparison) hisR ?_
  intro p e s m args below meth c s₁ Bd hml0 hP hK
  obtain ⟨rfl, hZ, hh⟩ := hP
  have hx := Bd.exec
  have hby := Bd.bytes
  have hml : c.maxLocals = 2 := hml0
  have hown : s.vm.findClass "com/example/affirm_rows/affirmrows/rules/Comparison" = some m.cls := findClass_of_methodNamed Bd.named
  have hnm := (name_of_methodNamed Bd.named Bd.method).1
  have hlk : meth.locks = false := BodyLoose.notSynchronized Bd
  have X0 : Stand p l e ({ frames := 1, cells := 0, slots := 0, locals := 12 } : Room) s m #[(.ref (A 4)), (.int q1)] below meth c s₁ [] 0 0 := Stand.of_body Bd
  have e0 : s₁.heap = h0 := by rw [← hh, Bd.state]; rfl
  have N0 := Fr.nil n0
  show own_Go p e below #[(.ref (A 4)), (.int q1)] s (fun _ U o U' => ∃ v L, o = .returned v ∧ Q_own_ho4n Z q1 A h0 n0 v U'.heap L ∧ FrameEnd U o U' L ({ frames := 1, cells := 0, slots := 0, locals := 12 } : Room).cells ({ frames := 1, cells := 0, slots := 0, locals := 12 } : Room).slots) (s₁.setTop (entryFrame m #[(.ref (A 4)), (.int q1)] 2))
  refine own_st (V := s₁.setTop (mkF m 0 #[.val (.ref (A 4)), .val (.int q1)] [])) (fun t k => castTop (by first | (simp [entryFrame, mkF, argsToLocals, Value.category]; done) | rfl) k) ?_
  refine own_st (V := s₁.setTop (mkF m 1 #[.val (.ref (A 4)), .val (.int q1)] [(.ref (A 4))])) (fun t k => XS.aloadN X0.here hx rfl (hb hby own_d3_0) rfl rfl k) ?_
  obtain ⟨cq23, kq23, q23a, q23b, q23c⟩ := isOf hZ e0 (own_E En 4 (i := 4) (n := "GREATER") rfl)
  obtain ⟨_, _, ⟨T23, L23, k23, n23⟩, -, X23, ⟨Lc23, hQ23, l23, y23, z23⟩, st23⟩ := X0.virtualBackUp hx (x := (⟨"com/example/affirm_rows/affirmrows/rules/Comparison", "ordinal", "()I"⟩ : MethodName)) (y := (⟨"java/lang/Enum", "ordinal", "()I"⟩ : MethodName)) hown (mvT hZ (hw _ (List.mem_of_getElem? (i := 16) rfl))) (mvT hZ (hw _ (List.mem_of_getElem? (i := 17) rfl))) (mvT hZ (hw _ (List.mem_of_getElem? (i := 18) rfl))) (by decide) (mvT hZ (hw _ (List.mem_of_getElem? (i := 20) rfl))) (mvT hZ (hw _ (List.mem_of_getElem? (i := 19) rfl))) (backOf (W := 0) (own_ord4 l Z a0 hw [] A h0 n0 Z0 En ) hZ (hw _ (List.mem_of_getElem? (i := 22) rfl)) (hw _ (List.mem_of_getElem? (i := 21) rfl)) (by decide) (by decide)) q23a q23c (g := (mkF m 1 #[.val (.ref (A 4)), .val (.int q1)] [(.ref (A 4))])) rfl (by rw [hml]; rfl) (Steps.refl _) (argsL := []) (rest := []) (lenOf own_pd0 rfl) rfl (by show 2 * 0 + _ ≤ _; exact Nat.le_of_eq rfl) (hb hby own_d3_1) (fun _ _ => ⟨rfl, e0, (by decide : 0 + 0 ≤ _), (by decide : 0 + 0 ≤ _)⟩)
  dsimp only [Pt.U, Pt.locs, Pt.cells, Pt.slots] at X23 l23 y23 z23 st23 hQ23
  subst l23 y23 z23
  obtain ⟨rfl, N23q, e23⟩ := hQ23
  have N23 := Fr.app N0 N23q
  refine own_st (V := T23.setTop (mkF m 4 #[.val (.ref (A 4)), .val (.int q1)] [(.int (4 : Int32))])) (fun t k => st23.trans k) ?_
  refine own_st (V := T23.setTop (mkF m 102 #[.val (.ref (A 4)), .val (.int q1)] [])) (fun t k => XS.tswIn X23.here hx rfl (pc0 := 4) (pc' := 102) rfl (hb hby own_d3_4) rfl (by decide) (o := 98) rfl (by decide) rfl k) ?_
  refine own_st (V := T23.setTop (mkF m 103 #[.val (.ref (A 4)), .val (.int q1)] [(.int q1)])) (fun t k => XS.iloadN X23.here hx rfl (hb hby own_d3_102) rfl k) ?_
  refine own_st (V := T23.setTop (mkF m 110 #[.val (.ref (A 4)), .val (.int q1)] [])) (fun t k => XS.ifYes X23.here hx rfl (pc0 := 103) (pc' := 110) rfl (hb hby own_d3_103) rfl ((if0 _ _).trans (flt (own_n2 hs)).2.2.2) (by decide) (by decide) k) ?_
  refine own_st (V := T23.setTop (mkF m 111 #[.val (.ref (A 4)), .val (.int q1)] [(.int (0 : Int32))])) (fun t k => XS.iconst X23.here hx rfl (hb hby own_d3_110) k) ?_
  refine own_st (V := T23.setTop (mkF m 123 #[.val (.ref (A 4)), .val (.int q1)] [(.int (0 : Int32))])) (fun t k => XS.goto X23.here hx rfl (pc0 := 111) (pc' := 123) rfl (hb hby own_d3_111) (by decide) (by decide) k) ?_
  exact own_ret X23 hx hlk Bd.returns (by decide +kernel) (Or.inl ⟨rfl, by simp, _, rfl⟩) (hb hby own_d3_123) (by decide) (by decide) (by show Q_own_ho4n Z q1 A h0 n0 _ T23.heap _; rw [e23]; exact ⟨rfl, N23, rfl⟩)
def Q_own_ho4z (Z : State) (q1 : Int32) (A : Nat → Addr) (h0 : Heap) (n0 : Nat) (v : Option Value) (h : Heap) (L : List Loc) : Prop := v = some (.int (0 : Int32)) ∧ Fr n0 L ∧ h = h0
set_option maxRecDepth 65536 in
set_option maxHeartbeats 40000000 in
theorem own_ho4z (l : Launch) (Z : State) (a0 : Array Value) (hw : ∀ d ∈ tables_1, d.before a0 Z = true) (ws : List Jvm.Cond) (q1 : Int32) (A : Nat → Addr) (h0 : Heap) (n0 : Nat) (Z0 : n0 ≤ h0.size) (En : own_En Z h0 A) (hs : q1 = (0 : Int32)) :
    MetFree l (⟨"com/example/affirm_rows/affirmrows/rules/Comparison", "holds", "(I)Z"⟩ : MethodName) (head1 (Jvm.Cond.code (⟨"com/example/affirm_rows/affirmrows/rules/Comparison", "holds", "(I)Z"⟩ : MethodName) prog_45_method_6_code 2 (some .boolean) :: ws) ({ frames := 1, cells := 0, slots := 0, locals := 12 } : Room)) (fun a U => a = #[(.ref (A 4)), (.int q1)] ∧ Z.Warmed39 U.vm ∧ U.heap = h0) (fun _ _ _ _ _ => True) (fun _ U o U' => ∃ v L, o = .returned v ∧ Q_own_ho4z Z q1 A h0 n0 v U'.heap L ∧ FrameEnd U o U' L ({ frames := 1, cells := 0, slots := 0, locals := 12 } : Room).cells ({ frames := 1, cells := 0, slots := 0, locals := 12 } : Room).slots) := by
  refine MetFree.of_bodySF (plainFor_of_name own_pn_com_example_affirm_rows_affirmrows_rules_Comparison) hisR ?_
  intro p e s m args below meth c s₁ Bd hml0 hP hK
  obtain ⟨rfl, hZ, hh⟩ := hP
  have hx := Bd.exec
  have hby := Bd.bytes
  have hml : c.maxLocals = 2 := hml0
  have hown : s.vm.findClass "com/example/affirm_rows/affirmrows/rules/Comparison" = some m.cls := findClass_of_methodNamed Bd.named
  have hnm := (name_of_methodNamed Bd.named Bd.method).1
  have hlk : meth.locks = false := BodyLoose.notSynchronized Bd
  have X0 : Stand p l e ({ frames := 1, cells := 0, slots := 0, locals := 12 } : Room) s m #[(.ref (A 4)), (.int q1)] below meth c s₁ [] 0 0 := Stand.of_body Bd
  have e0 : s₁.heap = h0 := by rw [← hh, Bd.state]; rfl
  have N0 := Fr.nil n0
  show own_Go p e below #[(.ref (A 4)), (.int q1)] s (fun _ U o U' => ∃ v L, o = .returned v ∧ Q_own_ho4z Z q1 A h0 n0 v U'.heap L ∧ FrameEnd U o U' L ({ frames := 1, cells := 0, slots := 0, locals := 12 } : Room).cells ({ frames := 1, cells := 0, slots := 0, locals := 12 } : Room).slots) (s₁.setTop (entryFrame m #[(.ref (A 4)), (.int q1)] 2))
  refine own_st (V := s₁.setTop (mkF m 0 #[.val (.ref (A 4)), .val (.int q1)] [])) (fun t k => castTop (by first | (simp [entryFrame, mkF, argsToLocals, Value.category]; done) | rfl) k) ?_
  refine own_st (V := s₁.setTop (mkF m 1 #[.val (.ref (A 4)), .val (.int q1)] [(.ref (A 4))])) (fun t k => XS.aloadN X0.here hx rfl (hb hby own_d3_0) rfl rfl k) ?_
  obtain ⟨cq24, kq24, q24a, q24b, q24c⟩ := isOf hZ e0 (own_E En 4 (i := 4) (n := "GREATER") rfl)
  obtain ⟨_, _, ⟨T24, L24, k24, n24⟩, -, X24, ⟨Lc24, hQ24, l24, y24, z24⟩, st24⟩ := X0.virtualBackUp hx (x := (⟨"com/example/affirm_rows/affirmrows/rules/Comparison", "ordinal", "()I"⟩ : MethodName)) (y := (⟨"java/lang/Enum", "ordinal", "()I"⟩ : MethodName)) hown (mvT hZ (hw _ (List.mem_of_getElem? (i := 16) rfl))) (mvT hZ (hw _ (List.mem_of_getElem? (i := 17) rfl))) (mvT hZ (hw _ (List.mem_of_getElem? (i := 18) rfl))) (by decide) (mvT hZ (hw _ (List.mem_of_getElem? (i := 20) rfl))) (mvT hZ (hw _ (List.mem_of_getElem? (i := 19) rfl))) (backOf (W := 0) (own_ord4 l Z a0 hw [] A h0 n0 Z0 En ) hZ (hw _ (List.mem_of_getElem? (i := 22) rfl)) (hw _ (List.mem_of_getElem? (i := 21) rfl)) (by decide) (by decide)) q24a q24c (g := (mkF m 1 #[.val (.ref (A 4)), .val (.int q1)] [(.ref (A 4))])) rfl (by rw [hml]; rfl) (Steps.refl _) (argsL := []) (rest := []) (lenOf own_pd0 rfl) rfl (by show 2 * 0 + _ ≤ _; exact Nat.le_of_eq rfl) (hb hby own_d3_1) (fun _ _ => ⟨rfl, e0, (by decide : 0 + 0 ≤ _), (by decide : 0 + 0 ≤ _)⟩)
  dsimp only [Pt.U, Pt.locs, Pt.cells, Pt.slots] at X24 l24 y24 z24 st24 hQ24
  subst l24 y24 z24
  obtain ⟨rfl, N24q, e24⟩ := hQ24
  have N24 := Fr.app N0 N24q
  refine own_st (V := T24.setTop (mkF m 4 #[.val (.ref (A 4)), .val (.int q1)] [(.int (4 : Int32))])) (fun t k => st24.trans k) ?_
  refine own_st (V := T24.setTop (mkF m 102 #[.val (.ref (A 4)), .val (.int q1)] [])) (fun t k => XS.tswIn X24.here hx rfl (pc0 := 4) (pc' := 102) rfl (hb hby own_d3_4) rfl (by decide) (o := 98) rfl (by decide) rfl k) ?_
  refine own_st (V := T24.setTop (mkF m 103 #[.val (.ref (A 4)), .val (.int q1)] [(.int q1)])) (fun t k => XS.iloadN X24.here hx rfl (hb hby own_d3_102) rfl k) ?_
  refine own_st (V := T24.setTop (mkF m 110 #[.val (.ref (A 4)), .val (.int q1)] [])) (fun t k => XS.ifYes X24.here hx rfl (pc0 := 103) (pc' := 110) rfl (hb hby own_d3_103) rfl ((if0 _ _).trans (flt (own_z2 hs)).2.2.2) (by decide) (by decide) k) ?_
  refine own_st (V := T24.setTop (mkF m 111 #[.val (.ref (A 4)), .val (.int q1)] [(.int (0 : Int32))])) (fun t k => XS.iconst X24.here hx rfl (hb hby own_d3_110) k) ?_
  refine own_st (V := T24.setTop (mkF m 123 #[.val (.ref (A 4)), .val (.int q1)] [(.int (0 : Int32))])) (fun t k => XS.goto X24.here hx rfl (pc0 := 111) (pc' := 123) rfl (hb hby own_d3_111) (by decide) (by decide) k) ?_
  exact own_ret X24 hx hlk Bd.returns (by decide +kernel) (Or.inl ⟨rfl, by simp, _, rfl⟩) (hb hby own_d3_123) (by decide) (by decide) (by show Q_own_ho4z Z q1 A h0 n0 _ T24.heap _; rw [e24]; exact ⟨rfl, N24, rfl⟩)
def Q_own_ho4p (Z : State) (q1 : Int32) (A : Nat → Addr) (h0 : Heap) (n0 : Nat) (v : Option Value) (h : Heap) (L : List Loc) : Prop := v = some (.int (1 : Int32)) ∧ Fr n0 L ∧ h = h0
theorem own_d3_106 : decode prog_45_method_6_code 106 = .ok (.iconst 1, 1) := by decide +kernel
theorem own_d3_107 : decode prog_45_method_6_code 107 = .ok (.goto 16, 3) := by decide +kernel
set_option maxRecDepth 65536 in
set_option maxHeartbeats 40000000 in
theorem own_ho4p (l : Launch) (Z : State) (a0 : Array Value) (hw : ∀ d ∈ tables_1, d.before a0 Z = true) (ws : List Jvm.Cond) (q1 : Int32) (A : Nat → Addr) (h0 : Heap) (n0 : Nat) (Z0 : n0 ≤ h0.size) (En : own_En Z h0 A) (hs : (0 : Int32) < q1) :
    MetFree l (⟨"com/example/affirm_rows/affirmrows/rules/Comparison", "holds", "(I)Z"⟩ : MethodName) (head1 (Jvm.Cond.code (⟨"com/example/affirm_rows/affirmrows/rules/Comparison", "holds", "(I)Z"⟩ : MethodName) prog_45_method_6_code 2 (some .boolean) :: ws) ({ frames := 1, cells := 0, slots := 0, locals := 12 } : Room)) (fun a U => a = #[(.ref (A 4)), (.int q1)] ∧ Z.Warmed39 U.vm ∧ U.heap = h0) (fun _ _ _ _ _ => True) (fun _ U o U' => ∃ v L, o = .returned v ∧ Q_own_ho4p Z q1 A h0 n0 v U'.heap L ∧ FrameEnd U o U' L ({ frames := 1, cells := 0, slots := 0, locals := 12 } : Room).cells ({ frames := 1, cells := 0, slots := 0, locals := 12 } : Room).slots) := by
  refine MetFree.of_bodySF (plainFor_of_name own_pn_com_example_affirm_rows_affirmrows_rules_Comparison) hisR ?_
  intro p e s m args below meth c s₁ Bd hml0 hP hK
  obtain ⟨rfl, hZ, hh⟩ := hP
  have hx := Bd.exec
  have hby := Bd.bytes
  have hml : c.maxLocals = 2 := hml0
  have hown : s.vm.findClass "com/example/affirm_rows/affirmrows/rules/Comparison" = some m.cls := findClass_of_methodNamed Bd.named
  have hnm := (name_of_methodNamed Bd.named Bd.method).1
  have hlk : meth.locks = false := BodyLoose.notSynchronized Bd
  have X0 : Stand p l e ({ frames := 1, cells := 0, slots := 0, locals := 12 } : Room) s m #[(.ref (A 4)), (.int q1)] below meth c s₁ [] 0 0 := Stand.of_body Bd
  have e0 : s₁.heap = h0 := by rw [← hh, Bd.state]; rfl
  have N0 := Fr.nil n0
  show own_Go p e below #[(.ref (A 4)), (.int q1)] s (fun _ U o U' => ∃ v L, o = .returned v ∧ Q_own_ho4p Z q1 A h0 n0 v U'.heap L ∧ FrameEnd U o U' L ({ frames := 1, cells := 0, slots := 0, locals := 12 } : Room).cells ({ frames := 1, cells := 0, slots := 0, locals := 12 } : Room).slots) (s₁.setTop (entryFrame m #[(.ref (A 4)), (.int q1)] 2))
  refine own_st (V := s₁.setTop (mkF m 0 #[.val (.ref (A 4)), .val (.int q1)] [])) (fun t k => castTop (by first | (simp [entryFrame, mkF, argsToLocals, Value.category]; done) | rfl) k) ?_
  refine own_st (V := s₁.setTop (mkF m 1 #[.val (.ref (A 4)), .val (.int q1)] [(.ref (A 4))])) (fun t k => XS.aloadN X0.here hx rfl (hb hby own_d3_0) rfl rfl k) ?_
  obtain ⟨cq25, kq25, q25a, q25b, q25c⟩ := isOf hZ e0 (own_E En 4 (i := 4) (n := "GREATER") rfl)
  obtain ⟨_, _, ⟨T25, L25, k25, n25⟩, -, X25, ⟨Lc25, hQ25, l25, y25, z25⟩, st25⟩ := X0.virtualBackUp hx (x := (⟨"com/example/affirm_rows/affirmrows/rules/Comparison", "ordinal", "()I"⟩ : MethodName)) (y := (⟨"java/lang/Enum", "ordinal", "()I"⟩ : MethodName)) hown (mvT hZ (hw _ (List.mem_of_getElem? (i := 16) rfl))) (mvT hZ (hw _ (List.mem_of_getElem? (i := 17) rfl))) (mvT hZ (hw _ (List.mem_of_getElem? (i := 18) rfl))) (by decide) (mvT hZ (hw _ (List.mem_of_getElem? (i := 20) rfl))) (mvT hZ (hw _ (List.mem_of_getElem? (i := 19) rfl))) (backOf (W := 0) (own_ord4 l Z a0 hw [] A h0 n0 Z0 En ) hZ (hw _ (List.mem_of_getElem? (i := 22) rfl)) (hw _ (List.mem_of_getElem? (i := 21) rfl)) (by decide) (by decide)) q25a q25c (g := (mkF m 1 #[.val (.ref (A 4)), .val (.int q1)] [(.ref (A 4))])) rfl (by rw [hml]; rfl) (Steps.refl _) (argsL := []) (rest := []) (lenOf own_pd0 rfl) rfl (by show 2 * 0 + _ ≤ _; exact Nat.le_of_eq rfl) (hb hby own_d3_1) (fun _ _ => ⟨rfl, e0, (by decide : 0 + 0 ≤ _), (by decide : 0 + 0 ≤ _)⟩)
  dsimp only [Pt.U, Pt.locs, Pt.cells, Pt.slots] at X25 l25 y25 z25 st25 hQ25
  subst l25 y25 z25
  obtain ⟨rfl, N25q, e25⟩ := hQ25
  have N25 := Fr.app N0 N25q
  refine own_st (V := T25.setTop (mkF m 4 #[.val (.ref (A 4)), .val (.int q1)] [(.int (4 : Int32))])) (fun t k => st25.trans k) ?_
  refine own_st (V := T25.setTop (mkF m 102 #[.val (.ref (A 4)), .val (.int q1)] [])) (fun t k => XS.tswIn X25.here hx rfl (pc0 := 4) (pc' := 102) rfl (hb hby own_d3_4) rfl (by decide) (o := 98) rfl (by decide) rfl k) ?_
  refine own_st (V := T25.setTop (mkF m 103 #[.val (.ref (A 4)), .val (.int q1)] [(.int q1)])) (fun t k => XS.iloadN X25.here hx rfl (hb hby own_d3_102) rfl k) ?_
  refine own_st (V := T25.setTop (mkF m 106 #[.val (.ref (A 4)), .val (.int q1)] [])) (fun t k => XS.ifNo X25.here hx rfl (hb hby own_d3_103) rfl ((if0 _ _).trans (tlt hs).2.2.2) k) ?_
  refine own_st (V := T25.setTop (mkF m 107 #[.val (.ref (A 4)), .val (.int q1)] [(.int (1 : Int32))])) (fun t k => XS.iconst X25.here hx rfl (hb hby own_d3_106) k) ?_
  refine own_st (V := T25.setTop (mkF m 123 #[.val (.ref (A 4)), .val (.int q1)] [(.int (1 : Int32))])) (fun t k => XS.goto X25.here hx rfl (pc0 := 107) (pc' := 123) rfl (hb hby own_d3_107) (by decide) (by decide) k) ?_
  exact own_ret X25 hx hlk Bd.returns (by decide +kernel) (Or.inl ⟨rfl, by simp, _, rfl⟩) (hb hby own_d3_123) (by decide) (by decide) (by show Q_own_ho4p Z q1 A h0 n0 _ T25.heap _; rw [e25]; exact ⟨rfl, N25, rfl⟩)
def Q_own_ord5 (Z : State) (A : Nat → Addr) (h0 : Heap) (n0 : Nat) (v : Option Value) (h : Heap) (L : List Loc) : Prop := v = some (.int (5 : Int32)) ∧ Fr n0 L ∧ h = h0
set_option maxRecDepth 65536 in
set_option maxHeartbeats 40000000 in
theorem own_ord5 (l : Launch) (Z : State) (a0 : Array Value) (hw : ∀ d ∈ tables_1, d.before a0 Z = true) (ws : List Jvm.Cond) (A : Nat → Addr) (h0 : Heap) (n0 : Nat) (Z0 : n0 ≤ h0.size) (En : own_En Z h0 A) :
    MetFree l (⟨"java/lang/Enum", "ordinal", "()I"⟩ : MethodName) (head1 (Jvm.Cond.code (⟨"java/lang/Enum", "ordinal", "()I"⟩ : MethodName) jdk_37_method_2_code 1 (some .int) :: ws) ({ frames := 0, cells := 0, slots := 0, locals := 0 } : Room)) (fun a U => a = #[(.ref (A 5))] ∧ Z.Warmed39 U.vm ∧ U.heap = h0) (fun _ _ _ _ _ => True) (fun _ U o U' => ∃ v L, o = .returned v ∧ Q_own_ord5 Z A h0 n0 v U'.heap L ∧ FrameEnd U o U' L ({ frames := 0, cells := 0, slots := 0, locals := 0 } : Room).cells ({ frames := 0, cells := 0, slots := 0, locals := 0 } : Room).slots) := by
  refine MetFree.of_bodySF (plainFor_of_name own_pn_java_lang_Enum) hisR ?_
  intro p e s m args below meth c s₁ Bd hml0 hP hK
  obtain ⟨rfl, hZ, hh⟩ := hP
  have hx := Bd.exec
  have hby := Bd.bytes
  have hml : c.maxLocals = 1 := hml0
  have hown : s.vm.findClass "java/lang/Enum" = some m.cls := findClass_of_methodNamed Bd.named
  have hnm := (name_of_methodNamed Bd.named Bd.method).1
  have hlk : meth.locks = false := BodyLoose.notSynchronized Bd
  have X0 : Stand p l e ({ frames := 0, cells := 0, slots := 0, locals := 0 } : Room) s m #[(.ref (A 5))] below meth c s₁ [] 0 0 := Stand.of_body Bd
  have e0 : s₁.heap = h0 := by rw [← hh, Bd.state]; rfl
  have N0 := Fr.nil n0
  show own_Go p e below #[(.ref (A 5))] s (fun _ U o U' => ∃ v L, o = .returned v ∧ Q_own_ord5 Z A h0 n0 v U'.heap L ∧ FrameEnd U o U' L ({ frames := 0, cells := 0, slots := 0, locals := 0 } : Room).cells ({ frames := 0, cells := 0, slots := 0, locals := 0 } : Room).slots) (s₁.setTop (entryFrame m #[(.ref (A 5))] 1))
  refine own_st (V := s₁.setTop (mkF m 0 #[.val (.ref (A 5))] [])) (fun t k => castTop (by first | (simp [entryFrame, mkF, argsToLocals, Value.category]; done) | rfl) k) ?_
  refine own_st (V := s₁.setTop (mkF m 1 #[.val (.ref (A 5))] [(.ref (A 5))])) (fun t k => XS.aloadN X0.here hx rfl (hb hby own_d4_0) rfl rfl k) ?_
  obtain ⟨T26, X26, e26, st26⟩ := getF X0 hx hZ hown (host := "") (Or.inl (hw _ (List.mem_of_getElem? (i := 23) rfl))) Via.refl e0 (own_O En 5 (i := 5) (n := "GREATER_OR_EQUAL") rfl) (g := (mkF m 1 #[.val (.ref (A 5))] [(.ref (A 5))])) rfl rfl (hb hby own_d4_1)
  refine own_st (V := T26.setTop (mkF m 4 #[.val (.ref (A 5))] [(.int (5 : Int32))])) (fun t k => st26 _ k) ?_
  exact own_ret X26 hx hlk Bd.returns rfl (Or.inl ⟨rfl, by simp, _, rfl⟩) (hb hby own_d4_4) (by decide) (by decide) (by show Q_own_ord5 Z A h0 n0 _ T26.heap _; rw [e26]; exact ⟨rfl, N0, rfl⟩)
def Q_own_pick5 (Z : State) (A : Nat → Addr) (h0 : Heap) (n0 : Nat) (v : Option Value) (h : Heap) (L : List Loc) : Prop := v = some (.ref (A 5)) ∧ Fr n0 L ∧ h = h0
theorem own_d1_44 : decode method_2_code 44 = .ok (.getstatic 25, 3) := by decide +kernel
theorem own_d1_47 : decode method_2_code 47 = .ok (.areturn, 1) := by decide +kernel
set_option maxRecDepth 65536 in
set_option maxHeartbeats 40000000 in
theorem own_pick5 (l : Launch) (Z : State) (a0 : Array Value) (hw : ∀ d ∈ tables_1, d.before a0 Z = true) (ws : List Jvm.Cond) (A : Nat → Addr) (h0 : Heap) (n0 : Nat) (Z0 : n0 ≤ h0.size) (En : own_En Z h0 A) :
    MetFree l (⟨"com/example/affirm_rows/affirmrows/rules/ComparisonHoldsPinLaw", "pick", "(I)Lcom/example/affirm_rows/affirmrows/rules/Comparison;"⟩ : MethodName) (head1 (Jvm.Cond.code (⟨"com/example/affirm_rows/affirmrows/rules/ComparisonHoldsPinLaw", "pick", "(I)Lcom/example/affirm_rows/affirmrows/rules/Comparison;"⟩ : MethodName) method_2_code 1 (some (.object "com/example/affirm_rows/affirmrows/rules/Comparison")) :: ws) ({ frames := 0, cells := 0, slots := 0, locals := 0 } : Room)) (fun a U => a = #[(.int (5 : Int32))] ∧ Z.Warmed39 U.vm ∧ U.heap = h0) (fun _ _ _ _ _ => True) (fun _ U o U' => ∃ v L, o = .returned v ∧ Q_own_pick5 Z A h0 n0 v U'.heap L ∧ FrameEnd U o U' L ({ frames := 0, cells := 0, slots := 0, locals := 0 } : Room).cells ({ frames := 0, cells := 0, slots := 0, locals := 0 } : Room).slots) := by
  refine MetFree.of_bodySF (plainFor_of_name own_pn_com_example_affirm_rows_affirmrows_rules_ComparisonHoldsPinLaw) hisR ?_
  intro p e s m args below meth c s₁ Bd hml0 hP hK
  obtain ⟨rfl, hZ, hh⟩ := hP
  have hx := Bd.exec
  have hby := Bd.bytes
  have hml : c.maxLocals = 1 := hml0
  have hown : s.vm.findClass "com/example/affirm_rows/affirmrows/rules/ComparisonHoldsPinLaw" = some m.cls := findClass_of_methodNamed Bd.named
  have hnm := (name_of_methodNamed Bd.named Bd.method).1
  have hlk : meth.locks = false := BodyLoose.notSynchronized Bd
  have X0 : Stand p l e ({ frames := 0, cells := 0, slots := 0, locals := 0 } : Room) s m #[(.int (5 : Int32))] below meth c s₁ [] 0 0 := Stand.of_body Bd
  have e0 : s₁.heap = h0 := by rw [← hh, Bd.state]; rfl
  have N0 := Fr.nil n0
  show own_Go p e below #[(.int (5 : Int32))] s (fun _ U o U' => ∃ v L, o = .returned v ∧ Q_own_pick5 Z A h0 n0 v U'.heap L ∧ FrameEnd U o U' L ({ frames := 0, cells := 0, slots := 0, locals := 0 } : Room).cells ({ frames := 0, cells := 0, slots := 0, locals := 0 } : Room).slots) (s₁.setTop (entryFrame m #[(.int (5 : Int32))] 1))
  refine own_st (V := s₁.setTop (mkF m 0 #[.val (.int (5 : Int32))] [])) (fun t k => castTop (by first | (simp [entryFrame, mkF, argsToLocals, Value.category]; done) | rfl) k) ?_
  refine own_st (V := s₁.setTop (mkF m 1 #[.val (.int (5 : Int32))] [(.int (5 : Int32))])) (fun t k => XS.iloadN X0.here hx rfl (hb hby own_d1_0) rfl k) ?_
  refine own_st (V := s₁.setTop (mkF m 8 #[.val (.int (5 : Int32))] [])) (fun t k => XS.ifYes X0.here hx rfl (pc0 := 1) (pc' := 8) rfl (hb hby own_d1_1) rfl ((if0 _ _).trans (feq (by decide : ¬ ((5 : Int32) = (0 : Int32)))).2) (by decide) (by decide) k) ?_
  refine own_st (V := s₁.setTop (mkF m 9 #[.val (.int (5 : Int32))] [(.int (5 : Int32))])) (fun t k => XS.iloadN X0.here hx rfl (hb hby own_d1_8) rfl k) ?_
  refine own_st (V := s₁.setTop (mkF m 10 #[.val (.int (5 : Int32))] [(.int (1 : Int32)), (.int (5 : Int32))])) (fun t k => XS.iconst X0.here hx rfl (hb hby own_d1_9) k) ?_
  refine own_st (V := s₁.setTop (mkF m 17 #[.val (.int (5 : Int32))] [])) (fun t k => XS.icmpYes X0.here hx rfl (pc0 := 10) (pc' := 17) rfl (hb hby own_d1_10) rfl (feq (by decide : ¬ ((5 : Int32) = (1 : Int32)))).2 (by decide) (by decide) k) ?_
  refine own_st (V := s₁.setTop (mkF m 18 #[.val (.int (5 : Int32))] [(.int (5 : Int32))])) (fun t k => XS.iloadN X0.here hx rfl (hb hby own_d1_17) rfl k) ?_
  refine own_st (V := s₁.setTop (mkF m 19 #[.val (.int (5 : Int32))] [(.int (2 : Int32)), (.int (5 : Int32))])) (fun t k => XS.iconst X0.here hx rfl (hb hby own_d1_18) k) ?_
  refine own_st (V := s₁.setTop (mkF m 26 #[.val (.int (5 : Int32))] [])) (fun t k => XS.icmpYes X0.here hx rfl (pc0 := 19) (pc' := 26) rfl (hb hby own_d1_19) rfl (feq (by decide : ¬ ((5 : Int32) = (2 : Int32)))).2 (by decide) (by decide) k) ?_
  refine own_st (V := s₁.setTop (mkF m 27 #[.val (.int (5 : Int32))] [(.int (5 : Int32))])) (fun t k => XS.iloadN X0.here hx rfl (hb hby own_d1_26) rfl k) ?_
  refine own_st (V := s₁.setTop (mkF m 28 #[.val (.int (5 : Int32))] [(.int (3 : Int32)), (.int (5 : Int32))])) (fun t k => XS.iconst X0.here hx rfl (hb hby own_d1_27) k) ?_
  refine own_st (V := s₁.setTop (mkF m 35 #[.val (.int (5 : Int32))] [])) (fun t k => XS.icmpYes X0.here hx rfl (pc0 := 28) (pc' := 35) rfl (hb hby own_d1_28) rfl (feq (by decide : ¬ ((5 : Int32) = (3 : Int32)))).2 (by decide) (by decide) k) ?_
  refine own_st (V := s₁.setTop (mkF m 36 #[.val (.int (5 : Int32))] [(.int (5 : Int32))])) (fun t k => XS.iloadN X0.here hx rfl (hb hby own_d1_35) rfl k) ?_
  refine own_st (V := s₁.setTop (mkF m 37 #[.val (.int (5 : Int32))] [(.int (4 : Int32)), (.int (5 : Int32))])) (fun t k => XS.iconst X0.here hx rfl (hb hby own_d1_36) k) ?_
  refine own_st (V := s₁.setTop (mkF m 44 #[.val (.int (5 : Int32))] [])) (fun t k => XS.icmpYes X0.here hx rfl (pc0 := 37) (pc' := 44) rfl (hb hby own_d1_37) rfl (feq (by decide : ¬ ((5 : Int32) = (4 : Int32)))).2 (by decide) (by decide) k) ?_
  obtain ⟨T27, X27, e27, st27⟩ := getS2 X0 hx hZ hown (host := "") (Or.inl (hw _ (List.mem_of_getElem? (i := 31) rfl))) Via.refl e0 (own_S En 5 (i := 5) (n := "GREATER_OR_EQUAL") rfl) (g := (mkF m 44 #[.val (.int (5 : Int32))] [])) rfl (hb hby own_d1_44)
  refine own_st (V := T27.setTop (mkF m 47 #[.val (.int (5 : Int32))] [(.ref (A 5))])) (fun t k => st27 _ k) ?_
  exact own_ret X27 hx hlk Bd.returns rfl (Or.inr (Or.inr (Or.inr (Or.inr ⟨rfl, rfl, rfl⟩)))) (hb hby own_d1_47) (by decide) (by decide) (by show Q_own_pick5 Z A h0 n0 _ T27.heap _; rw [e27]; exact ⟨rfl, N0, rfl⟩)
def Q_own_ad5 (Z : State) (A : Nat → Addr) (h0 : Heap) (n0 : Nat) (v : Option Value) (h : Heap) (L : List Loc) : Prop := v = some (.int (6 : Int32)) ∧ Fr n0 L ∧ h = h0
theorem own_d2_34 : decode method_3_code 34 = .ok (.bipush 6, 2) := by decide +kernel
theorem own_d2_36 : decode method_3_code 36 = .ok (.ireturn, 1) := by decide +kernel
set_option maxRecDepth 65536 in
set_option maxHeartbeats 40000000 in
theorem own_ad5 (l : Launch) (Z : State) (a0 : Array Value) (hw : ∀ d ∈ tables_1, d.before a0 Z = true) (ws : List Jvm.Cond) (A : Nat → Addr) (h0 : Heap) (n0 : Nat) (Z0 : n0 ≤ h0.size) (En : own_En Z h0 A) :
    MetFree l (⟨"com/example/affirm_rows/affirmrows/rules/ComparisonHoldsPinLaw", "admittedSigns", "(I)I"⟩ : MethodName) (head1 (Jvm.Cond.code (⟨"com/example/affirm_rows/affirmrows/rules/ComparisonHoldsPinLaw", "admittedSigns", "(I)I"⟩ : MethodName) method_3_code 1 (some .int) :: ws) ({ frames := 0, cells := 0, slots := 0, locals := 0 } : Room)) (fun a U => a = #[(.int (5 : Int32))] ∧ Z.Warmed39 U.vm ∧ U.heap = h0) (fun _ _ _ _ _ => True) (fun _ U o U' => ∃ v L, o = .returned v ∧ Q_own_ad5 Z A h0 n0 v U'.heap L ∧ FrameEnd U o U' L ({ frames := 0, cells := 0, slots := 0, locals := 0 } : Room).cells ({ frames := 0, cells := 0, slots := 0, locals := 0 } : Room).slots) := by
  refine MetFree.of_bodySF (plainFor_of_name own_pn_com_example_affirm_rows_affirmrows_rules_ComparisonHoldsPinLaw) hisR ?_
  intro p e s m args below meth c s₁ Bd hml0 hP hK
  obtain ⟨rfl, hZ, hh⟩ := hP
  have hx := Bd.exec
  have hby := Bd.bytes
  have hml : c.maxLocals = 1 := hml0
  have hown : s.vm.findClass "com/example/affirm_rows/affirmrows/rules/ComparisonHoldsPinLaw" = some m.cls := findClass_of_methodNamed Bd.named
  have hnm := (name_of_methodNamed Bd.named Bd.method).1
  have hlk : meth.locks = false := BodyLoose.notSynchronized Bd
  have X0 : Stand p l e ({ frames := 0, cells := 0, slots := 0, locals := 0 } : Room) s m #[(.int (5 : Int32))] below meth c s₁ [] 0 0 := Stand.of_body Bd
  have e0 : s₁.heap = h0 := by rw [← hh, Bd.state]; rfl
  have N0 := Fr.nil n0
  show own_Go p e below #[(.int (5 : Int32))] s (fun _ U o U' => ∃ v L, o = .returned v ∧ Q_own_ad5 Z A h0 n0 v U'.heap L ∧ FrameEnd U o U' L ({ frames := 0, cells := 0, slots := 0, locals := 0 } : Room).cells ({ frames := 0, cells := 0, slots := 0, locals := 0 } : Room).slots) (s₁.setTop (entryFrame m #[(.int (5 : Int32))] 1))
  refine own_st (V := s₁.setTop (mkF m 0 #[.val (.int (5 : Int32))] [])) (fun t k => castTop (by first | (simp [entryFrame, mkF, argsToLocals, Value.category]; done) | rfl) k) ?_
  refine own_st (V := s₁.setTop (mkF m 1 #[.val (.int (5 : Int32))] [(.int (5 : Int32))])) (fun t k => XS.iloadN X0.here hx rfl (hb hby own_d2_0) rfl k) ?_
  refine own_st (V := s₁.setTop (mkF m 6 #[.val (.int (5 : Int32))] [])) (fun t k => XS.ifYes X0.here hx rfl (pc0 := 1) (pc' := 6) rfl (hb hby own_d2_1) rfl ((if0 _ _).trans (feq (by decide : ¬ ((5 : Int32) = (0 : Int32)))).2) (by decide) (by decide) k) ?_
  refine own_st (V := s₁.setTop (mkF m 7 #[.val (.int (5 : Int32))] [(.int (5 : Int32))])) (fun t k => XS.iloadN X0.here hx rfl (hb hby own_d2_6) rfl k) ?_
  refine own_st (V := s₁.setTop (mkF m 8 #[.val (.int (5 : Int32))] [(.int (1 : Int32)), (.int (5 : Int32))])) (fun t k => XS.iconst X0.here hx rfl (hb hby own_d2_7) k) ?_
  refine own_st (V := s₁.setTop (mkF m 13 #[.val (.int (5 : Int32))] [])) (fun t k => XS.icmpYes X0.here hx rfl (pc0 := 8) (pc' := 13) rfl (hb hby own_d2_8) rfl (feq (by decide : ¬ ((5 : Int32) = (1 : Int32)))).2 (by decide) (by decide) k) ?_
  refine own_st (V := s₁.setTop (mkF m 14 #[.val (.int (5 : Int32))] [(.int (5 : Int32))])) (fun t k => XS.iloadN X0.here hx rfl (hb hby own_d2_13) rfl k) ?_
  refine own_st (V := s₁.setTop (mkF m 15 #[.val (.int (5 : Int32))] [(.int (2 : Int32)), (.int (5 : Int32))])) (fun t k => XS.iconst X0.here hx rfl (hb hby own_d2_14) k) ?_
  refine own_st (V := s₁.setTop (mkF m 20 #[.val (.int (5 : Int32))] [])) (fun t k => XS.icmpYes X0.here hx rfl (pc0 := 15) (pc' := 20) rfl (hb hby own_d2_15) rfl (feq (by decide : ¬ ((5 : Int32) = (2 : Int32)))).2 (by decide) (by decide) k) ?_
  refine own_st (V := s₁.setTop (mkF m 21 #[.val (.int (5 : Int32))] [(.int (5 : Int32))])) (fun t k => XS.iloadN X0.here hx rfl (hb hby own_d2_20) rfl k) ?_
  refine own_st (V := s₁.setTop (mkF m 22 #[.val (.int (5 : Int32))] [(.int (3 : Int32)), (.int (5 : Int32))])) (fun t k => XS.iconst X0.here hx rfl (hb hby own_d2_21) k) ?_
  refine own_st (V := s₁.setTop (mkF m 27 #[.val (.int (5 : Int32))] [])) (fun t k => XS.icmpYes X0.here hx rfl (pc0 := 22) (pc' := 27) rfl (hb hby own_d2_22) rfl (feq (by decide : ¬ ((5 : Int32) = (3 : Int32)))).2 (by decide) (by decide) k) ?_
  refine own_st (V := s₁.setTop (mkF m 28 #[.val (.int (5 : Int32))] [(.int (5 : Int32))])) (fun t k => XS.iloadN X0.here hx rfl (hb hby own_d2_27) rfl k) ?_
  refine own_st (V := s₁.setTop (mkF m 29 #[.val (.int (5 : Int32))] [(.int (4 : Int32)), (.int (5 : Int32))])) (fun t k => XS.iconst X0.here hx rfl (hb hby own_d2_28) k) ?_
  refine own_st (V := s₁.setTop (mkF m 34 #[.val (.int (5 : Int32))] [])) (fun t k => XS.icmpYes X0.here hx rfl (pc0 := 29) (pc' := 34) rfl (hb hby own_d2_29) rfl (feq (by decide : ¬ ((5 : Int32) = (4 : Int32)))).2 (by decide) (by decide) k) ?_
  refine own_st (V := s₁.setTop (mkF m 36 #[.val (.int (5 : Int32))] [(.int (6 : Int32))])) (fun t k => XS.bipush X0.here hx rfl (hb hby own_d2_34) k) ?_
  exact own_ret X0 hx hlk Bd.returns rfl (Or.inl ⟨rfl, by simp, _, rfl⟩) (hb hby own_d2_36) (by decide) (by decide) (by show Q_own_ad5 Z A h0 n0 _ s₁.heap _; rw [e0]; exact ⟨rfl, N0, rfl⟩)
def Q_own_ho5n (Z : State) (q1 : Int32) (A : Nat → Addr) (h0 : Heap) (n0 : Nat) (v : Option Value) (h : Heap) (L : List Loc) : Prop := v = some (.int (0 : Int32)) ∧ Fr n0 L ∧ h = h0
theorem own_d3_114 : decode prog_45_method_6_code 114 = .ok (.iload_n 1, 1) := by decide +kernel
theorem own_d3_115 : decode prog_45_method_6_code 115 = .ok (.ifCond .lt 7, 3) := by decide +kernel
theorem own_d3_122 : decode prog_45_method_6_code 122 = .ok (.iconst 0, 1) := by decide +kernel
set_option maxRecDepth 65536 in
set_option maxHeartbeats 40000000 in
theorem own_ho5n (l : Launch) (Z : State) (a0 : Array Value) (hw : ∀ d ∈ tables_1, d.before a0 Z = true) (ws : List Jvm.Cond) (q1 : Int32) (A : Nat → Addr) (h0 : Heap) (n0 : Nat) (Z0 : n0 ≤ h0.size) (En : own_En Z h0 A) (hs : q1 < (0 : Int32)) :
    MetFree l (⟨"com/example/affirm_rows/affirmrows/rules/Comparison", "holds", "(I)Z"⟩ : MethodName) (head1 (Jvm.Cond.code (⟨"com/example/affirm_rows/affirmrows/rules/Comparison", "holds", "(I)Z"⟩ : MethodName) prog_45_method_6_code 2 (some .boolean) :: ws) ({ frames := 1, cells := 0, slots := 0, locals := 12 } : Room)) (fun a U => a = #[(.ref (A 5)), (.int q1)] ∧ Z.Warmed39 U.vm ∧ U.heap = h0) (fun _ _ _ _ _ => True) (fun _ U o U' => ∃ v L, o = .returned v ∧ Q_own_ho5n Z q1 A h0 n0 v U'.heap L ∧ FrameEnd U o U' L ({ frames := 1, cells := 0, slots := 0, locals := 12 } : Room).cells ({ frames := 1, cells := 0, slots := 0, locals := 12 } : Room).slots) := by
  refine MetFree.of_bodySF (plainFor_of_name own_pn_com_example_affirm_rows_affirmrows_rules_Comparison) hisR ?_
  intro p e s m args below meth c s₁ Bd hml0 hP hK
  obtain ⟨rfl, hZ, hh⟩ := hP
  have hx := Bd.exec
  have hby := Bd.bytes
  have hml : c.maxLocals = 2 := hml0
  have hown : s.vm.findClass "com/example/affirm_rows/affirmrows/rules/Comparison" = some m.cls := findClass_of_methodNamed Bd.named
  have hnm := (name_of_methodNamed Bd.named Bd.method).1
  have hlk : meth.locks = false := BodyLoose.notSynchronized Bd
  have X0 : Stand p l e ({ frames := 1, cells := 0, slots := 0, locals := 12 } : Room) s m #[(.ref (A 5)), (.int q1)] below meth c s₁ [] 0 0 := Stand.of_body Bd
  have e0 : s₁.heap = h0 := by rw [← hh, Bd.state]; rfl
  have N0 := Fr.nil n0
  show own_Go p e below #[(.ref (A 5)), (.int q1)] s (fun _ U o U' => ∃ v L, o = .returned v ∧ Q_own_ho5n Z q1 A h0 n0 v U'.heap L ∧ FrameEnd U o U' L ({ frames := 1, cells := 0, slots := 0, locals := 12 } : Room).cells ({ frames := 1, cells := 0, slots := 0, locals := 12 } : Room).slots) (s₁.setTop (entryFrame m #[(.ref (A 5)), (.int q1)] 2))
  refine own_st (V := s₁.setTop (mkF m 0 #[.val (.ref (A 5)), .val (.int q1)] [])) (fun t k => castTop (by first | (simp [entryFrame, mkF, argsToLocals, Value.category]; done) | rfl) k) ?_
  refine own_st (V := s₁.setTop (mkF m 1 #[.val (.ref (A 5)), .val (.int q1)] [(.ref (A 5))])) (fun t k => XS.aloadN X0.here hx rfl (hb hby own_d3_0) rfl rfl k) ?_
  obtain ⟨cq28, kq28, q28a, q28b, q28c⟩ := isOf hZ e0 (own_E En 5 (i := 5) (n := "GREATER_OR_EQUAL") rfl)
  obtain ⟨_, _, ⟨T28, L28, k28, n28⟩, -, X28, ⟨Lc28, hQ28, l28, y28, z28⟩, st28⟩ := X0.virtualBackUp hx (x := (⟨"com/example/affirm_rows/affirmrows/rules/Comparison", "ordinal", "()I"⟩ : MethodName)) (y := (⟨"java/lang/Enum", "ordinal", "()I"⟩ : MethodName)) hown (mvT hZ (hw _ (List.mem_of_getElem? (i := 16) rfl))) (mvT hZ (hw _ (List.mem_of_getElem? (i := 17) rfl))) (mvT hZ (hw _ (List.mem_of_getElem? (i := 18) rfl))) (by decide) (mvT hZ (hw _ (List.mem_of_getElem? (i := 20) rfl))) (mvT hZ (hw _ (List.mem_of_getElem? (i := 19) rfl))) (backOf (W := 0) (own_ord5 l Z a0 hw [] A h0 n0 Z0 En ) hZ (hw _ (List.mem_of_getElem? (i := 22) rfl)) (hw _ (List.mem_of_getElem? (i := 21) rfl)) (by decide) (by decide)) q28a q28c (g := (mkF m 1 #[.val (.ref (A 5)), .val (.int q1)] [(.ref (A 5))])) rfl (by rw [hml]; rfl) (Steps.refl _) (argsL := []) (rest := []) (lenOf own_pd0 rfl) rfl (by show 2 * 0 + _ ≤ _; exact Nat.le_of_eq rfl) (hb hby own_d3_1) (fun _ _ => ⟨rfl, e0, (by decide : 0 + 0 ≤ _), (by decide : 0 + 0 ≤ _)⟩)
  dsimp only [Pt.U, Pt.locs, Pt.cells, Pt.slots] at X28 l28 y28 z28 st28 hQ28
  subst l28 y28 z28
  obtain ⟨rfl, N28q, e28⟩ := hQ28
  have N28 := Fr.app N0 N28q
  refine own_st (V := T28.setTop (mkF m 4 #[.val (.ref (A 5)), .val (.int q1)] [(.int (5 : Int32))])) (fun t k => st28.trans k) ?_
  refine own_st (V := T28.setTop (mkF m 114 #[.val (.ref (A 5)), .val (.int q1)] [])) (fun t k => XS.tswIn X28.here hx rfl (pc0 := 4) (pc' := 114) rfl (hb hby own_d3_4) rfl (by decide) (o := 110) rfl (by decide) rfl k) ?_
  refine own_st (V := T28.setTop (mkF m 115 #[.val (.ref (A 5)), .val (.int q1)] [(.int q1)])) (fun t k => XS.iloadN X28.here hx rfl (hb hby own_d3_114) rfl k) ?_
  refine own_st (V := T28.setTop (mkF m 122 #[.val (.ref (A 5)), .val (.int q1)] [])) (fun t k => XS.ifYes X28.here hx rfl (pc0 := 115) (pc' := 122) rfl (hb hby own_d3_115) rfl ((if0 _ _).trans (tlt hs).1) (by decide) (by decide) k) ?_
  refine own_st (V := T28.setTop (mkF m 123 #[.val (.ref (A 5)), .val (.int q1)] [(.int (0 : Int32))])) (fun t k => XS.iconst X28.here hx rfl (hb hby own_d3_122) k) ?_
  exact own_ret X28 hx hlk Bd.returns (by decide +kernel) (Or.inl ⟨rfl, by simp, _, rfl⟩) (hb hby own_d3_123) (by decide) (by decide) (by show Q_own_ho5n Z q1 A h0 n0 _ T28.heap _; rw [e28]; exact ⟨rfl, N28, rfl⟩)
def Q_own_ho5z (Z : State) (q1 : Int32) (A : Nat → Addr) (h0 : Heap) (n0 : Nat) (v : Option Value) (h : Heap) (L : List Loc) : Prop := v = some (.int (1 : Int32)) ∧ Fr n0 L ∧ h = h0
theorem own_d3_118 : decode prog_45_method_6_code 118 = .ok (.iconst 1, 1) := by decide +kernel
theorem own_d3_119 : decode prog_45_method_6_code 119 = .ok (.goto 4, 3) := by decide +kernel
set_option maxRecDepth 65536 in
set_option maxHeartbeats 40000000 in
theorem own_ho5z (l : Launch) (Z : State) (a0 : Array Value) (hw : ∀ d ∈ tables_1, d.before a0 Z = true) (ws : List Jvm.Cond) (q1 : Int32) (A : Nat → Addr) (h0 : Heap) (n0 : Nat) (Z0 : n0 ≤ h0.size) (En : own_En Z h0 A) (hs : q1 = (0 : Int32)) :
    MetFree l (⟨"com/example/affirm_rows/affirmrows/rules/Comparison", "holds", "(I)Z"⟩ : MethodName) (head1 (Jvm.Cond.code (⟨"com/example/affirm_rows/affirmrows/rules/Comparison", "holds", "(I)Z"⟩ : MethodName) prog_45_method_6_code 2 (some .boolean) :: ws) ({ frames := 1, cells := 0, slots := 0, locals := 12 } : Room)) (fun a U => a = #[(.ref (A 5)), (.int q1)] ∧ Z.Warmed39 U.vm ∧ U.heap = h0) (fun _ _ _ _ _ => True) (fun _ U o U' => ∃ v L, o = .returned v ∧ Q_own_ho5z Z q1 A h0 n0 v U'.heap L ∧ FrameEnd U o U' L ({ frames := 1, cells := 0, slots := 0, locals := 12 } : Room).cells ({ frames := 1, cells := 0, slots := 0, locals := 12 } : Room).slots) := by
  refine MetFree.of_bodySF (plainFor_of_name own_pn_com_example_affirm_rows_affirmrows_rules_Comparison) hisR ?_
  intro p e s m args below meth c s₁ Bd hml0 hP hK
  obtain ⟨rfl, hZ, hh⟩ := hP
  have hx := Bd.exec
  have hby := Bd.bytes
  have hml : c.maxLocals = 2 := hml0
  have hown : s.vm.findClass "com/example/affirm_rows/affirmrows/rules/Comparison" = some m.cls := findClass_of_methodNamed Bd.named
  have hnm := (name_of_methodNamed Bd.named Bd.method).1
  have hlk : meth.locks = false := BodyLoose.notSynchronized Bd
  have X0 : Stand p l e ({ frames := 1, cells := 0, slots := 0, locals := 12 } : Room) s m #[(.ref (A 5)), (.int q1)] below meth c s₁ [] 0 0 := Stand.of_body Bd
  have e0 : s₁.heap = h0 := by rw [← hh, Bd.state]; rfl
  have N0 := Fr.nil n0
  show own_Go p e below #[(.ref (A 5)), (.int q1)] s (fun _ U o U' => ∃ v L, o = .returned v ∧ Q_own_ho5z Z q1 A h0 n0 v U'.heap L ∧ FrameEnd U o U' L ({ frames := 1, cells := 0, slots := 0, locals := 12 } : Room).cells ({ frames := 1, cells := 0, slots := 0, locals := 12 } : Room).slots) (s₁.setTop (entryFrame m #[(.ref (A 5)), (.int q1)] 2))
  refine own_st (V := s₁.setTop (mkF m 0 #[.val (.ref (A 5)), .val (.int q1)] [])) (fun t k => castTop (by first | (simp [entryFrame, mkF, argsToLocals, Value.category]; done) | rfl) k) ?_
  refine own_st (V := s₁.setTop (mkF m 1 #[.val (.ref (A 5)), .val (.int q1)] [(.ref (A 5))])) (fun t k => XS.aloadN X0.here hx rfl (hb hby own_d3_0) rfl rfl k) ?_
  obtain ⟨cq29, kq29, q29a, q29b, q29c⟩ := isOf hZ e0 (own_E En 5 (i := 5) (n := "GREATER_OR_EQUAL") rfl)
  obtain ⟨_, _, ⟨T29, L29, k29, n29⟩, -, X29, ⟨Lc29, hQ29, l29, y29, z29⟩, st29⟩ := X0.virtualBackUp hx (x := (⟨"com/example/affirm_rows/affirmrows/rules/Comparison", "ordinal", "()I"⟩ : MethodName)) (y := (⟨"java/lang/Enum", "ordinal", "()I"⟩ : MethodName)) hown (mvT hZ (hw _ (List.mem_of_getElem? (i := 16) rfl))) (mvT hZ (hw _ (List.mem_of_getElem? (i := 17) rfl))) (mvT hZ (hw _ (List.mem_of_getElem? (i := 18) rfl))) (by decide) (mvT hZ (hw _ (List.mem_of_getElem? (i := 20) rfl))) (mvT hZ (hw _ (List.mem_of_getElem? (i := 19) rfl))) (backOf (W := 0) (own_ord5 l Z a0 hw [] A h0 n0 Z0 En ) hZ (hw _ (List.mem_of_getElem? (i := 22) rfl)) (hw _ (List.mem_of_getElem? (i := 21) rfl)) (by decide) (by decide)) q29a q29c (g := (mkF m 1 #[.val (.ref (A 5)), .val (.int q1)] [(.ref (A 5))])) rfl (by rw [hml]; rfl) (Steps.refl _) (argsL := []) (rest := []) (lenOf own_pd0 rfl) rfl (by show 2 * 0 + _ ≤ _; exact Nat.le_of_eq rfl) (hb hby own_d3_1) (fun _ _ => ⟨rfl, e0, (by decide : 0 + 0 ≤ _), (by decide : 0 + 0 ≤ _)⟩)
  dsimp only [Pt.U, Pt.locs, Pt.cells, Pt.slots] at X29 l29 y29 z29 st29 hQ29
  subst l29 y29 z29
  obtain ⟨rfl, N29q, e29⟩ := hQ29
  have N29 := Fr.app N0 N29q
  refine own_st (V := T29.setTop (mkF m 4 #[.val (.ref (A 5)), .val (.int q1)] [(.int (5 : Int32))])) (fun t k => st29.trans k) ?_
  refine own_st (V := T29.setTop (mkF m 114 #[.val (.ref (A 5)), .val (.int q1)] [])) (fun t k => XS.tswIn X29.here hx rfl (pc0 := 4) (pc' := 114) rfl (hb hby own_d3_4) rfl (by decide) (o := 110) rfl (by decide) rfl k) ?_
  refine own_st (V := T29.setTop (mkF m 115 #[.val (.ref (A 5)), .val (.int q1)] [(.int q1)])) (fun t k => XS.iloadN X29.here hx rfl (hb hby own_d3_114) rfl k) ?_
  refine own_st (V := T29.setTop (mkF m 118 #[.val (.ref (A 5)), .val (.int q1)] [])) (fun t k => XS.ifNo X29.here hx rfl (hb hby own_d3_115) rfl ((if0 _ _).trans (flt (own_z1 hs)).1) k) ?_
  refine own_st (V := T29.setTop (mkF m 119 #[.val (.ref (A 5)), .val (.int q1)] [(.int (1 : Int32))])) (fun t k => XS.iconst X29.here hx rfl (hb hby own_d3_118) k) ?_
  refine own_st (V := T29.setTop (mkF m 123 #[.val (.ref (A 5)), .val (.int q1)] [(.int (1 : Int32))])) (fun t k => XS.goto X29.here hx rfl (pc0 := 119) (pc' := 123) rfl (hb hby own_d3_119) (by decide) (by decide) k) ?_
  exact own_ret X29 hx hlk Bd.returns (by decide +kernel) (Or.inl ⟨rfl, by simp, _, rfl⟩) (hb hby own_d3_123) (by decide) (by decide) (by show Q_own_ho5z Z q1 A h0 n0 _ T29.heap _; rw [e29]; exact ⟨rfl, N29, rfl⟩)
def Q_own_ho5p (Z : State) (q1 : Int32) (A : Nat → Addr) (h0 : Heap) (n0 : Nat) (v : Option Value) (h : Heap) (L : List Loc) : Prop := v = some (.int (1 : Int32)) ∧ Fr n0 L ∧ h = h0
set_option maxRecDepth 65536 in
set_option maxHeartbeats 40000000 in
theorem own_ho5p (l : Launch) (Z : State) (a0 : Array Value) (hw : ∀ d ∈ tables_1, d.before a0 Z = true) (ws : List Jvm.Cond) (q1 : Int32) (A : Nat → Addr) (h0 : Heap) (n0 : Nat) (Z0 : n0 ≤ h0.size) (En : own_En Z h0 A) (hs : (0 : Int32) < q1) :
    MetFree l (⟨"com/example/affirm_rows/affirmrows/rules/Comparison", "holds", "(I)Z"⟩ : MethodName) (head1 (Jvm.Cond.code (⟨"com/example/affirm_rows/affirmrows/rules/Comparison", "holds", "(I)Z"⟩ : MethodName) prog_45_method_6_code 2 (some .boolean) :: ws) ({ frames := 1, cells := 0, slots := 0, locals := 12 } : Room)) (fun a U => a = #[(.ref (A 5)), (.int q1)] ∧ Z.Warmed39 U.vm ∧ U.heap = h0) (fun _ _ _ _ _ => True) (fun _ U o U' => ∃ v L, o = .returned v ∧ Q_own_ho5p Z q1 A h0 n0 v U'.heap L ∧ FrameEnd U o U' L ({ frames := 1, cells := 0, slots := 0, locals := 12 } : Room).cells ({ frames := 1, cells := 0, slots := 0, locals := 12 } : Room).slots) := by
  refine MetFree.of_bodySF (plainFor_of_name own_pn_com_example_affirm_rows_affirmrows_rules_Comparison) hisR ?_
  intro p e s m args below meth c s₁ Bd hml0 hP hK
  obtain ⟨rfl, hZ, hh⟩ := hP
  have hx := Bd.exec
  have hby := Bd.bytes
  have hml : c.maxLocals = 2 := hml0
  have hown : s.vm.findClass "com/example/affirm_rows/affirmrows/rules/Comparison" = some m.cls := findClass_of_methodNamed Bd.named
  have hnm := (name_of_methodNamed Bd.named Bd.method).1
  have hlk : meth.locks = false := BodyLoose.notSynchronized Bd
  have X0 : Stand p l e ({ frames := 1, cells := 0, slots := 0, locals := 12 } : Room) s m #[(.ref (A 5)), (.int q1)] below meth c s₁ [] 0 0 := Stand.of_body Bd
  have e0 : s₁.heap = h0 := by rw [← hh, Bd.state]; rfl
  have N0 := Fr.nil n0
  show own_Go p e below #[(.ref (A 5)), (.int q1)] s (fun _ U o U' => ∃ v L, o = .returned v ∧ Q_own_ho5p Z q1 A h0 n0 v U'.heap L ∧ FrameEnd U o U' L ({ frames := 1, cells := 0, slots := 0, locals := 12 } : Room).cells ({ frames := 1, cells := 0, slots := 0, locals := 12 } : Room).slots) (s₁.setTop (entryFrame m #[(.ref (A 5)), (.int q1)] 2))
  refine own_st (V := s₁.setTop (mkF m 0 #[.val (.ref (A 5)), .val (.int q1)] [])) (fun t k => castTop (by first | (simp [entryFrame, mkF, argsToLocals, Value.category]; done) | rfl) k) ?_
  refine own_st (V := s₁.setTop (mkF m 1 #[.val (.ref (A 5)), .val (.int q1)] [(.ref (A 5))])) (fun t k => XS.aloadN X0.here hx rfl (hb hby own_d3_0) rfl rfl k) ?_
  obtain ⟨cq30, kq30, q30a, q30b, q30c⟩ := isOf hZ e0 (own_E En 5 (i := 5) (n := "GREATER_OR_EQUAL") rfl)
  obtain ⟨_, _, ⟨T30, L30, k30, n30⟩, -, X30, ⟨Lc30, hQ30, l30, y30, z30⟩, st30⟩ := X0.virtualBackUp hx (x := (⟨"com/example/affirm_rows/affirmrows/rules/Comparison", "ordinal", "()I"⟩ : MethodName)) (y := (⟨"java/lang/Enum", "ordinal", "()I"⟩ : MethodName)) hown (mvT hZ (hw _ (List.mem_of_getElem? (i := 16) rfl))) (mvT hZ (hw _ (List.mem_of_getElem? (i := 17) rfl))) (mvT hZ (hw _ (List.mem_of_getElem? (i := 18) rfl))) (by decide) (mvT hZ (hw _ (List.mem_of_getElem? (i := 20) rfl))) (mvT hZ (hw _ (List.mem_of_getElem? (i := 19) rfl))) (backOf (W := 0) (own_ord5 l Z a0 hw [] A h0 n0 Z0 En ) hZ (hw _ (List.mem_of_getElem? (i := 22) rfl)) (hw _ (List.mem_of_getElem? (i := 21) rfl)) (by decide) (by decide)) q30a q30c (g := (mkF m 1 #[.val (.ref (A 5)), .val (.int q1)] [(.ref (A 5))])) rfl (by rw [hml]; rfl) (Steps.refl _) (argsL := []) (rest := []) (lenOf own_pd0 rfl) rfl (by show 2 * 0 + _ ≤ _; exact Nat.le_of_eq rfl) (hb hby own_d3_1) (fun _ _ => ⟨rfl, e0, (by decide : 0 + 0 ≤ _), (by decide : 0 + 0 ≤ _)⟩)
  dsimp only [Pt.U, Pt.locs, Pt.cells, Pt.slots] at X30 l30 y30 z30 st30 hQ30
  subst l30 y30 z30
  obtain ⟨rfl, N30q, e30⟩ := hQ30
  have N30 := Fr.app N0 N30q
  refine own_st (V := T30.setTop (mkF m 4 #[.val (.ref (A 5)), .val (.int q1)] [(.int (5 : Int32))])) (fun t k => st30.trans k) ?_
  refine own_st (V := T30.setTop (mkF m 114 #[.val (.ref (A 5)), .val (.int q1)] [])) (fun t k => XS.tswIn X30.here hx rfl (pc0 := 4) (pc' := 114) rfl (hb hby own_d3_4) rfl (by decide) (o := 110) rfl (by decide) rfl k) ?_
  refine own_st (V := T30.setTop (mkF m 115 #[.val (.ref (A 5)), .val (.int q1)] [(.int q1)])) (fun t k => XS.iloadN X30.here hx rfl (hb hby own_d3_114) rfl k) ?_
  refine own_st (V := T30.setTop (mkF m 118 #[.val (.ref (A 5)), .val (.int q1)] [])) (fun t k => XS.ifNo X30.here hx rfl (hb hby own_d3_115) rfl ((if0 _ _).trans (flt (own_p1 hs)).1) k) ?_
  refine own_st (V := T30.setTop (mkF m 119 #[.val (.ref (A 5)), .val (.int q1)] [(.int (1 : Int32))])) (fun t k => XS.iconst X30.here hx rfl (hb hby own_d3_118) k) ?_
  refine own_st (V := T30.setTop (mkF m 123 #[.val (.ref (A 5)), .val (.int q1)] [(.int (1 : Int32))])) (fun t k => XS.goto X30.here hx rfl (pc0 := 119) (pc' := 123) rfl (hb hby own_d3_119) (by decide) (by decide) k) ?_
  exact own_ret X30 hx hlk Bd.returns (by decide +kernel) (Or.inl ⟨rfl, by simp, _, rfl⟩) (hb hby own_d3_123) (by decide) (by decide) (by show Q_own_ho5p Z q1 A h0 n0 _ T30.heap _; rw [e30]; exact ⟨rfl, N30, rfl⟩)
theorem own_c (x : Int32) : ((x &&& (2147483647 : Int32)) % (6 : Int32)) = (0 : Int32) ∨ ((x &&& (2147483647 : Int32)) % (6 : Int32)) = (1 : Int32) ∨ ((x &&& (2147483647 : Int32)) % (6 : Int32)) = (2 : Int32) ∨ ((x &&& (2147483647 : Int32)) % (6 : Int32)) = (3 : Int32) ∨ ((x &&& (2147483647 : Int32)) % (6 : Int32)) = (4 : Int32) ∨ ((x &&& (2147483647 : Int32)) % (6 : Int32)) = (5 : Int32) := by
  have h := c_mask x 2147483647 31 (by decide) (by decide)
  have q := (c_irem (x &&& (2147483647 : Int32)) (6 : Int32) 6 (by decide)).1 (by omega)
  have e : ∀ k : Int32, ((x &&& (2147483647 : Int32)) % (6 : Int32)).toInt = k.toInt → ((x &&& (2147483647 : Int32)) % (6 : Int32)) = k := fun k q => Int32.toInt_inj.mp q
  have b : ((x &&& (2147483647 : Int32)) % (6 : Int32)).toInt = 0 ∨ ((x &&& (2147483647 : Int32)) % (6 : Int32)).toInt = 1 ∨ ((x &&& (2147483647 : Int32)) % (6 : Int32)).toInt = 2 ∨ ((x &&& (2147483647 : Int32)) % (6 : Int32)).toInt = 3 ∨ ((x &&& (2147483647 : Int32)) % (6 : Int32)).toInt = 4 ∨ ((x &&& (2147483647 : Int32)) % (6 : Int32)).toInt = 5 := by omega
  rcases b with b | b | b | b | b | b
  · exact Or.inl (e 0 b)
  · exact Or.inr (Or.inl (e 1 b))
  · exact Or.inr (Or.inr (Or.inl (e 2 b)))
  · exact Or.inr (Or.inr (Or.inr (Or.inl (e 3 b))))
  · exact Or.inr (Or.inr (Or.inr (Or.inr (Or.inl (e 4 b)))))
  · exact Or.inr (Or.inr (Or.inr (Or.inr (Or.inr (e 5 b)))))
def own_Q0 (Z : State) (p1 : Int32) (p2 : Int32) (A : Nat → Addr) (h0 : Heap) (n0 : Nat) (v : Option Value) (h : Heap) (L : List Loc) : Prop := v = some (.int (1 : Int32)) ∧ Fr n0 L
theorem own_pd1 : parseMethodDescriptor "(I)Lcom/example/affirm_rows/affirmrows/rules/Comparison;" = some ⟨[.int], some (.object "com/example/affirm_rows/affirmrows/rules/Comparison")⟩ := by decide +kernel
theorem own_pd2 : parseMethodDescriptor "(I)I" = some ⟨[.int], some .int⟩ := by decide +kernel
theorem own_pd3 : parseMethodDescriptor "(I)Z" = some ⟨[.int], some .boolean⟩ := by decide +kernel
set_option maxRecDepth 65536 in
set_option maxHeartbeats 40000000 in
theorem own_law0n (l : Launch) (Z : State) (a0 : Array Value) (hw : ∀ d ∈ tables_1, d.before a0 Z = true) (ws : List Jvm.Cond) (p1 : Int32) (p2 : Int32) (A : Nat → Addr) (h0 : Heap) (n0 : Nat) (Z0 : n0 ≤ h0.size) (En : own_En Z h0 A) (hk : ((p1 &&& (2147483647 : Int32)) % (6 : Int32)) = (0 : Int32)) (hs : p2 < (0 : Int32)) :
    MetFree l x (head1 (Jvm.Cond.code x code maxLocals ret :: ws) room_1) (fun a U => a = #[(.int p1), (.int p2)] ∧ Z.Warmed39 U.vm ∧ U.heap = h0) (fun _ _ _ _ _ => True) (fun _ U o U' => ∃ v L, o = .returned v ∧ own_Q0 Z p1 p2 A h0 n0 v U'.heap L ∧ FrameEnd U o U' L room_1.cells room_1.slots) := by
  refine MetFree.of_bodySF (plainFor_of_name own_pn_com_example_affirm_rows_affirmrows_rules_ComparisonHoldsPinLaw) hisR ?_
  intro p e s m args below meth c s₁ Bd hml0 hP hK
  obtain ⟨rfl, hZ, hh⟩ := hP
  have hx := Bd.exec
  have hby := Bd.bytes
  have hml : c.maxLocals = 6 := hml0
  have hown : s.vm.findClass "com/example/affirm_rows/affirmrows/rules/ComparisonHoldsPinLaw" = some m.cls := findClass_of_methodNamed Bd.named
  have hnm := (name_of_methodNamed Bd.named Bd.method).1
  have hlk : meth.locks = false := BodyLoose.notSynchronized Bd
  have X0 : Stand p l e room_1 s m #[(.int p1), (.int p2)] below meth c s₁ [] 0 0 := Stand.of_body Bd
  have e0 : s₁.heap = h0 := by rw [← hh, Bd.state]; rfl
  have N0 := Fr.nil n0
  show own_Go p e below #[(.int p1), (.int p2)] s (fun _ U o U' => ∃ v L, o = .returned v ∧ own_Q0 Z p1 p2 A h0 n0 v U'.heap L ∧ FrameEnd U o U' L room_1.cells room_1.slots) (s₁.setTop (entryFrame m #[(.int p1), (.int p2)] maxLocals))
  refine own_st (V := s₁.setTop (mkF m 0 #[.val (.int p1), .val (.int p2), .unset, .unset, .unset, .unset] [])) (fun t k => castTop (by first | (simp [entryFrame, mkF, argsToLocals, Value.category, maxLocals]; done) | rfl) k) ?_
  refine own_st (V := s₁.setTop (mkF m 1 #[.val (.int p1), .val (.int p2), .unset, .unset, .unset, .unset] [(.int p1)])) (fun t k => XS.iloadN X0.here hx rfl (hb hby at_0) rfl k) ?_
  refine own_st (V := s₁.setTop (mkF m 3 #[.val (.int p1), .val (.int p2), .unset, .unset, .unset, .unset] [(.int (2147483647 : Int32)), (.int p1)])) (fun t k => X0.ldcInt hx hown (mvT hZ (hw _ (List.mem_of_getElem? (i := 0) rfl))) (g := (mkF m 1 #[.val (.int p1), .val (.int p2), .unset, .unset, .unset, .unset] [(.int p1)])) rfl (hb hby at_1) t k) ?_
  refine own_st (V := s₁.setTop (mkF m 4 #[.val (.int p1), .val (.int p2), .unset, .unset, .unset, .unset] [(.int (p1 &&& (2147483647 : Int32)))])) (fun t k => XS.iand X0.here hx rfl (hb hby at_3) rfl k) ?_
  refine own_st (V := s₁.setTop (mkF m 6 #[.val (.int p1), .val (.int p2), .unset, .unset, .unset, .unset] [(.int (6 : Int32)), (.int (p1 &&& (2147483647 : Int32)))])) (fun t k => XS.bipush X0.here hx rfl (hb hby at_4) k) ?_
  refine own_st (V := s₁.setTop (mkF m 7 #[.val (.int p1), .val (.int p2), .unset, .unset, .unset, .unset] [(.int ((p1 &&& (2147483647 : Int32)) % (6 : Int32)))])) (fun t k => Jvm.RoadKit.iremM X0 hx rfl (hb hby at_6) rfl (by decide) k) ?_
  rw [hk]
  refine own_st (V := s₁.setTop (mkF m 8 #[.val (.int p1), .val (.int p2), .val (.int (0 : Int32)), .unset, .unset, .unset] [])) (fun t k => XS.istoreN X0.here hx rfl (hb hby at_7) rfl (l' := #[.val (.int p1), .val (.int p2), .val (.int (0 : Int32)), .unset, .unset, .unset]) rfl k) ?_
  refine own_st (V := s₁.setTop (mkF m 9 #[.val (.int p1), .val (.int p2), .val (.int (0 : Int32)), .unset, .unset, .unset] [(.int (0 : Int32))])) (fun t k => XS.iloadN X0.here hx rfl (hb hby at_8) rfl k) ?_
  obtain ⟨_, _, ⟨T31, L31, k31, n31⟩, -, X31, ⟨Lc31, hQ31, l31, y31, z31⟩, st31⟩ := Jvm.LawKit.callS X0 hx (y := (⟨"com/example/affirm_rows/affirmrows/rules/ComparisonHoldsPinLaw", "pick", "(I)Lcom/example/affirm_rows/affirmrows/rules/Comparison;"⟩ : MethodName)) hown (mvT hZ (hw _ (List.mem_of_getElem? (i := 1) rfl))) (mvT hZ (hw _ (List.mem_of_getElem? (i := 2) rfl))) (mvT hZ (hw _ (List.mem_of_getElem? (i := 3) rfl))) (mvT hZ (hw _ (List.mem_of_getElem? (i := 4) rfl))) (by decide) (backOf (W := 0) (own_pick0 l Z a0 hw [] A h0 n0 Z0 En ) hZ (hw _ (List.mem_of_getElem? (i := 4) rfl)) (hw _ (List.mem_of_getElem? (i := 3) rfl)) (by decide) (by decide)) (g := (mkF m 9 #[.val (.int p1), .val (.int p2), .val (.int (0 : Int32)), .unset, .unset, .unset] [(.int (0 : Int32))])) rfl (by rw [hml]; rfl) (argsL := [(.int (0 : Int32))]) (rest := []) (lenOf own_pd1 rfl) rfl (by show 2 * 0 + _ ≤ _; exact Nat.le_of_eq rfl) (hb hby at_9) (fun _ _ => ⟨rfl, e0, (by decide : 0 + 0 ≤ _), (by decide : 0 + 0 ≤ _)⟩)
  dsimp only [Pt.U, Pt.locs, Pt.cells, Pt.slots] at X31 l31 y31 z31 st31 hQ31
  subst l31 y31 z31
  obtain ⟨rfl, N31q, e31⟩ := hQ31
  have N31 := Fr.app N0 N31q
  refine own_st (V := T31.setTop (mkF m 12 #[.val (.int p1), .val (.int p2), .val (.int (0 : Int32)), .unset, .unset, .unset] [(.ref (A 0))])) (fun t k => st31 _ k) ?_
  refine own_st (V := T31.setTop (mkF m 13 #[.val (.int p1), .val (.int p2), .val (.int (0 : Int32)), .val (.ref (A 0)), .unset, .unset] [])) (fun t k => XS.astoreN X31.here hx rfl (hb hby at_12) rfl rfl (l' := #[.val (.int p1), .val (.int p2), .val (.int (0 : Int32)), .val (.ref (A 0)), .unset, .unset]) rfl k) ?_
  refine own_st (V := T31.setTop (mkF m 14 #[.val (.int p1), .val (.int p2), .val (.int (0 : Int32)), .val (.ref (A 0)), .unset, .unset] [(.int p2)])) (fun t k => XS.iloadN X31.here hx rfl (hb hby at_13) rfl k) ?_
  refine own_st (V := T31.setTop (mkF m 17 #[.val (.int p1), .val (.int p2), .val (.int (0 : Int32)), .val (.ref (A 0)), .unset, .unset] [])) (fun t k => XS.ifNo X31.here hx rfl (hb hby at_14) rfl ((if0 _ _).trans (tlt hs).2.1) k) ?_
  refine own_st (V := T31.setTop (mkF m 18 #[.val (.int p1), .val (.int p2), .val (.int (0 : Int32)), .val (.ref (A 0)), .unset, .unset] [(.int (0 : Int32))])) (fun t k => XS.iconst X31.here hx rfl (hb hby at_17) k) ?_
  refine own_st (V := T31.setTop (mkF m 30 #[.val (.int p1), .val (.int p2), .val (.int (0 : Int32)), .val (.ref (A 0)), .unset, .unset] [(.int (0 : Int32))])) (fun t k => XS.goto X31.here hx rfl (pc0 := 18) (pc' := 30) rfl (hb hby at_18) (by decide) (by decide) k) ?_
  refine own_st (V := T31.setTop (mkF m 32 #[.val (.int p1), .val (.int p2), .val (.int (0 : Int32)), .val (.ref (A 0)), .val (.int (0 : Int32)), .unset] [])) (fun t k => XS.istore X31.here hx rfl (hb hby at_30) rfl (l' := #[.val (.int p1), .val (.int p2), .val (.int (0 : Int32)), .val (.ref (A 0)), .val (.int (0 : Int32)), .unset]) rfl k) ?_
  refine own_st (V := T31.setTop (mkF m 33 #[.val (.int p1), .val (.int p2), .val (.int (0 : Int32)), .val (.ref (A 0)), .val (.int (0 : Int32)), .unset] [(.int (0 : Int32))])) (fun t k => XS.iloadN X31.here hx rfl (hb hby at_32) rfl k) ?_
  obtain ⟨_, _, ⟨T32, L32, k32, n32⟩, -, X32, ⟨Lc32, hQ32, l32, y32, z32⟩, st32⟩ := Jvm.LawKit.callS X31 hx (y := (⟨"com/example/affirm_rows/affirmrows/rules/ComparisonHoldsPinLaw", "admittedSigns", "(I)I"⟩ : MethodName)) hown (mvT hZ (hw _ (List.mem_of_getElem? (i := 8) rfl))) (mvT hZ (hw _ (List.mem_of_getElem? (i := 9) rfl))) (mvT hZ (hw _ (List.mem_of_getElem? (i := 3) rfl))) (mvT hZ (hw _ (List.mem_of_getElem? (i := 10) rfl))) (by decide) (backOf (W := 0) (own_ad0 l Z a0 hw [] A h0 n0 Z0 En ) hZ (hw _ (List.mem_of_getElem? (i := 10) rfl)) (hw _ (List.mem_of_getElem? (i := 3) rfl)) (by decide) (by decide)) (g := (mkF m 33 #[.val (.int p1), .val (.int p2), .val (.int (0 : Int32)), .val (.ref (A 0)), .val (.int (0 : Int32)), .unset] [(.int (0 : Int32))])) rfl (by rw [hml]; rfl) (argsL := [(.int (0 : Int32))]) (rest := []) (lenOf own_pd2 rfl) rfl (by show 2 * 0 + _ ≤ _; exact Nat.le_of_eq rfl) (hb hby at_33) (fun _ _ => ⟨rfl, e31, (by decide : 0 + 0 ≤ _), (by decide : 0 + 0 ≤ _)⟩)
  dsimp only [Pt.U, Pt.locs, Pt.cells, Pt.slots] at X32 l32 y32 z32 st32 hQ32
  subst l32 y32 z32
  obtain ⟨rfl, N32q, e32⟩ := hQ32
  have N32 := Fr.app N31 N32q
  refine own_st (V := T32.setTop (mkF m 36 #[.val (.int p1), .val (.int p2), .val (.int (0 : Int32)), .val (.ref (A 0)), .val (.int (0 : Int32)), .unset] [(.int (2 : Int32))])) (fun t k => st32 _ k) ?_
  refine own_st (V := T32.setTop (mkF m 38 #[.val (.int p1), .val (.int p2), .val (.int (0 : Int32)), .val (.ref (A 0)), .val (.int (0 : Int32)), .unset] [(.int (0 : Int32)), (.int (2 : Int32))])) (fun t k => XS.iload X32.here hx rfl (hb hby at_36) rfl k) ?_
  refine own_st (V := T32.setTop (mkF m 39 #[.val (.int p1), .val (.int p2), .val (.int (0 : Int32)), .val (.ref (A 0)), .val (.int (0 : Int32)), .unset] [(.int ((2 : Int32) >>> ((0 : Int32) &&& 31)))])) (fun t k => XS.ishr X32.here hx rfl (hb hby at_38) rfl k) ?_
  refine own_st (V := T32.setTop (mkF m 40 #[.val (.int p1), .val (.int p2), .val (.int (0 : Int32)), .val (.ref (A 0)), .val (.int (0 : Int32)), .unset] [(.int (1 : Int32)), (.int ((2 : Int32) >>> ((0 : Int32) &&& 31)))])) (fun t k => XS.iconst X32.here hx rfl (hb hby at_39) k) ?_
  refine own_st (V := T32.setTop (mkF m 41 #[.val (.int p1), .val (.int p2), .val (.int (0 : Int32)), .val (.ref (A 0)), .val (.int (0 : Int32)), .unset] [(.int (((2 : Int32) >>> ((0 : Int32) &&& 31)) &&& (1 : Int32)))])) (fun t k => XS.iand X32.here hx rfl (hb hby at_40) rfl k) ?_
  refine own_st (V := T32.setTop (mkF m 48 #[.val (.int p1), .val (.int p2), .val (.int (0 : Int32)), .val (.ref (A 0)), .val (.int (0 : Int32)), .unset] [])) (fun t k => XS.ifYes X32.here hx rfl (pc0 := 41) (pc' := 48) rfl (hb hby at_41) rfl ((if0 _ _).trans (teq (by decide +kernel : (((2 : Int32) >>> ((0 : Int32) &&& 31)) &&& (1 : Int32)) = (0 : Int32))).1) (by decide) (by decide) k) ?_
  refine own_st (V := T32.setTop (mkF m 49 #[.val (.int p1), .val (.int p2), .val (.int (0 : Int32)), .val (.ref (A 0)), .val (.int (0 : Int32)), .unset] [(.int (0 : Int32))])) (fun t k => XS.iconst X32.here hx rfl (hb hby at_48) k) ?_
  refine own_st (V := T32.setTop (mkF m 51 #[.val (.int p1), .val (.int p2), .val (.int (0 : Int32)), .val (.ref (A 0)), .val (.int (0 : Int32)), .val (.int (0 : Int32))] [])) (fun t k => XS.istore X32.here hx rfl (hb hby at_49) rfl (l' := #[.val (.int p1), .val (.int p2), .val (.int (0 : Int32)), .val (.ref (A 0)), .val (.int (0 : Int32)), .val (.int (0 : Int32))]) rfl k) ?_
  refine own_st (V := T32.setTop (mkF m 52 #[.val (.int p1), .val (.int p2), .val (.int (0 : Int32)), .val (.ref (A 0)), .val (.int (0 : Int32)), .val (.int (0 : Int32))] [(.ref (A 0))])) (fun t k => XS.aloadN X32.here hx rfl (hb hby at_51) rfl rfl k) ?_
  refine own_st (V := T32.setTop (mkF m 53 #[.val (.int p1), .val (.int p2), .val (.int (0 : Int32)), .val (.ref (A 0)), .val (.int (0 : Int32)), .val (.int (0 : Int32))] [(.int p2), (.ref (A 0))])) (fun t k => XS.iloadN X32.here hx rfl (hb hby at_52) rfl k) ?_
  obtain ⟨cq33, kq33, q33a, q33b, q33c⟩ := isOf hZ e32 (own_E En 0 (i := 0) (n := "EQUAL") rfl)
  obtain ⟨_, _, ⟨T33, L33, k33, n33⟩, -, X33, ⟨Lc33, hQ33, l33, y33, z33⟩, st33⟩ := X32.virtualBack hx (y := (⟨"com/example/affirm_rows/affirmrows/rules/Comparison", "holds", "(I)Z"⟩ : MethodName)) (z := (⟨"com/example/affirm_rows/affirmrows/rules/Comparison", "holds", "(I)Z"⟩ : MethodName)) hown (mvT hZ (hw _ (List.mem_of_getElem? (i := 11) rfl))) (mvT hZ (hw _ (List.mem_of_getElem? (i := 12) rfl))) (notFace_of_selects (args := #[]) (mvT hZ (hw _ (List.mem_of_getElem? (i := 14) rfl)))) (mvT hZ (hw _ (List.mem_of_getElem? (i := 14) rfl))) (mvT hZ (hw _ (List.mem_of_getElem? (i := 13) rfl))) (by decide) (backOf (W := 0) (own_ho0n l Z a0 hw [] p2 A h0 n0 Z0 En hs) hZ (hw _ (List.mem_of_getElem? (i := 15) rfl)) (hw _ (List.mem_of_getElem? (i := 6) rfl)) (by decide) (by decide)) q33a q33c (g := (mkF m 53 #[.val (.int p1), .val (.int p2), .val (.int (0 : Int32)), .val (.ref (A 0)), .val (.int (0 : Int32)), .val (.int (0 : Int32))] [(.int p2), (.ref (A 0))])) rfl (by rw [hml]; rfl) (Steps.refl _) (argsL := [(.int p2)]) (rest := []) (lenOf own_pd3 rfl) rfl (by show 2 * 0 + _ ≤ _; exact Nat.le_of_eq rfl) (hb hby at_53) (fun _ _ => ⟨rfl, e32, (by decide : 0 + 0 ≤ _), (by decide : 0 + 0 ≤ _)⟩)
  dsimp only [Pt.U, Pt.locs, Pt.cells, Pt.slots] at X33 l33 y33 z33 st33 hQ33
  subst l33 y33 z33
  obtain ⟨rfl, N33q, e33⟩ := hQ33
  have N33 := Fr.app N32 N33q
  refine own_st (V := T33.setTop (mkF m 56 #[.val (.int p1), .val (.int p2), .val (.int (0 : Int32)), .val (.ref (A 0)), .val (.int (0 : Int32)), .val (.int (0 : Int32))] [(.int (0 : Int32))])) (fun t k => st33.trans k) ?_
  refine own_st (V := T33.setTop (mkF m 58 #[.val (.int p1), .val (.int p2), .val (.int (0 : Int32)), .val (.ref (A 0)), .val (.int (0 : Int32)), .val (.int (0 : Int32))] [(.int (0 : Int32)), (.int (0 : Int32))])) (fun t k => XS.iload X33.here hx rfl (hb hby at_56) rfl k) ?_
  refine own_st (V := T33.setTop (mkF m 61 #[.val (.int p1), .val (.int p2), .val (.int (0 : Int32)), .val (.ref (A 0)), .val (.int (0 : Int32)), .val (.int (0 : Int32))] [])) (fun t k => XS.icmpNo X33.here hx rfl (hb hby at_58) rfl (teq (by decide : (0 : Int32) = (0 : Int32))).2 k) ?_
  refine own_st (V := T33.setTop (mkF m 62 #[.val (.int p1), .val (.int p2), .val (.int (0 : Int32)), .val (.ref (A 0)), .val (.int (0 : Int32)), .val (.int (0 : Int32))] [(.int (1 : Int32))])) (fun t k => XS.iconst X33.here hx rfl (hb hby at_61) k) ?_
  refine own_st (V := T33.setTop (mkF m 66 #[.val (.int p1), .val (.int p2), .val (.int (0 : Int32)), .val (.ref (A 0)), .val (.int (0 : Int32)), .val (.int (0 : Int32))] [(.int (1 : Int32))])) (fun t k => XS.goto X33.here hx rfl (pc0 := 62) (pc' := 66) rfl (hb hby at_62) (by decide) (by decide) k) ?_
  exact own_ret X33 hx hlk Bd.returns (by decide +kernel) (Or.inl ⟨rfl, by simp, _, rfl⟩) (hb hby at_66) (by decide) (by decide) (by show own_Q0 Z p1 p2 A h0 n0 _ T33.heap _; rw [e33]; exact ⟨rfl, N33⟩)
set_option maxRecDepth 65536 in
set_option maxHeartbeats 40000000 in
theorem own_law0z (l : Launch) (Z : State) (a0 : Array Value) (hw : ∀ d ∈ tables_1, d.before a0 Z = true) (ws : List Jvm.Cond) (p1 : Int32) (p2 : Int32) (A : Nat → Addr) (h0 : Heap) (n0 : Nat) (Z0 : n0 ≤ h0.size) (En : own_En Z h0 A) (hk : ((p1 &&& (2147483647 : Int32)) % (6 : Int32)) = (0 : Int32)) (hs : p2 = (0 : Int32)) :
    MetFree l x (head1 (Jvm.Cond.code x code maxLocals ret :: ws) room_1) (fun a U => a = #[(.int p1), (.int p2)] ∧ Z.Warmed39 U.vm ∧ U.heap = h0) (fun _ _ _ _ _ => True) (fun _ U o U' => ∃ v L, o = .returned v ∧ own_Q0 Z p1 p2 A h0 n0 v U'.heap L ∧ FrameEnd U o U' L room_1.cells room_1.slots) := by
  refine MetFree.of_bodySF (plainFor_of_name own_pn_com_example_affirm_rows_affirmrows_rules_ComparisonHoldsPinLaw) hisR ?_
  intro p e s m args below meth c s₁ Bd hml0 hP hK
  obtain ⟨rfl, hZ, hh⟩ := hP
  have hx := Bd.exec
  have hby := Bd.bytes
  have hml : c.maxLocals = 6 := hml0
  have hown : s.vm.findClass "com/example/affirm_rows/affirmrows/rules/ComparisonHoldsPinLaw" = some m.cls := findClass_of_methodNamed Bd.named
  have hnm := (name_of_methodNamed Bd.named Bd.method).1
  have hlk : meth.locks = false := BodyLoose.notSynchronized Bd
  have X0 : Stand p l e room_1 s m #[(.int p1), (.int p2)] below meth c s₁ [] 0 0 := Stand.of_body Bd
  have e0 : s₁.heap = h0 := by rw [← hh, Bd.state]; rfl
  have N0 := Fr.nil n0
  show own_Go p e below #[(.int p1), (.int p2)] s (fun _ U o U' => ∃ v L, o = .returned v ∧ own_Q0 Z p1 p2 A h0 n0 v U'.heap L ∧ FrameEnd U o U' L room_1.cells room_1.slots) (s₁.setTop (entryFrame m #[(.int p1), (.int p2)] maxLocals))
  refine own_st (V := s₁.setTop (mkF m 0 #[.val (.int p1), .val (.int p2), .unset, .unset, .unset, .unset] [])) (fun t k => castTop (by first | (simp [entryFrame, mkF, argsToLocals, Value.category, maxLocals]; done) | rfl) k) ?_
  refine own_st (V := s₁.setTop (mkF m 1 #[.val (.int p1), .val (.int p2), .unset, .unset, .unset, .unset] [(.int p1)])) (fun t k => XS.iloadN X0.here hx rfl (hb hby at_0) rfl k) ?_
  refine own_st (V := s₁.setTop (mkF m 3 #[.val (.int p1), .val (.int p2), .unset, .unset, .unset, .unset] [(.int (2147483647 : Int32)), (.int p1)])) (fun t k => X0.ldcInt hx hown (mvT hZ (hw _ (List.mem_of_getElem? (i := 0) rfl))) (g := (mkF m 1 #[.val (.int p1), .val (.int p2), .unset, .unset, .unset, .unset] [(.int p1)])) rfl (hb hby at_1) t k) ?_
  refine own_st (V := s₁.setTop (mkF m 4 #[.val (.int p1), .val (.int p2), .unset, .unset, .unset, .unset] [(.int (p1 &&& (2147483647 : Int32)))])) (fun t k => XS.iand X0.here hx rfl (hb hby at_3) rfl k) ?_
  refine own_st (V := s₁.setTop (mkF m 6 #[.val (.int p1), .val (.int p2), .unset, .unset, .unset, .unset] [(.int (6 : Int32)), (.int (p1 &&& (2147483647 : Int32)))])) (fun t k => XS.bipush X0.here hx rfl (hb hby at_4) k) ?_
  refine own_st (V := s₁.setTop (mkF m 7 #[.val (.int p1), .val (.int p2), .unset, .unset, .unset, .unset] [(.int ((p1 &&& (2147483647 : Int32)) % (6 : Int32)))])) (fun t k => Jvm.RoadKit.iremM X0 hx rfl (hb hby at_6) rfl (by decide) k) ?_
  rw [hk]
  refine own_st (V := s₁.setTop (mkF m 8 #[.val (.int p1), .val (.int p2), .val (.int (0 : Int32)), .unset, .unset, .unset] [])) (fun t k => XS.istoreN X0.here hx rfl (hb hby at_7) rfl (l' := #[.val (.int p1), .val (.int p2), .val (.int (0 : Int32)), .unset, .unset, .unset]) rfl k) ?_
  refine own_st (V := s₁.setTop (mkF m 9 #[.val (.int p1), .val (.int p2), .val (.int (0 : Int32)), .unset, .unset, .unset] [(.int (0 : Int32))])) (fun t k => XS.iloadN X0.here hx rfl (hb hby at_8) rfl k) ?_
  obtain ⟨_, _, ⟨T34, L34, k34, n34⟩, -, X34, ⟨Lc34, hQ34, l34, y34, z34⟩, st34⟩ := Jvm.LawKit.callS X0 hx (y := (⟨"com/example/affirm_rows/affirmrows/rules/ComparisonHoldsPinLaw", "pick", "(I)Lcom/example/affirm_rows/affirmrows/rules/Comparison;"⟩ : MethodName)) hown (mvT hZ (hw _ (List.mem_of_getElem? (i := 1) rfl))) (mvT hZ (hw _ (List.mem_of_getElem? (i := 2) rfl))) (mvT hZ (hw _ (List.mem_of_getElem? (i := 3) rfl))) (mvT hZ (hw _ (List.mem_of_getElem? (i := 4) rfl))) (by decide) (backOf (W := 0) (own_pick0 l Z a0 hw [] A h0 n0 Z0 En ) hZ (hw _ (List.mem_of_getElem? (i := 4) rfl)) (hw _ (List.mem_of_getElem? (i := 3) rfl)) (by decide) (by decide)) (g := (mkF m 9 #[.val (.int p1), .val (.int p2), .val (.int (0 : Int32)), .unset, .unset, .unset] [(.int (0 : Int32))])) rfl (by rw [hml]; rfl) (argsL := [(.int (0 : Int32))]) (rest := []) (lenOf own_pd1 rfl) rfl (by show 2 * 0 + _ ≤ _; exact Nat.le_of_eq rfl) (hb hby at_9) (fun _ _ => ⟨rfl, e0, (by decide : 0 + 0 ≤ _), (by decide : 0 + 0 ≤ _)⟩)
  dsimp only [Pt.U, Pt.locs, Pt.cells, Pt.slots] at X34 l34 y34 z34 st34 hQ34
  subst l34 y34 z34
  obtain ⟨rfl, N34q, e34⟩ := hQ34
  have N34 := Fr.app N0 N34q
  refine own_st (V := T34.setTop (mkF m 12 #[.val (.int p1), .val (.int p2), .val (.int (0 : Int32)), .unset, .unset, .unset] [(.ref (A 0))])) (fun t k => st34 _ k) ?_
  refine own_st (V := T34.setTop (mkF m 13 #[.val (.int p1), .val (.int p2), .val (.int (0 : Int32)), .val (.ref (A 0)), .unset, .unset] [])) (fun t k => XS.astoreN X34.here hx rfl (hb hby at_12) rfl rfl (l' := #[.val (.int p1), .val (.int p2), .val (.int (0 : Int32)), .val (.ref (A 0)), .unset, .unset]) rfl k) ?_
  refine own_st (V := T34.setTop (mkF m 14 #[.val (.int p1), .val (.int p2), .val (.int (0 : Int32)), .val (.ref (A 0)), .unset, .unset] [(.int p2)])) (fun t k => XS.iloadN X34.here hx rfl (hb hby at_13) rfl k) ?_
  refine own_st (V := T34.setTop (mkF m 21 #[.val (.int p1), .val (.int p2), .val (.int (0 : Int32)), .val (.ref (A 0)), .unset, .unset] [])) (fun t k => XS.ifYes X34.here hx rfl (pc0 := 14) (pc' := 21) rfl (hb hby at_14) rfl ((if0 _ _).trans (flt (own_z1 hs)).2.1) (by decide) (by decide) k) ?_
  refine own_st (V := T34.setTop (mkF m 22 #[.val (.int p1), .val (.int p2), .val (.int (0 : Int32)), .val (.ref (A 0)), .unset, .unset] [(.int p2)])) (fun t k => XS.iloadN X34.here hx rfl (hb hby at_21) rfl k) ?_
  refine own_st (V := T34.setTop (mkF m 25 #[.val (.int p1), .val (.int p2), .val (.int (0 : Int32)), .val (.ref (A 0)), .unset, .unset] [])) (fun t k => XS.ifNo X34.here hx rfl (hb hby at_22) rfl ((if0 _ _).trans (teq hs).2) k) ?_
  refine own_st (V := T34.setTop (mkF m 26 #[.val (.int p1), .val (.int p2), .val (.int (0 : Int32)), .val (.ref (A 0)), .unset, .unset] [(.int (1 : Int32))])) (fun t k => XS.iconst X34.here hx rfl (hb hby at_25) k) ?_
  refine own_st (V := T34.setTop (mkF m 30 #[.val (.int p1), .val (.int p2), .val (.int (0 : Int32)), .val (.ref (A 0)), .unset, .unset] [(.int (1 : Int32))])) (fun t k => XS.goto X34.here hx rfl (pc0 := 26) (pc' := 30) rfl (hb hby at_26) (by decide) (by decide) k) ?_
  refine own_st (V := T34.setTop (mkF m 32 #[.val (.int p1), .val (.int p2), .val (.int (0 : Int32)), .val (.ref (A 0)), .val (.int (1 : Int32)), .unset] [])) (fun t k => XS.istore X34.here hx rfl (hb hby at_30) rfl (l' := #[.val (.int p1), .val (.int p2), .val (.int (0 : Int32)), .val (.ref (A 0)), .val (.int (1 : Int32)), .unset]) rfl k) ?_
  refine own_st (V := T34.setTop (mkF m 33 #[.val (.int p1), .val (.int p2), .val (.int (0 : Int32)), .val (.ref (A 0)), .val (.int (1 : Int32)), .unset] [(.int (0 : Int32))])) (fun t k => XS.iloadN X34.here hx rfl (hb hby at_32) rfl k) ?_
  obtain ⟨_, _, ⟨T35, L35, k35, n35⟩, -, X35, ⟨Lc35, hQ35, l35, y35, z35⟩, st35⟩ := Jvm.LawKit.callS X34 hx (y := (⟨"com/example/affirm_rows/affirmrows/rules/ComparisonHoldsPinLaw", "admittedSigns", "(I)I"⟩ : MethodName)) hown (mvT hZ (hw _ (List.mem_of_getElem? (i := 8) rfl))) (mvT hZ (hw _ (List.mem_of_getElem? (i := 9) rfl))) (mvT hZ (hw _ (List.mem_of_getElem? (i := 3) rfl))) (mvT hZ (hw _ (List.mem_of_getElem? (i := 10) rfl))) (by decide) (backOf (W := 0) (own_ad0 l Z a0 hw [] A h0 n0 Z0 En ) hZ (hw _ (List.mem_of_getElem? (i := 10) rfl)) (hw _ (List.mem_of_getElem? (i := 3) rfl)) (by decide) (by decide)) (g := (mkF m 33 #[.val (.int p1), .val (.int p2), .val (.int (0 : Int32)), .val (.ref (A 0)), .val (.int (1 : Int32)), .unset] [(.int (0 : Int32))])) rfl (by rw [hml]; rfl) (argsL := [(.int (0 : Int32))]) (rest := []) (lenOf own_pd2 rfl) rfl (by show 2 * 0 + _ ≤ _; exact Nat.le_of_eq rfl) (hb hby at_33) (fun _ _ => ⟨rfl, e34, (by decide : 0 + 0 ≤ _), (by decide : 0 + 0 ≤ _)⟩)
  dsimp only [Pt.U, Pt.locs, Pt.cells, Pt.slots] at X35 l35 y35 z35 st35 hQ35
  subst l35 y35 z35
  obtain ⟨rfl, N35q, e35⟩ := hQ35
  have N35 := Fr.app N34 N35q
  refine own_st (V := T35.setTop (mkF m 36 #[.val (.int p1), .val (.int p2), .val (.int (0 : Int32)), .val (.ref (A 0)), .val (.int (1 : Int32)), .unset] [(.int (2 : Int32))])) (fun t k => st35 _ k) ?_
  refine own_st (V := T35.setTop (mkF m 38 #[.val (.int p1), .val (.int p2), .val (.int (0 : Int32)), .val (.ref (A 0)), .val (.int (1 : Int32)), .unset] [(.int (1 : Int32)), (.int (2 : Int32))])) (fun t k => XS.iload X35.here hx rfl (hb hby at_36) rfl k) ?_
  refine own_st (V := T35.setTop (mkF m 39 #[.val (.int p1), .val (.int p2), .val (.int (0 : Int32)), .val (.ref (A 0)), .val (.int (1 : Int32)), .unset] [(.int ((2 : Int32) >>> ((1 : Int32) &&& 31)))])) (fun t k => XS.ishr X35.here hx rfl (hb hby at_38) rfl k) ?_
  refine own_st (V := T35.setTop (mkF m 40 #[.val (.int p1), .val (.int p2), .val (.int (0 : Int32)), .val (.ref (A 0)), .val (.int (1 : Int32)), .unset] [(.int (1 : Int32)), (.int ((2 : Int32) >>> ((1 : Int32) &&& 31)))])) (fun t k => XS.iconst X35.here hx rfl (hb hby at_39) k) ?_
  refine own_st (V := T35.setTop (mkF m 41 #[.val (.int p1), .val (.int p2), .val (.int (0 : Int32)), .val (.ref (A 0)), .val (.int (1 : Int32)), .unset] [(.int (((2 : Int32) >>> ((1 : Int32) &&& 31)) &&& (1 : Int32)))])) (fun t k => XS.iand X35.here hx rfl (hb hby at_40) rfl k) ?_
  refine own_st (V := T35.setTop (mkF m 44 #[.val (.int p1), .val (.int p2), .val (.int (0 : Int32)), .val (.ref (A 0)), .val (.int (1 : Int32)), .unset] [])) (fun t k => XS.ifNo X35.here hx rfl (hb hby at_41) rfl ((if0 _ _).trans (feq (by decide +kernel : ¬ ((((2 : Int32) >>> ((1 : Int32) &&& 31)) &&& (1 : Int32)) = (0 : Int32)))).1) k) ?_
  refine own_st (V := T35.setTop (mkF m 45 #[.val (.int p1), .val (.int p2), .val (.int (0 : Int32)), .val (.ref (A 0)), .val (.int (1 : Int32)), .unset] [(.int (1 : Int32))])) (fun t k => XS.iconst X35.here hx rfl (hb hby at_44) k) ?_
  refine own_st (V := T35.setTop (mkF m 49 #[.val (.int p1), .val (.int p2), .val (.int (0 : Int32)), .val (.ref (A 0)), .val (.int (1 : Int32)), .unset] [(.int (1 : Int32))])) (fun t k => XS.goto X35.here hx rfl (pc0 := 45) (pc' := 49) rfl (hb hby at_45) (by decide) (by decide) k) ?_
  refine own_st (V := T35.setTop (mkF m 51 #[.val (.int p1), .val (.int p2), .val (.int (0 : Int32)), .val (.ref (A 0)), .val (.int (1 : Int32)), .val (.int (1 : Int32))] [])) (fun t k => XS.istore X35.here hx rfl (hb hby at_49) rfl (l' := #[.val (.int p1), .val (.int p2), .val (.int (0 : Int32)), .val (.ref (A 0)), .val (.int (1 : Int32)), .val (.int (1 : Int32))]) rfl k) ?_
  refine own_st (V := T35.setTop (mkF m 52 #[.val (.int p1), .val (.int p2), .val (.int (0 : Int32)), .val (.ref (A 0)), .val (.int (1 : Int32)), .val (.int (1 : Int32))] [(.ref (A 0))])) (fun t k => XS.aloadN X35.here hx rfl (hb hby at_51) rfl rfl k) ?_
  refine own_st (V := T35.setTop (mkF m 53 #[.val (.int p1), .val (.int p2), .val (.int (0 : Int32)), .val (.ref (A 0)), .val (.int (1 : Int32)), .val (.int (1 : Int32))] [(.int p2), (.ref (A 0))])) (fun t k => XS.iloadN X35.here hx rfl (hb hby at_52) rfl k) ?_
  obtain ⟨cq36, kq36, q36a, q36b, q36c⟩ := isOf hZ e35 (own_E En 0 (i := 0) (n := "EQUAL") rfl)
  obtain ⟨_, _, ⟨T36, L36, k36, n36⟩, -, X36, ⟨Lc36, hQ36, l36, y36, z36⟩, st36⟩ := X35.virtualBack hx (y := (⟨"com/example/affirm_rows/affirmrows/rules/Comparison", "holds", "(I)Z"⟩ : MethodName)) (z := (⟨"com/example/affirm_rows/affirmrows/rules/Comparison", "holds", "(I)Z"⟩ : MethodName)) hown (mvT hZ (hw _ (List.mem_of_getElem? (i := 11) rfl))) (mvT hZ (hw _ (List.mem_of_getElem? (i := 12) rfl))) (notFace_of_selects (args := #[]) (mvT hZ (hw _ (List.mem_of_getElem? (i := 14) rfl)))) (mvT hZ (hw _ (List.mem_of_getElem? (i := 14) rfl))) (mvT hZ (hw _ (List.mem_of_getElem? (i := 13) rfl))) (by decide) (backOf (W := 0) (own_ho0z l Z a0 hw [] p2 A h0 n0 Z0 En hs) hZ (hw _ (List.mem_of_getElem? (i := 15) rfl)) (hw _ (List.mem_of_getElem? (i := 6) rfl)) (by decide) (by decide)) q36a q36c (g := (mkF m 53 #[.val (.int p1), .val (.int p2), .val (.int (0 : Int32)), .val (.ref (A 0)), .val (.int (1 : Int32)), .val (.int (1 : Int32))] [(.int p2), (.ref (A 0))])) rfl (by rw [hml]; rfl) (Steps.refl _) (argsL := [(.int p2)]) (rest := []) (lenOf own_pd3 rfl) rfl (by show 2 * 0 + _ ≤ _; exact Nat.le_of_eq rfl) (hb hby at_53) (fun _ _ => ⟨rfl, e35, (by decide : 0 + 0 ≤ _), (by decide : 0 + 0 ≤ _)⟩)
  dsimp only [Pt.U, Pt.locs, Pt.cells, Pt.slots] at X36 l36 y36 z36 st36 hQ36
  subst l36 y36 z36
  obtain ⟨rfl, N36q, e36⟩ := hQ36
  have N36 := Fr.app N35 N36q
  refine own_st (V := T36.setTop (mkF m 56 #[.val (.int p1), .val (.int p2), .val (.int (0 : Int32)), .val (.ref (A 0)), .val (.int (1 : Int32)), .val (.int (1 : Int32))] [(.int (1 : Int32))])) (fun t k => st36.trans k) ?_
  refine own_st (V := T36.setTop (mkF m 58 #[.val (.int p1), .val (.int p2), .val (.int (0 : Int32)), .val (.ref (A 0)), .val (.int (1 : Int32)), .val (.int (1 : Int32))] [(.int (1 : Int32)), (.int (1 : Int32))])) (fun t k => XS.iload X36.here hx rfl (hb hby at_56) rfl k) ?_
  refine own_st (V := T36.setTop (mkF m 61 #[.val (.int p1), .val (.int p2), .val (.int (0 : Int32)), .val (.ref (A 0)), .val (.int (1 : Int32)), .val (.int (1 : Int32))] [])) (fun t k => XS.icmpNo X36.here hx rfl (hb hby at_58) rfl (teq (by decide : (1 : Int32) = (1 : Int32))).2 k) ?_
  refine own_st (V := T36.setTop (mkF m 62 #[.val (.int p1), .val (.int p2), .val (.int (0 : Int32)), .val (.ref (A 0)), .val (.int (1 : Int32)), .val (.int (1 : Int32))] [(.int (1 : Int32))])) (fun t k => XS.iconst X36.here hx rfl (hb hby at_61) k) ?_
  refine own_st (V := T36.setTop (mkF m 66 #[.val (.int p1), .val (.int p2), .val (.int (0 : Int32)), .val (.ref (A 0)), .val (.int (1 : Int32)), .val (.int (1 : Int32))] [(.int (1 : Int32))])) (fun t k => XS.goto X36.here hx rfl (pc0 := 62) (pc' := 66) rfl (hb hby at_62) (by decide) (by decide) k) ?_
  exact own_ret X36 hx hlk Bd.returns (by decide +kernel) (Or.inl ⟨rfl, by simp, _, rfl⟩) (hb hby at_66) (by decide) (by decide) (by show own_Q0 Z p1 p2 A h0 n0 _ T36.heap _; rw [e36]; exact ⟨rfl, N36⟩)
set_option maxRecDepth 65536 in
set_option maxHeartbeats 40000000 in
theorem own_law0p (l : Launch) (Z : State) (a0 : Array Value) (hw : ∀ d ∈ tables_1, d.before a0 Z = true) (ws : List Jvm.Cond) (p1 : Int32) (p2 : Int32) (A : Nat → Addr) (h0 : Heap) (n0 : Nat) (Z0 : n0 ≤ h0.size) (En : own_En Z h0 A) (hk : ((p1 &&& (2147483647 : Int32)) % (6 : Int32)) = (0 : Int32)) (hs : (0 : Int32) < p2) :
    MetFree l x (head1 (Jvm.Cond.code x code maxLocals ret :: ws) room_1) (fun a U => a = #[(.int p1), (.int p2)] ∧ Z.Warmed39 U.vm ∧ U.heap = h0) (fun _ _ _ _ _ => True) (fun _ U o U' => ∃ v L, o = .returned v ∧ own_Q0 Z p1 p2 A h0 n0 v U'.heap L ∧ FrameEnd U o U' L room_1.cells room_1.slots) := by
  refine MetFree.of_bodySF (plainFor_of_name own_pn_com_example_affirm_rows_affirmrows_rules_ComparisonHoldsPinLaw) hisR ?_
  intro p e s m args below meth c s₁ Bd hml0 hP hK
  obtain ⟨rfl, hZ, hh⟩ := hP
  have hx := Bd.exec
  have hby := Bd.bytes
  have hml : c.maxLocals = 6 := hml0
  have hown : s.vm.findClass "com/example/affirm_rows/affirmrows/rules/ComparisonHoldsPinLaw" = some m.cls := findClass_of_methodNamed Bd.named
  have hnm := (name_of_methodNamed Bd.named Bd.method).1
  have hlk : meth.locks = false := BodyLoose.notSynchronized Bd
  have X0 : Stand p l e room_1 s m #[(.int p1), (.int p2)] below meth c s₁ [] 0 0 := Stand.of_body Bd
  have e0 : s₁.heap = h0 := by rw [← hh, Bd.state]; rfl
  have N0 := Fr.nil n0
  show own_Go p e below #[(.int p1), (.int p2)] s (fun _ U o U' => ∃ v L, o = .returned v ∧ own_Q0 Z p1 p2 A h0 n0 v U'.heap L ∧ FrameEnd U o U' L room_1.cells room_1.slots) (s₁.setTop (entryFrame m #[(.int p1), (.int p2)] maxLocals))
  refine own_st (V := s₁.setTop (mkF m 0 #[.val (.int p1), .val (.int p2), .unset, .unset, .unset, .unset] [])) (fun t k => castTop (by first | (simp [entryFrame, mkF, argsToLocals, Value.category, maxLocals]; done) | rfl) k) ?_
  refine own_st (V := s₁.setTop (mkF m 1 #[.val (.int p1), .val (.int p2), .unset, .unset, .unset, .unset] [(.int p1)])) (fun t k => XS.iloadN X0.here hx rfl (hb hby at_0) rfl k) ?_
  refine own_st (V := s₁.setTop (mkF m 3 #[.val (.int p1), .val (.int p2), .unset, .unset, .unset, .unset] [(.int (2147483647 : Int32)), (.int p1)])) (fun t k => X0.ldcInt hx hown (mvT hZ (hw _ (List.mem_of_getElem? (i := 0) rfl))) (g := (mkF m 1 #[.val (.int p1), .val (.int p2), .unset, .unset, .unset, .unset] [(.int p1)])) rfl (hb hby at_1) t k) ?_
  refine own_st (V := s₁.setTop (mkF m 4 #[.val (.int p1), .val (.int p2), .unset, .unset, .unset, .unset] [(.int (p1 &&& (2147483647 : Int32)))])) (fun t k => XS.iand X0.here hx rfl (hb hby at_3) rfl k) ?_
  refine own_st (V := s₁.setTop (mkF m 6 #[.val (.int p1), .val (.int p2), .unset, .unset, .unset, .unset] [(.int (6 : Int32)), (.int (p1 &&& (2147483647 : Int32)))])) (fun t k => XS.bipush X0.here hx rfl (hb hby at_4) k) ?_
  refine own_st (V := s₁.setTop (mkF m 7 #[.val (.int p1), .val (.int p2), .unset, .unset, .unset, .unset] [(.int ((p1 &&& (2147483647 : Int32)) % (6 : Int32)))])) (fun t k => Jvm.RoadKit.iremM X0 hx rfl (hb hby at_6) rfl (by decide) k) ?_
  rw [hk]
  refine own_st (V := s₁.setTop (mkF m 8 #[.val (.int p1), .val (.int p2), .val (.int (0 : Int32)), .unset, .unset, .unset] [])) (fun t k => XS.istoreN X0.here hx rfl (hb hby at_7) rfl (l' := #[.val (.int p1), .val (.int p2), .val (.int (0 : Int32)), .unset, .unset, .unset]) rfl k) ?_
  refine own_st (V := s₁.setTop (mkF m 9 #[.val (.int p1), .val (.int p2), .val (.int (0 : Int32)), .unset, .unset, .unset] [(.int (0 : Int32))])) (fun t k => XS.iloadN X0.here hx rfl (hb hby at_8) rfl k) ?_
  obtain ⟨_, _, ⟨T37, L37, k37, n37⟩, -, X37, ⟨Lc37, hQ37, l37, y37, z37⟩, st37⟩ := Jvm.LawKit.callS X0 hx (y := (⟨"com/example/affirm_rows/affirmrows/rules/ComparisonHoldsPinLaw", "pick", "(I)Lcom/example/affirm_rows/affirmrows/rules/Comparison;"⟩ : MethodName)) hown (mvT hZ (hw _ (List.mem_of_getElem? (i := 1) rfl))) (mvT hZ (hw _ (List.mem_of_getElem? (i := 2) rfl))) (mvT hZ (hw _ (List.mem_of_getElem? (i := 3) rfl))) (mvT hZ (hw _ (List.mem_of_getElem? (i := 4) rfl))) (by decide) (backOf (W := 0) (own_pick0 l Z a0 hw [] A h0 n0 Z0 En ) hZ (hw _ (List.mem_of_getElem? (i := 4) rfl)) (hw _ (List.mem_of_getElem? (i := 3) rfl)) (by decide) (by decide)) (g := (mkF m 9 #[.val (.int p1), .val (.int p2), .val (.int (0 : Int32)), .unset, .unset, .unset] [(.int (0 : Int32))])) rfl (by rw [hml]; rfl) (argsL := [(.int (0 : Int32))]) (rest := []) (lenOf own_pd1 rfl) rfl (by show 2 * 0 + _ ≤ _; exact Nat.le_of_eq rfl) (hb hby at_9) (fun _ _ => ⟨rfl, e0, (by decide : 0 + 0 ≤ _), (by decide : 0 + 0 ≤ _)⟩)
  dsimp only [Pt.U, Pt.locs, Pt.cells, Pt.slots] at X37 l37 y37 z37 st37 hQ37
  subst l37 y37 z37
  obtain ⟨rfl, N37q, e37⟩ := hQ37
  have N37 := Fr.app N0 N37q
  refine own_st (V := T37.setTop (mkF m 12 #[.val (.int p1), .val (.int p2), .val (.int (0 : Int32)), .unset, .unset, .unset] [(.ref (A 0))])) (fun t k => st37 _ k) ?_
  refine own_st (V := T37.setTop (mkF m 13 #[.val (.int p1), .val (.int p2), .val (.int (0 : Int32)), .val (.ref (A 0)), .unset, .unset] [])) (fun t k => XS.astoreN X37.here hx rfl (hb hby at_12) rfl rfl (l' := #[.val (.int p1), .val (.int p2), .val (.int (0 : Int32)), .val (.ref (A 0)), .unset, .unset]) rfl k) ?_
  refine own_st (V := T37.setTop (mkF m 14 #[.val (.int p1), .val (.int p2), .val (.int (0 : Int32)), .val (.ref (A 0)), .unset, .unset] [(.int p2)])) (fun t k => XS.iloadN X37.here hx rfl (hb hby at_13) rfl k) ?_
  refine own_st (V := T37.setTop (mkF m 21 #[.val (.int p1), .val (.int p2), .val (.int (0 : Int32)), .val (.ref (A 0)), .unset, .unset] [])) (fun t k => XS.ifYes X37.here hx rfl (pc0 := 14) (pc' := 21) rfl (hb hby at_14) rfl ((if0 _ _).trans (flt (own_p1 hs)).2.1) (by decide) (by decide) k) ?_
  refine own_st (V := T37.setTop (mkF m 22 #[.val (.int p1), .val (.int p2), .val (.int (0 : Int32)), .val (.ref (A 0)), .unset, .unset] [(.int p2)])) (fun t k => XS.iloadN X37.here hx rfl (hb hby at_21) rfl k) ?_
  refine own_st (V := T37.setTop (mkF m 29 #[.val (.int p1), .val (.int p2), .val (.int (0 : Int32)), .val (.ref (A 0)), .unset, .unset] [])) (fun t k => XS.ifYes X37.here hx rfl (pc0 := 22) (pc' := 29) rfl (hb hby at_22) rfl ((if0 _ _).trans (feq (own_p2 hs)).2) (by decide) (by decide) k) ?_
  refine own_st (V := T37.setTop (mkF m 30 #[.val (.int p1), .val (.int p2), .val (.int (0 : Int32)), .val (.ref (A 0)), .unset, .unset] [(.int (2 : Int32))])) (fun t k => XS.iconst X37.here hx rfl (hb hby at_29) k) ?_
  refine own_st (V := T37.setTop (mkF m 32 #[.val (.int p1), .val (.int p2), .val (.int (0 : Int32)), .val (.ref (A 0)), .val (.int (2 : Int32)), .unset] [])) (fun t k => XS.istore X37.here hx rfl (hb hby at_30) rfl (l' := #[.val (.int p1), .val (.int p2), .val (.int (0 : Int32)), .val (.ref (A 0)), .val (.int (2 : Int32)), .unset]) rfl k) ?_
  refine own_st (V := T37.setTop (mkF m 33 #[.val (.int p1), .val (.int p2), .val (.int (0 : Int32)), .val (.ref (A 0)), .val (.int (2 : Int32)), .unset] [(.int (0 : Int32))])) (fun t k => XS.iloadN X37.here hx rfl (hb hby at_32) rfl k) ?_
  obtain ⟨_, _, ⟨T38, L38, k38, n38⟩, -, X38, ⟨Lc38, hQ38, l38, y38, z38⟩, st38⟩ := Jvm.LawKit.callS X37 hx (y := (⟨"com/example/affirm_rows/affirmrows/rules/ComparisonHoldsPinLaw", "admittedSigns", "(I)I"⟩ : MethodName)) hown (mvT hZ (hw _ (List.mem_of_getElem? (i := 8) rfl))) (mvT hZ (hw _ (List.mem_of_getElem? (i := 9) rfl))) (mvT hZ (hw _ (List.mem_of_getElem? (i := 3) rfl))) (mvT hZ (hw _ (List.mem_of_getElem? (i := 10) rfl))) (by decide) (backOf (W := 0) (own_ad0 l Z a0 hw [] A h0 n0 Z0 En ) hZ (hw _ (List.mem_of_getElem? (i := 10) rfl)) (hw _ (List.mem_of_getElem? (i := 3) rfl)) (by decide) (by decide)) (g := (mkF m 33 #[.val (.int p1), .val (.int p2), .val (.int (0 : Int32)), .val (.ref (A 0)), .val (.int (2 : Int32)), .unset] [(.int (0 : Int32))])) rfl (by rw [hml]; rfl) (argsL := [(.int (0 : Int32))]) (rest := []) (lenOf own_pd2 rfl) rfl (by show 2 * 0 + _ ≤ _; exact Nat.le_of_eq rfl) (hb hby at_33) (fun _ _ => ⟨rfl, e37, (by decide : 0 + 0 ≤ _), (by decide : 0 + 0 ≤ _)⟩)
  dsimp only [Pt.U, Pt.locs, Pt.cells, Pt.slots] at X38 l38 y38 z38 st38 hQ38
  subst l38 y38 z38
  obtain ⟨rfl, N38q, e38⟩ := hQ38
  have N38 := Fr.app N37 N38q
  refine own_st (V := T38.setTop (mkF m 36 #[.val (.int p1), .val (.int p2), .val (.int (0 : Int32)), .val (.ref (A 0)), .val (.int (2 : Int32)), .unset] [(.int (2 : Int32))])) (fun t k => st38 _ k) ?_
  refine own_st (V := T38.setTop (mkF m 38 #[.val (.int p1), .val (.int p2), .val (.int (0 : Int32)), .val (.ref (A 0)), .val (.int (2 : Int32)), .unset] [(.int (2 : Int32)), (.int (2 : Int32))])) (fun t k => XS.iload X38.here hx rfl (hb hby at_36) rfl k) ?_
  refine own_st (V := T38.setTop (mkF m 39 #[.val (.int p1), .val (.int p2), .val (.int (0 : Int32)), .val (.ref (A 0)), .val (.int (2 : Int32)), .unset] [(.int ((2 : Int32) >>> ((2 : Int32) &&& 31)))])) (fun t k => XS.ishr X38.here hx rfl (hb hby at_38) rfl k) ?_
  refine own_st (V := T38.setTop (mkF m 40 #[.val (.int p1), .val (.int p2), .val (.int (0 : Int32)), .val (.ref (A 0)), .val (.int (2 : Int32)), .unset] [(.int (1 : Int32)), (.int ((2 : Int32) >>> ((2 : Int32) &&& 31)))])) (fun t k => XS.iconst X38.here hx rfl (hb hby at_39) k) ?_
  refine own_st (V := T38.setTop (mkF m 41 #[.val (.int p1), .val (.int p2), .val (.int (0 : Int32)), .val (.ref (A 0)), .val (.int (2 : Int32)), .unset] [(.int (((2 : Int32) >>> ((2 : Int32) &&& 31)) &&& (1 : Int32)))])) (fun t k => XS.iand X38.here hx rfl (hb hby at_40) rfl k) ?_
  refine own_st (V := T38.setTop (mkF m 48 #[.val (.int p1), .val (.int p2), .val (.int (0 : Int32)), .val (.ref (A 0)), .val (.int (2 : Int32)), .unset] [])) (fun t k => XS.ifYes X38.here hx rfl (pc0 := 41) (pc' := 48) rfl (hb hby at_41) rfl ((if0 _ _).trans (teq (by decide +kernel : (((2 : Int32) >>> ((2 : Int32) &&& 31)) &&& (1 : Int32)) = (0 : Int32))).1) (by decide) (by decide) k) ?_
  refine own_st (V := T38.setTop (mkF m 49 #[.val (.int p1), .val (.int p2), .val (.int (0 : Int32)), .val (.ref (A 0)), .val (.int (2 : Int32)), .unset] [(.int (0 : Int32))])) (fun t k => XS.iconst X38.here hx rfl (hb hby at_48) k) ?_
  refine own_st (V := T38.setTop (mkF m 51 #[.val (.int p1), .val (.int p2), .val (.int (0 : Int32)), .val (.ref (A 0)), .val (.int (2 : Int32)), .val (.int (0 : Int32))] [])) (fun t k => XS.istore X38.here hx rfl (hb hby at_49) rfl (l' := #[.val (.int p1), .val (.int p2), .val (.int (0 : Int32)), .val (.ref (A 0)), .val (.int (2 : Int32)), .val (.int (0 : Int32))]) rfl k) ?_
  refine own_st (V := T38.setTop (mkF m 52 #[.val (.int p1), .val (.int p2), .val (.int (0 : Int32)), .val (.ref (A 0)), .val (.int (2 : Int32)), .val (.int (0 : Int32))] [(.ref (A 0))])) (fun t k => XS.aloadN X38.here hx rfl (hb hby at_51) rfl rfl k) ?_
  refine own_st (V := T38.setTop (mkF m 53 #[.val (.int p1), .val (.int p2), .val (.int (0 : Int32)), .val (.ref (A 0)), .val (.int (2 : Int32)), .val (.int (0 : Int32))] [(.int p2), (.ref (A 0))])) (fun t k => XS.iloadN X38.here hx rfl (hb hby at_52) rfl k) ?_
  obtain ⟨cq39, kq39, q39a, q39b, q39c⟩ := isOf hZ e38 (own_E En 0 (i := 0) (n := "EQUAL") rfl)
  obtain ⟨_, _, ⟨T39, L39, k39, n39⟩, -, X39, ⟨Lc39, hQ39, l39, y39, z39⟩, st39⟩ := X38.virtualBack hx (y := (⟨"com/example/affirm_rows/affirmrows/rules/Comparison", "holds", "(I)Z"⟩ : MethodName)) (z := (⟨"com/example/affirm_rows/affirmrows/rules/Comparison", "holds", "(I)Z"⟩ : MethodName)) hown (mvT hZ (hw _ (List.mem_of_getElem? (i := 11) rfl))) (mvT hZ (hw _ (List.mem_of_getElem? (i := 12) rfl))) (notFace_of_selects (args := #[]) (mvT hZ (hw _ (List.mem_of_getElem? (i := 14) rfl)))) (mvT hZ (hw _ (List.mem_of_getElem? (i := 14) rfl))) (mvT hZ (hw _ (List.mem_of_getElem? (i := 13) rfl))) (by decide) (backOf (W := 0) (own_ho0p l Z a0 hw [] p2 A h0 n0 Z0 En hs) hZ (hw _ (List.mem_of_getElem? (i := 15) rfl)) (hw _ (List.mem_of_getElem? (i := 6) rfl)) (by decide) (by decide)) q39a q39c (g := (mkF m 53 #[.val (.int p1), .val (.int p2), .val (.int (0 : Int32)), .val (.ref (A 0)), .val (.int (2 : Int32)), .val (.int (0 : Int32))] [(.int p2), (.ref (A 0))])) rfl (by rw [hml]; rfl) (Steps.refl _) (argsL := [(.int p2)]) (rest := []) (lenOf own_pd3 rfl) rfl (by show 2 * 0 + _ ≤ _; exact Nat.le_of_eq rfl) (hb hby at_53) (fun _ _ => ⟨rfl, e38, (by decide : 0 + 0 ≤ _), (by decide : 0 + 0 ≤ _)⟩)
  dsimp only [Pt.U, Pt.locs, Pt.cells, Pt.slots] at X39 l39 y39 z39 st39 hQ39
  subst l39 y39 z39
  obtain ⟨rfl, N39q, e39⟩ := hQ39
  have N39 := Fr.app N38 N39q
  refine own_st (V := T39.setTop (mkF m 56 #[.val (.int p1), .val (.int p2), .val (.int (0 : Int32)), .val (.ref (A 0)), .val (.int (2 : Int32)), .val (.int (0 : Int32))] [(.int (0 : Int32))])) (fun t k => st39.trans k) ?_
  refine own_st (V := T39.setTop (mkF m 58 #[.val (.int p1), .val (.int p2), .val (.int (0 : Int32)), .val (.ref (A 0)), .val (.int (2 : Int32)), .val (.int (0 : Int32))] [(.int (0 : Int32)), (.int (0 : Int32))])) (fun t k => XS.iload X39.here hx rfl (hb hby at_56) rfl k) ?_
  refine own_st (V := T39.setTop (mkF m 61 #[.val (.int p1), .val (.int p2), .val (.int (0 : Int32)), .val (.ref (A 0)), .val (.int (2 : Int32)), .val (.int (0 : Int32))] [])) (fun t k => XS.icmpNo X39.here hx rfl (hb hby at_58) rfl (teq (by decide : (0 : Int32) = (0 : Int32))).2 k) ?_
  refine own_st (V := T39.setTop (mkF m 62 #[.val (.int p1), .val (.int p2), .val (.int (0 : Int32)), .val (.ref (A 0)), .val (.int (2 : Int32)), .val (.int (0 : Int32))] [(.int (1 : Int32))])) (fun t k => XS.iconst X39.here hx rfl (hb hby at_61) k) ?_
  refine own_st (V := T39.setTop (mkF m 66 #[.val (.int p1), .val (.int p2), .val (.int (0 : Int32)), .val (.ref (A 0)), .val (.int (2 : Int32)), .val (.int (0 : Int32))] [(.int (1 : Int32))])) (fun t k => XS.goto X39.here hx rfl (pc0 := 62) (pc' := 66) rfl (hb hby at_62) (by decide) (by decide) k) ?_
  exact own_ret X39 hx hlk Bd.returns (by decide +kernel) (Or.inl ⟨rfl, by simp, _, rfl⟩) (hb hby at_66) (by decide) (by decide) (by show own_Q0 Z p1 p2 A h0 n0 _ T39.heap _; rw [e39]; exact ⟨rfl, N39⟩)
set_option maxRecDepth 65536 in
set_option maxHeartbeats 40000000 in
theorem own_law1n (l : Launch) (Z : State) (a0 : Array Value) (hw : ∀ d ∈ tables_1, d.before a0 Z = true) (ws : List Jvm.Cond) (p1 : Int32) (p2 : Int32) (A : Nat → Addr) (h0 : Heap) (n0 : Nat) (Z0 : n0 ≤ h0.size) (En : own_En Z h0 A) (hk : ((p1 &&& (2147483647 : Int32)) % (6 : Int32)) = (1 : Int32)) (hs : p2 < (0 : Int32)) :
    MetFree l x (head1 (Jvm.Cond.code x code maxLocals ret :: ws) room_1) (fun a U => a = #[(.int p1), (.int p2)] ∧ Z.Warmed39 U.vm ∧ U.heap = h0) (fun _ _ _ _ _ => True) (fun _ U o U' => ∃ v L, o = .returned v ∧ own_Q0 Z p1 p2 A h0 n0 v U'.heap L ∧ FrameEnd U o U' L room_1.cells room_1.slots) := by
  refine MetFree.of_bodySF (plainFor_of_name own_pn_com_example_affirm_rows_affirmrows_rules_ComparisonHoldsPinLaw) hisR ?_
  intro p e s m args below meth c s₁ Bd hml0 hP hK
  obtain ⟨rfl, hZ, hh⟩ := hP
  have hx := Bd.exec
  have hby := Bd.bytes
  have hml : c.maxLocals = 6 := hml0
  have hown : s.vm.findClass "com/example/affirm_rows/affirmrows/rules/ComparisonHoldsPinLaw" = some m.cls := findClass_of_methodNamed Bd.named
  have hnm := (name_of_methodNamed Bd.named Bd.method).1
  have hlk : meth.locks = false := BodyLoose.notSynchronized Bd
  have X0 : Stand p l e room_1 s m #[(.int p1), (.int p2)] below meth c s₁ [] 0 0 := Stand.of_body Bd
  have e0 : s₁.heap = h0 := by rw [← hh, Bd.state]; rfl
  have N0 := Fr.nil n0
  show own_Go p e below #[(.int p1), (.int p2)] s (fun _ U o U' => ∃ v L, o = .returned v ∧ own_Q0 Z p1 p2 A h0 n0 v U'.heap L ∧ FrameEnd U o U' L room_1.cells room_1.slots) (s₁.setTop (entryFrame m #[(.int p1), (.int p2)] maxLocals))
  refine own_st (V := s₁.setTop (mkF m 0 #[.val (.int p1), .val (.int p2), .unset, .unset, .unset, .unset] [])) (fun t k => castTop (by first | (simp [entryFrame, mkF, argsToLocals, Value.category, maxLocals]; done) | rfl) k) ?_
  refine own_st (V := s₁.setTop (mkF m 1 #[.val (.int p1), .val (.int p2), .unset, .unset, .unset, .unset] [(.int p1)])) (fun t k => XS.iloadN X0.here hx rfl (hb hby at_0) rfl k) ?_
  refine own_st (V := s₁.setTop (mkF m 3 #[.val (.int p1), .val (.int p2), .unset, .unset, .unset, .unset] [(.int (2147483647 : Int32)), (.int p1)])) (fun t k => X0.ldcInt hx hown (mvT hZ (hw _ (List.mem_of_getElem? (i := 0) rfl))) (g := (mkF m 1 #[.val (.int p1), .val (.int p2), .unset, .unset, .unset, .unset] [(.int p1)])) rfl (hb hby at_1) t k) ?_
  refine own_st (V := s₁.setTop (mkF m 4 #[.val (.int p1), .val (.int p2), .unset, .unset, .unset, .unset] [(.int (p1 &&& (2147483647 : Int32)))])) (fun t k => XS.iand X0.here hx rfl (hb hby at_3) rfl k) ?_
  refine own_st (V := s₁.setTop (mkF m 6 #[.val (.int p1), .val (.int p2), .unset, .unset, .unset, .unset] [(.int (6 : Int32)), (.int (p1 &&& (2147483647 : Int32)))])) (fun t k => XS.bipush X0.here hx rfl (hb hby at_4) k) ?_
  refine own_st (V := s₁.setTop (mkF m 7 #[.val (.int p1), .val (.int p2), .unset, .unset, .unset, .unset] [(.int ((p1 &&& (2147483647 : Int32)) % (6 : Int32)))])) (fun t k => Jvm.RoadKit.iremM X0 hx rfl (hb hby at_6) rfl (by decide) k) ?_
  rw [hk]
  refine own_st (V := s₁.setTop (mkF m 8 #[.val (.int p1), .val (.int p2), .val (.int (1 : Int32)), .unset, .unset, .unset] [])) (fun t k => XS.istoreN X0.here hx rfl (hb hby at_7) rfl (l' := #[.val (.int p1), .val (.int p2), .val (.int (1 : Int32)), .unset, .unset, .unset]) rfl k) ?_
  refine own_st (V := s₁.setTop (mkF m 9 #[.val (.int p1), .val (.int p2), .val (.int (1 : Int32)), .unset, .unset, .unset] [(.int (1 : Int32))])) (fun t k => XS.iloadN X0.here hx rfl (hb hby at_8) rfl k) ?_
  obtain ⟨_, _, ⟨T40, L40, k40, n40⟩, -, X40, ⟨Lc40, hQ40, l40, y40, z40⟩, st40⟩ := Jvm.LawKit.callS X0 hx (y := (⟨"com/example/affirm_rows/affirmrows/rules/ComparisonHoldsPinLaw", "pick", "(I)Lcom/example/affirm_rows/affirmrows/rules/Comparison;"⟩ : MethodName)) hown (mvT hZ (hw _ (List.mem_of_getElem? (i := 1) rfl))) (mvT hZ (hw _ (List.mem_of_getElem? (i := 2) rfl))) (mvT hZ (hw _ (List.mem_of_getElem? (i := 3) rfl))) (mvT hZ (hw _ (List.mem_of_getElem? (i := 4) rfl))) (by decide) (backOf (W := 0) (own_pick1 l Z a0 hw [] A h0 n0 Z0 En ) hZ (hw _ (List.mem_of_getElem? (i := 4) rfl)) (hw _ (List.mem_of_getElem? (i := 3) rfl)) (by decide) (by decide)) (g := (mkF m 9 #[.val (.int p1), .val (.int p2), .val (.int (1 : Int32)), .unset, .unset, .unset] [(.int (1 : Int32))])) rfl (by rw [hml]; rfl) (argsL := [(.int (1 : Int32))]) (rest := []) (lenOf own_pd1 rfl) rfl (by show 2 * 0 + _ ≤ _; exact Nat.le_of_eq rfl) (hb hby at_9) (fun _ _ => ⟨rfl, e0, (by decide : 0 + 0 ≤ _), (by decide : 0 + 0 ≤ _)⟩)
  dsimp only [Pt.U, Pt.locs, Pt.cells, Pt.slots] at X40 l40 y40 z40 st40 hQ40
  subst l40 y40 z40
  obtain ⟨rfl, N40q, e40⟩ := hQ40
  have N40 := Fr.app N0 N40q
  refine own_st (V := T40.setTop (mkF m 12 #[.val (.int p1), .val (.int p2), .val (.int (1 : Int32)), .unset, .unset, .unset] [(.ref (A 1))])) (fun t k => st40 _ k) ?_
  refine own_st (V := T40.setTop (mkF m 13 #[.val (.int p1), .val (.int p2), .val (.int (1 : Int32)), .val (.ref (A 1)), .unset, .unset] [])) (fun t k => XS.astoreN X40.here hx rfl (hb hby at_12) rfl rfl (l' := #[.val (.int p1), .val (.int p2), .val (.int (1 : Int32)), .val (.ref (A 1)), .unset, .unset]) rfl k) ?_
  refine own_st (V := T40.setTop (mkF m 14 #[.val (.int p1), .val (.int p2), .val (.int (1 : Int32)), .val (.ref (A 1)), .unset, .unset] [(.int p2)])) (fun t k => XS.iloadN X40.here hx rfl (hb hby at_13) rfl k) ?_
  refine own_st (V := T40.setTop (mkF m 17 #[.val (.int p1), .val (.int p2), .val (.int (1 : Int32)), .val (.ref (A 1)), .unset, .unset] [])) (fun t k => XS.ifNo X40.here hx rfl (hb hby at_14) rfl ((if0 _ _).trans (tlt hs).2.1) k) ?_
  refine own_st (V := T40.setTop (mkF m 18 #[.val (.int p1), .val (.int p2), .val (.int (1 : Int32)), .val (.ref (A 1)), .unset, .unset] [(.int (0 : Int32))])) (fun t k => XS.iconst X40.here hx rfl (hb hby at_17) k) ?_
  refine own_st (V := T40.setTop (mkF m 30 #[.val (.int p1), .val (.int p2), .val (.int (1 : Int32)), .val (.ref (A 1)), .unset, .unset] [(.int (0 : Int32))])) (fun t k => XS.goto X40.here hx rfl (pc0 := 18) (pc' := 30) rfl (hb hby at_18) (by decide) (by decide) k) ?_
  refine own_st (V := T40.setTop (mkF m 32 #[.val (.int p1), .val (.int p2), .val (.int (1 : Int32)), .val (.ref (A 1)), .val (.int (0 : Int32)), .unset] [])) (fun t k => XS.istore X40.here hx rfl (hb hby at_30) rfl (l' := #[.val (.int p1), .val (.int p2), .val (.int (1 : Int32)), .val (.ref (A 1)), .val (.int (0 : Int32)), .unset]) rfl k) ?_
  refine own_st (V := T40.setTop (mkF m 33 #[.val (.int p1), .val (.int p2), .val (.int (1 : Int32)), .val (.ref (A 1)), .val (.int (0 : Int32)), .unset] [(.int (1 : Int32))])) (fun t k => XS.iloadN X40.here hx rfl (hb hby at_32) rfl k) ?_
  obtain ⟨_, _, ⟨T41, L41, k41, n41⟩, -, X41, ⟨Lc41, hQ41, l41, y41, z41⟩, st41⟩ := Jvm.LawKit.callS X40 hx (y := (⟨"com/example/affirm_rows/affirmrows/rules/ComparisonHoldsPinLaw", "admittedSigns", "(I)I"⟩ : MethodName)) hown (mvT hZ (hw _ (List.mem_of_getElem? (i := 8) rfl))) (mvT hZ (hw _ (List.mem_of_getElem? (i := 9) rfl))) (mvT hZ (hw _ (List.mem_of_getElem? (i := 3) rfl))) (mvT hZ (hw _ (List.mem_of_getElem? (i := 10) rfl))) (by decide) (backOf (W := 0) (own_ad1 l Z a0 hw [] A h0 n0 Z0 En ) hZ (hw _ (List.mem_of_getElem? (i := 10) rfl)) (hw _ (List.mem_of_getElem? (i := 3) rfl)) (by decide) (by decide)) (g := (mkF m 33 #[.val (.int p1), .val (.int p2), .val (.int (1 : Int32)), .val (.ref (A 1)), .val (.int (0 : Int32)), .unset] [(.int (1 : Int32))])) rfl (by rw [hml]; rfl) (argsL := [(.int (1 : Int32))]) (rest := []) (lenOf own_pd2 rfl) rfl (by show 2 * 0 + _ ≤ _; exact Nat.le_of_eq rfl) (hb hby at_33) (fun _ _ => ⟨rfl, e40, (by decide : 0 + 0 ≤ _), (by decide : 0 + 0 ≤ _)⟩)
  dsimp only [Pt.U, Pt.locs, Pt.cells, Pt.slots] at X41 l41 y41 z41 st41 hQ41
  subst l41 y41 z41
  obtain ⟨rfl, N41q, e41⟩ := hQ41
  have N41 := Fr.app N40 N41q
  refine own_st (V := T41.setTop (mkF m 36 #[.val (.int p1), .val (.int p2), .val (.int (1 : Int32)), .val (.ref (A 1)), .val (.int (0 : Int32)), .unset] [(.int (5 : Int32))])) (fun t k => st41 _ k) ?_
  refine own_st (V := T41.setTop (mkF m 38 #[.val (.int p1), .val (.int p2), .val (.int (1 : Int32)), .val (.ref (A 1)), .val (.int (0 : Int32)), .unset] [(.int (0 : Int32)), (.int (5 : Int32))])) (fun t k => XS.iload X41.here hx rfl (hb hby at_36) rfl k) ?_
  refine own_st (V := T41.setTop (mkF m 39 #[.val (.int p1), .val (.int p2), .val (.int (1 : Int32)), .val (.ref (A 1)), .val (.int (0 : Int32)), .unset] [(.int ((5 : Int32) >>> ((0 : Int32) &&& 31)))])) (fun t k => XS.ishr X41.here hx rfl (hb hby at_38) rfl k) ?_
  refine own_st (V := T41.setTop (mkF m 40 #[.val (.int p1), .val (.int p2), .val (.int (1 : Int32)), .val (.ref (A 1)), .val (.int (0 : Int32)), .unset] [(.int (1 : Int32)), (.int ((5 : Int32) >>> ((0 : Int32) &&& 31)))])) (fun t k => XS.iconst X41.here hx rfl (hb hby at_39) k) ?_
  refine own_st (V := T41.setTop (mkF m 41 #[.val (.int p1), .val (.int p2), .val (.int (1 : Int32)), .val (.ref (A 1)), .val (.int (0 : Int32)), .unset] [(.int (((5 : Int32) >>> ((0 : Int32) &&& 31)) &&& (1 : Int32)))])) (fun t k => XS.iand X41.here hx rfl (hb hby at_40) rfl k) ?_
  refine own_st (V := T41.setTop (mkF m 44 #[.val (.int p1), .val (.int p2), .val (.int (1 : Int32)), .val (.ref (A 1)), .val (.int (0 : Int32)), .unset] [])) (fun t k => XS.ifNo X41.here hx rfl (hb hby at_41) rfl ((if0 _ _).trans (feq (by decide +kernel : ¬ ((((5 : Int32) >>> ((0 : Int32) &&& 31)) &&& (1 : Int32)) = (0 : Int32)))).1) k) ?_
  refine own_st (V := T41.setTop (mkF m 45 #[.val (.int p1), .val (.int p2), .val (.int (1 : Int32)), .val (.ref (A 1)), .val (.int (0 : Int32)), .unset] [(.int (1 : Int32))])) (fun t k => XS.iconst X41.here hx rfl (hb hby at_44) k) ?_
  refine own_st (V := T41.setTop (mkF m 49 #[.val (.int p1), .val (.int p2), .val (.int (1 : Int32)), .val (.ref (A 1)), .val (.int (0 : Int32)), .unset] [(.int (1 : Int32))])) (fun t k => XS.goto X41.here hx rfl (pc0 := 45) (pc' := 49) rfl (hb hby at_45) (by decide) (by decide) k) ?_
  refine own_st (V := T41.setTop (mkF m 51 #[.val (.int p1), .val (.int p2), .val (.int (1 : Int32)), .val (.ref (A 1)), .val (.int (0 : Int32)), .val (.int (1 : Int32))] [])) (fun t k => XS.istore X41.here hx rfl (hb hby at_49) rfl (l' := #[.val (.int p1), .val (.int p2), .val (.int (1 : Int32)), .val (.ref (A 1)), .val (.int (0 : Int32)), .val (.int (1 : Int32))]) rfl k) ?_
  refine own_st (V := T41.setTop (mkF m 52 #[.val (.int p1), .val (.int p2), .val (.int (1 : Int32)), .val (.ref (A 1)), .val (.int (0 : Int32)), .val (.int (1 : Int32))] [(.ref (A 1))])) (fun t k => XS.aloadN X41.here hx rfl (hb hby at_51) rfl rfl k) ?_
  refine own_st (V := T41.setTop (mkF m 53 #[.val (.int p1), .val (.int p2), .val (.int (1 : Int32)), .val (.ref (A 1)), .val (.int (0 : Int32)), .val (.int (1 : Int32))] [(.int p2), (.ref (A 1))])) (fun t k => XS.iloadN X41.here hx rfl (hb hby at_52) rfl k) ?_
  obtain ⟨cq42, kq42, q42a, q42b, q42c⟩ := isOf hZ e41 (own_E En 1 (i := 1) (n := "NOT_EQUAL") rfl)
  obtain ⟨_, _, ⟨T42, L42, k42, n42⟩, -, X42, ⟨Lc42, hQ42, l42, y42, z42⟩, st42⟩ := X41.virtualBack hx (y := (⟨"com/example/affirm_rows/affirmrows/rules/Comparison", "holds", "(I)Z"⟩ : MethodName)) (z := (⟨"com/example/affirm_rows/affirmrows/rules/Comparison", "holds", "(I)Z"⟩ : MethodName)) hown (mvT hZ (hw _ (List.mem_of_getElem? (i := 11) rfl))) (mvT hZ (hw _ (List.mem_of_getElem? (i := 12) rfl))) (notFace_of_selects (args := #[]) (mvT hZ (hw _ (List.mem_of_getElem? (i := 14) rfl)))) (mvT hZ (hw _ (List.mem_of_getElem? (i := 14) rfl))) (mvT hZ (hw _ (List.mem_of_getElem? (i := 13) rfl))) (by decide) (backOf (W := 0) (own_ho1n l Z a0 hw [] p2 A h0 n0 Z0 En hs) hZ (hw _ (List.mem_of_getElem? (i := 15) rfl)) (hw _ (List.mem_of_getElem? (i := 6) rfl)) (by decide) (by decide)) q42a q42c (g := (mkF m 53 #[.val (.int p1), .val (.int p2), .val (.int (1 : Int32)), .val (.ref (A 1)), .val (.int (0 : Int32)), .val (.int (1 : Int32))] [(.int p2), (.ref (A 1))])) rfl (by rw [hml]; rfl) (Steps.refl _) (argsL := [(.int p2)]) (rest := []) (lenOf own_pd3 rfl) rfl (by show 2 * 0 + _ ≤ _; exact Nat.le_of_eq rfl) (hb hby at_53) (fun _ _ => ⟨rfl, e41, (by decide : 0 + 0 ≤ _), (by decide : 0 + 0 ≤ _)⟩)
  dsimp only [Pt.U, Pt.locs, Pt.cells, Pt.slots] at X42 l42 y42 z42 st42 hQ42
  subst l42 y42 z42
  obtain ⟨rfl, N42q, e42⟩ := hQ42
  have N42 := Fr.app N41 N42q
  refine own_st (V := T42.setTop (mkF m 56 #[.val (.int p1), .val (.int p2), .val (.int (1 : Int32)), .val (.ref (A 1)), .val (.int (0 : Int32)), .val (.int (1 : Int32))] [(.int (1 : Int32))])) (fun t k => st42.trans k) ?_
  refine own_st (V := T42.setTop (mkF m 58 #[.val (.int p1), .val (.int p2), .val (.int (1 : Int32)), .val (.ref (A 1)), .val (.int (0 : Int32)), .val (.int (1 : Int32))] [(.int (1 : Int32)), (.int (1 : Int32))])) (fun t k => XS.iload X42.here hx rfl (hb hby at_56) rfl k) ?_
  refine own_st (V := T42.setTop (mkF m 61 #[.val (.int p1), .val (.int p2), .val (.int (1 : Int32)), .val (.ref (A 1)), .val (.int (0 : Int32)), .val (.int (1 : Int32))] [])) (fun t k => XS.icmpNo X42.here hx rfl (hb hby at_58) rfl (teq (by decide : (1 : Int32) = (1 : Int32))).2 k) ?_
  refine own_st (V := T42.setTop (mkF m 62 #[.val (.int p1), .val (.int p2), .val (.int (1 : Int32)), .val (.ref (A 1)), .val (.int (0 : Int32)), .val (.int (1 : Int32))] [(.int (1 : Int32))])) (fun t k => XS.iconst X42.here hx rfl (hb hby at_61) k) ?_
  refine own_st (V := T42.setTop (mkF m 66 #[.val (.int p1), .val (.int p2), .val (.int (1 : Int32)), .val (.ref (A 1)), .val (.int (0 : Int32)), .val (.int (1 : Int32))] [(.int (1 : Int32))])) (fun t k => XS.goto X42.here hx rfl (pc0 := 62) (pc' := 66) rfl (hb hby at_62) (by decide) (by decide) k) ?_
  exact own_ret X42 hx hlk Bd.returns (by decide +kernel) (Or.inl ⟨rfl, by simp, _, rfl⟩) (hb hby at_66) (by decide) (by decide) (by show own_Q0 Z p1 p2 A h0 n0 _ T42.heap _; rw [e42]; exact ⟨rfl, N42⟩)
set_option maxRecDepth 65536 in
set_option maxHeartbeats 40000000 in
theorem own_law1z (l : Launch) (Z : State) (a0 : Array Value) (hw : ∀ d ∈ tables_1, d.before a0 Z = true) (ws : List Jvm.Cond) (p1 : Int32) (p2 : Int32) (A : Nat → Addr) (h0 : Heap) (n0 : Nat) (Z0 : n0 ≤ h0.size) (En : own_En Z h0 A) (hk : ((p1 &&& (2147483647 : Int32)) % (6 : Int32)) = (1 : Int32)) (hs : p2 = (0 : Int32)) :
    MetFree l x (head1 (Jvm.Cond.code x code maxLocals ret :: ws) room_1) (fun a U => a = #[(.int p1), (.int p2)] ∧ Z.Warmed39 U.vm ∧ U.heap = h0) (fun _ _ _ _ _ => True) (fun _ U o U' => ∃ v L, o = .returned v ∧ own_Q0 Z p1 p2 A h0 n0 v U'.heap L ∧ FrameEnd U o U' L room_1.cells room_1.slots) := by
  refine MetFree.of_bodySF (plainFor_of_name own_pn_com_example_affirm_rows_affirmrows_rules_ComparisonHoldsPinLaw) hisR ?_
  intro p e s m args below meth c s₁ Bd hml0 hP hK
  obtain ⟨rfl, hZ, hh⟩ := hP
  have hx := Bd.exec
  have hby := Bd.bytes
  have hml : c.maxLocals = 6 := hml0
  have hown : s.vm.findClass "com/example/affirm_rows/affirmrows/rules/ComparisonHoldsPinLaw" = some m.cls := findClass_of_methodNamed Bd.named
  have hnm := (name_of_methodNamed Bd.named Bd.method).1
  have hlk : meth.locks = false := BodyLoose.notSynchronized Bd
  have X0 : Stand p l e room_1 s m #[(.int p1), (.int p2)] below meth c s₁ [] 0 0 := Stand.of_body Bd
  have e0 : s₁.heap = h0 := by rw [← hh, Bd.state]; rfl
  have N0 := Fr.nil n0
  show own_Go p e below #[(.int p1), (.int p2)] s (fun _ U o U' => ∃ v L, o = .returned v ∧ own_Q0 Z p1 p2 A h0 n0 v U'.heap L ∧ FrameEnd U o U' L room_1.cells room_1.slots) (s₁.setTop (entryFrame m #[(.int p1), (.int p2)] maxLocals))
  refine own_st (V := s₁.setTop (mkF m 0 #[.val (.int p1), .val (.int p2), .unset, .unset, .unset, .unset] [])) (fun t k => castTop (by first | (simp [entryFrame, mkF, argsToLocals, Value.category, maxLocals]; done) | rfl) k) ?_
  refine own_st (V := s₁.setTop (mkF m 1 #[.val (.int p1), .val (.int p2), .unset, .unset, .unset, .unset] [(.int p1)])) (fun t k => XS.iloadN X0.here hx rfl (hb hby at_0) rfl k) ?_
  refine own_st (V := s₁.setTop (mkF m 3 #[.val (.int p1), .val (.int p2), .unset, .unset, .unset, .unset] [(.int (2147483647 : Int32)), (.int p1)])) (fun t k => X0.ldcInt hx hown (mvT hZ (hw _ (List.mem_of_getElem? (i := 0) rfl))) (g := (mkF m 1 #[.val (.int p1), .val (.int p2), .unset, .unset, .unset, .unset] [(.int p1)])) rfl (hb hby at_1) t k) ?_
  refine own_st (V := s₁.setTop (mkF m 4 #[.val (.int p1), .val (.int p2), .unset, .unset, .unset, .unset] [(.int (p1 &&& (2147483647 : Int32)))])) (fun t k => XS.iand X0.here hx rfl (hb hby at_3) rfl k) ?_
  refine own_st (V := s₁.setTop (mkF m 6 #[.val (.int p1), .val (.int p2), .unset, .unset, .unset, .unset] [(.int (6 : Int32)), (.int (p1 &&& (2147483647 : Int32)))])) (fun t k => XS.bipush X0.here hx rfl (hb hby at_4) k) ?_
  refine own_st (V := s₁.setTop (mkF m 7 #[.val (.int p1), .val (.int p2), .unset, .unset, .unset, .unset] [(.int ((p1 &&& (2147483647 : Int32)) % (6 : Int32)))])) (fun t k => Jvm.RoadKit.iremM X0 hx rfl (hb hby at_6) rfl (by decide) k) ?_
  rw [hk]
  refine own_st (V := s₁.setTop (mkF m 8 #[.val (.int p1), .val (.int p2), .val (.int (1 : Int32)), .unset, .unset, .unset] [])) (fun t k => XS.istoreN X0.here hx rfl (hb hby at_7) rfl (l' := #[.val (.int p1), .val (.int p2), .val (.int (1 : Int32)), .unset, .unset, .unset]) rfl k) ?_
  refine own_st (V := s₁.setTop (mkF m 9 #[.val (.int p1), .val (.int p2), .val (.int (1 : Int32)), .unset, .unset, .unset] [(.int (1 : Int32))])) (fun t k => XS.iloadN X0.here hx rfl (hb hby at_8) rfl k) ?_
  obtain ⟨_, _, ⟨T43, L43, k43, n43⟩, -, X43, ⟨Lc43, hQ43, l43, y43, z43⟩, st43⟩ := Jvm.LawKit.callS X0 hx (y := (⟨"com/example/affirm_rows/affirmrows/rules/ComparisonHoldsPinLaw", "pick", "(I)Lcom/example/affirm_rows/affirmrows/rules/Comparison;"⟩ : MethodName)) hown (mvT hZ (hw _ (List.mem_of_getElem? (i := 1) rfl))) (mvT hZ (hw _ (List.mem_of_getElem? (i := 2) rfl))) (mvT hZ (hw _ (List.mem_of_getElem? (i := 3) rfl))) (mvT hZ (hw _ (List.mem_of_getElem? (i := 4) rfl))) (by decide) (backOf (W := 0) (own_pick1 l Z a0 hw [] A h0 n0 Z0 En ) hZ (hw _ (List.mem_of_getElem? (i := 4) rfl)) (hw _ (List.mem_of_getElem? (i := 3) rfl)) (by decide) (by decide)) (g := (mkF m 9 #[.val (.int p1), .val (.int p2), .val (.int (1 : Int32)), .unset, .unset, .unset] [(.int (1 : Int32))])) rfl (by rw [hml]; rfl) (argsL := [(.int (1 : Int32))]) (rest := []) (lenOf own_pd1 rfl) rfl (by show 2 * 0 + _ ≤ _; exact Nat.le_of_eq rfl) (hb hby at_9) (fun _ _ => ⟨rfl, e0, (by decide : 0 + 0 ≤ _), (by decide : 0 + 0 ≤ _)⟩)
  dsimp only [Pt.U, Pt.locs, Pt.cells, Pt.slots] at X43 l43 y43 z43 st43 hQ43
  subst l43 y43 z43
  obtain ⟨rfl, N43q, e43⟩ := hQ43
  have N43 := Fr.app N0 N43q
  refine own_st (V := T43.setTop (mkF m 12 #[.val (.int p1), .val (.int p2), .val (.int (1 : Int32)), .unset, .unset, .unset] [(.ref (A 1))])) (fun t k => st43 _ k) ?_
  refine own_st (V := T43.setTop (mkF m 13 #[.val (.int p1), .val (.int p2), .val (.int (1 : Int32)), .val (.ref (A 1)), .unset, .unset] [])) (fun t k => XS.astoreN X43.here hx rfl (hb hby at_12) rfl rfl (l' := #[.val (.int p1), .val (.int p2), .val (.int (1 : Int32)), .val (.ref (A 1)), .unset, .unset]) rfl k) ?_
  refine own_st (V := T43.setTop (mkF m 14 #[.val (.int p1), .val (.int p2), .val (.int (1 : Int32)), .val (.ref (A 1)), .unset, .unset] [(.int p2)])) (fun t k => XS.iloadN X43.here hx rfl (hb hby at_13) rfl k) ?_
  refine own_st (V := T43.setTop (mkF m 21 #[.val (.int p1), .val (.int p2), .val (.int (1 : Int32)), .val (.ref (A 1)), .unset, .unset] [])) (fun t k => XS.ifYes X43.here hx rfl (pc0 := 14) (pc' := 21) rfl (hb hby at_14) rfl ((if0 _ _).trans (flt (own_z1 hs)).2.1) (by decide) (by decide) k) ?_
  refine own_st (V := T43.setTop (mkF m 22 #[.val (.int p1), .val (.int p2), .val (.int (1 : Int32)), .val (.ref (A 1)), .unset, .unset] [(.int p2)])) (fun t k => XS.iloadN X43.here hx rfl (hb hby at_21) rfl k) ?_
  refine own_st (V := T43.setTop (mkF m 25 #[.val (.int p1), .val (.int p2), .val (.int (1 : Int32)), .val (.ref (A 1)), .unset, .unset] [])) (fun t k => XS.ifNo X43.here hx rfl (hb hby at_22) rfl ((if0 _ _).trans (teq hs).2) k) ?_
  refine own_st (V := T43.setTop (mkF m 26 #[.val (.int p1), .val (.int p2), .val (.int (1 : Int32)), .val (.ref (A 1)), .unset, .unset] [(.int (1 : Int32))])) (fun t k => XS.iconst X43.here hx rfl (hb hby at_25) k) ?_
  refine own_st (V := T43.setTop (mkF m 30 #[.val (.int p1), .val (.int p2), .val (.int (1 : Int32)), .val (.ref (A 1)), .unset, .unset] [(.int (1 : Int32))])) (fun t k => XS.goto X43.here hx rfl (pc0 := 26) (pc' := 30) rfl (hb hby at_26) (by decide) (by decide) k) ?_
  refine own_st (V := T43.setTop (mkF m 32 #[.val (.int p1), .val (.int p2), .val (.int (1 : Int32)), .val (.ref (A 1)), .val (.int (1 : Int32)), .unset] [])) (fun t k => XS.istore X43.here hx rfl (hb hby at_30) rfl (l' := #[.val (.int p1), .val (.int p2), .val (.int (1 : Int32)), .val (.ref (A 1)), .val (.int (1 : Int32)), .unset]) rfl k) ?_
  refine own_st (V := T43.setTop (mkF m 33 #[.val (.int p1), .val (.int p2), .val (.int (1 : Int32)), .val (.ref (A 1)), .val (.int (1 : Int32)), .unset] [(.int (1 : Int32))])) (fun t k => XS.iloadN X43.here hx rfl (hb hby at_32) rfl k) ?_
  obtain ⟨_, _, ⟨T44, L44, k44, n44⟩, -, X44, ⟨Lc44, hQ44, l44, y44, z44⟩, st44⟩ := Jvm.LawKit.callS X43 hx (y := (⟨"com/example/affirm_rows/affirmrows/rules/ComparisonHoldsPinLaw", "admittedSigns", "(I)I"⟩ : MethodName)) hown (mvT hZ (hw _ (List.mem_of_getElem? (i := 8) rfl))) (mvT hZ (hw _ (List.mem_of_getElem? (i := 9) rfl))) (mvT hZ (hw _ (List.mem_of_getElem? (i := 3) rfl))) (mvT hZ (hw _ (List.mem_of_getElem? (i := 10) rfl))) (by decide) (backOf (W := 0) (own_ad1 l Z a0 hw [] A h0 n0 Z0 En ) hZ (hw _ (List.mem_of_getElem? (i := 10) rfl)) (hw _ (List.mem_of_getElem? (i := 3) rfl)) (by decide) (by decide)) (g := (mkF m 33 #[.val (.int p1), .val (.int p2), .val (.int (1 : Int32)), .val (.ref (A 1)), .val (.int (1 : Int32)), .unset] [(.int (1 : Int32))])) rfl (by rw [hml]; rfl) (argsL := [(.int (1 : Int32))]) (rest := []) (lenOf own_pd2 rfl) rfl (by show 2 * 0 + _ ≤ _; exact Nat.le_of_eq rfl) (hb hby at_33) (fun _ _ => ⟨rfl, e43, (by decide : 0 + 0 ≤ _), (by decide : 0 + 0 ≤ _)⟩)
  dsimp only [Pt.U, Pt.locs, Pt.cells, Pt.slots] at X44 l44 y44 z44 st44 hQ44
  subst l44 y44 z44
  obtain ⟨rfl, N44q, e44⟩ := hQ44
  have N44 := Fr.app N43 N44q
  refine own_st (V := T44.setTop (mkF m 36 #[.val (.int p1), .val (.int p2), .val (.int (1 : Int32)), .val (.ref (A 1)), .val (.int (1 : Int32)), .unset] [(.int (5 : Int32))])) (fun t k => st44 _ k) ?_
  refine own_st (V := T44.setTop (mkF m 38 #[.val (.int p1), .val (.int p2), .val (.int (1 : Int32)), .val (.ref (A 1)), .val (.int (1 : Int32)), .unset] [(.int (1 : Int32)), (.int (5 : Int32))])) (fun t k => XS.iload X44.here hx rfl (hb hby at_36) rfl k) ?_
  refine own_st (V := T44.setTop (mkF m 39 #[.val (.int p1), .val (.int p2), .val (.int (1 : Int32)), .val (.ref (A 1)), .val (.int (1 : Int32)), .unset] [(.int ((5 : Int32) >>> ((1 : Int32) &&& 31)))])) (fun t k => XS.ishr X44.here hx rfl (hb hby at_38) rfl k) ?_
  refine own_st (V := T44.setTop (mkF m 40 #[.val (.int p1), .val (.int p2), .val (.int (1 : Int32)), .val (.ref (A 1)), .val (.int (1 : Int32)), .unset] [(.int (1 : Int32)), (.int ((5 : Int32) >>> ((1 : Int32) &&& 31)))])) (fun t k => XS.iconst X44.here hx rfl (hb hby at_39) k) ?_
  refine own_st (V := T44.setTop (mkF m 41 #[.val (.int p1), .val (.int p2), .val (.int (1 : Int32)), .val (.ref (A 1)), .val (.int (1 : Int32)), .unset] [(.int (((5 : Int32) >>> ((1 : Int32) &&& 31)) &&& (1 : Int32)))])) (fun t k => XS.iand X44.here hx rfl (hb hby at_40) rfl k) ?_
  refine own_st (V := T44.setTop (mkF m 48 #[.val (.int p1), .val (.int p2), .val (.int (1 : Int32)), .val (.ref (A 1)), .val (.int (1 : Int32)), .unset] [])) (fun t k => XS.ifYes X44.here hx rfl (pc0 := 41) (pc' := 48) rfl (hb hby at_41) rfl ((if0 _ _).trans (teq (by decide +kernel : (((5 : Int32) >>> ((1 : Int32) &&& 31)) &&& (1 : Int32)) = (0 : Int32))).1) (by decide) (by decide) k) ?_
  refine own_st (V := T44.setTop (mkF m 49 #[.val (.int p1), .val (.int p2), .val (.int (1 : Int32)), .val (.ref (A 1)), .val (.int (1 : Int32)), .unset] [(.int (0 : Int32))])) (fun t k => XS.iconst X44.here hx rfl (hb hby at_48) k) ?_
  refine own_st (V := T44.setTop (mkF m 51 #[.val (.int p1), .val (.int p2), .val (.int (1 : Int32)), .val (.ref (A 1)), .val (.int (1 : Int32)), .val (.int (0 : Int32))] [])) (fun t k => XS.istore X44.here hx rfl (hb hby at_49) rfl (l' := #[.val (.int p1), .val (.int p2), .val (.int (1 : Int32)), .val (.ref (A 1)), .val (.int (1 : Int32)), .val (.int (0 : Int32))]) rfl k) ?_
  refine own_st (V := T44.setTop (mkF m 52 #[.val (.int p1), .val (.int p2), .val (.int (1 : Int32)), .val (.ref (A 1)), .val (.int (1 : Int32)), .val (.int (0 : Int32))] [(.ref (A 1))])) (fun t k => XS.aloadN X44.here hx rfl (hb hby at_51) rfl rfl k) ?_
  refine own_st (V := T44.setTop (mkF m 53 #[.val (.int p1), .val (.int p2), .val (.int (1 : Int32)), .val (.ref (A 1)), .val (.int (1 : Int32)), .val (.int (0 : Int32))] [(.int p2), (.ref (A 1))])) (fun t k => XS.iloadN X44.here hx rfl (hb hby at_52) rfl k) ?_
  obtain ⟨cq45, kq45, q45a, q45b, q45c⟩ := isOf hZ e44 (own_E En 1 (i := 1) (n := "NOT_EQUAL") rfl)
  obtain ⟨_, _, ⟨T45, L45, k45, n45⟩, -, X45, ⟨Lc45, hQ45, l45, y45, z45⟩, st45⟩ := X44.virtualBack hx (y := (⟨"com/example/affirm_rows/affirmrows/rules/Comparison", "holds", "(I)Z"⟩ : MethodName)) (z := (⟨"com/example/affirm_rows/affirmrows/rules/Comparison", "holds", "(I)Z"⟩ : MethodName)) hown (mvT hZ (hw _ (List.mem_of_getElem? (i := 11) rfl))) (mvT hZ (hw _ (List.mem_of_getElem? (i := 12) rfl))) (notFace_of_selects (args := #[]) (mvT hZ (hw _ (List.mem_of_getElem? (i := 14) rfl)))) (mvT hZ (hw _ (List.mem_of_getElem? (i := 14) rfl))) (mvT hZ (hw _ (List.mem_of_getElem? (i := 13) rfl))) (by decide) (backOf (W := 0) (own_ho1z l Z a0 hw [] p2 A h0 n0 Z0 En hs) hZ (hw _ (List.mem_of_getElem? (i := 15) rfl)) (hw _ (List.mem_of_getElem? (i := 6) rfl)) (by decide) (by decide)) q45a q45c (g := (mkF m 53 #[.val (.int p1), .val (.int p2), .val (.int (1 : Int32)), .val (.ref (A 1)), .val (.int (1 : Int32)), .val (.int (0 : Int32))] [(.int p2), (.ref (A 1))])) rfl (by rw [hml]; rfl) (Steps.refl _) (argsL := [(.int p2)]) (rest := []) (lenOf own_pd3 rfl) rfl (by show 2 * 0 + _ ≤ _; exact Nat.le_of_eq rfl) (hb hby at_53) (fun _ _ => ⟨rfl, e44, (by decide : 0 + 0 ≤ _), (by decide : 0 + 0 ≤ _)⟩)
  dsimp only [Pt.U, Pt.locs, Pt.cells, Pt.slots] at X45 l45 y45 z45 st45 hQ45
  subst l45 y45 z45
  obtain ⟨rfl, N45q, e45⟩ := hQ45
  have N45 := Fr.app N44 N45q
  refine own_st (V := T45.setTop (mkF m 56 #[.val (.int p1), .val (.int p2), .val (.int (1 : Int32)), .val (.ref (A 1)), .val (.int (1 : Int32)), .val (.int (0 : Int32))] [(.int (0 : Int32))])) (fun t k => st45.trans k) ?_
  refine own_st (V := T45.setTop (mkF m 58 #[.val (.int p1), .val (.int p2), .val (.int (1 : Int32)), .val (.ref (A 1)), .val (.int (1 : Int32)), .val (.int (0 : Int32))] [(.int (0 : Int32)), (.int (0 : Int32))])) (fun t k => XS.iload X45.here hx rfl (hb hby at_56) rfl k) ?_
  refine own_st (V := T45.setTop (mkF m 61 #[.val (.int p1), .val (.int p2), .val (.int (1 : Int32)), .val (.ref (A 1)), .val (.int (1 : Int32)), .val (.int (0 : Int32))] [])) (fun t k => XS.icmpNo X45.here hx rfl (hb hby at_58) rfl (teq (by decide : (0 : Int32) = (0 : Int32))).2 k) ?_
  refine own_st (V := T45.setTop (mkF m 62 #[.val (.int p1), .val (.int p2), .val (.int (1 : Int32)), .val (.ref (A 1)), .val (.int (1 : Int32)), .val (.int (0 : Int32))] [(.int (1 : Int32))])) (fun t k => XS.iconst X45.here hx rfl (hb hby at_61) k) ?_
  refine own_st (V := T45.setTop (mkF m 66 #[.val (.int p1), .val (.int p2), .val (.int (1 : Int32)), .val (.ref (A 1)), .val (.int (1 : Int32)), .val (.int (0 : Int32))] [(.int (1 : Int32))])) (fun t k => XS.goto X45.here hx rfl (pc0 := 62) (pc' := 66) rfl (hb hby at_62) (by decide) (by decide) k) ?_
  exact own_ret X45 hx hlk Bd.returns (by decide +kernel) (Or.inl ⟨rfl, by simp, _, rfl⟩) (hb hby at_66) (by decide) (by decide) (by show own_Q0 Z p1 p2 A h0 n0 _ T45.heap _; rw [e45]; exact ⟨rfl, N45⟩)
set_option maxRecDepth 65536 in
set_option maxHeartbeats 40000000 in
theorem own_law1p (l : Launch) (Z : State) (a0 : Array Value) (hw : ∀ d ∈ tables_1, d.before a0 Z = true) (ws : List Jvm.Cond) (p1 : Int32) (p2 : Int32) (A : Nat → Addr) (h0 : Heap) (n0 : Nat) (Z0 : n0 ≤ h0.size) (En : own_En Z h0 A) (hk : ((p1 &&& (2147483647 : Int32)) % (6 : Int32)) = (1 : Int32)) (hs : (0 : Int32) < p2) :
    MetFree l x (head1 (Jvm.Cond.code x code maxLocals ret :: ws) room_1) (fun a U => a = #[(.int p1), (.int p2)] ∧ Z.Warmed39 U.vm ∧ U.heap = h0) (fun _ _ _ _ _ => True) (fun _ U o U' => ∃ v L, o = .returned v ∧ own_Q0 Z p1 p2 A h0 n0 v U'.heap L ∧ FrameEnd U o U' L room_1.cells room_1.slots) := by
  refine MetFree.of_bodySF (plainFor_of_name own_pn_com_example_affirm_rows_affirmrows_rules_ComparisonHoldsPinLaw) hisR ?_
  intro p e s m args below meth c s₁ Bd hml0 hP hK
  obtain ⟨rfl, hZ, hh⟩ := hP
  have hx := Bd.exec
  have hby := Bd.bytes
  have hml : c.maxLocals = 6 := hml0
  have hown : s.vm.findClass "com/example/affirm_rows/affirmrows/rules/ComparisonHoldsPinLaw" = some m.cls := findClass_of_methodNamed Bd.named
  have hnm := (name_of_methodNamed Bd.named Bd.method).1
  have hlk : meth.locks = false := BodyLoose.notSynchronized Bd
  have X0 : Stand p l e room_1 s m #[(.int p1), (.int p2)] below meth c s₁ [] 0 0 := Stand.of_body Bd
  have e0 : s₁.heap = h0 := by rw [← hh, Bd.state]; rfl
  have N0 := Fr.nil n0
  show own_Go p e below #[(.int p1), (.int p2)] s (fun _ U o U' => ∃ v L, o = .returned v ∧ own_Q0 Z p1 p2 A h0 n0 v U'.heap L ∧ FrameEnd U o U' L room_1.cells room_1.slots) (s₁.setTop (entryFrame m #[(.int p1), (.int p2)] maxLocals))
  refine own_st (V := s₁.setTop (mkF m 0 #[.val (.int p1), .val (.int p2), .unset, .unset, .unset, .unset] [])) (fun t k => castTop (by first | (simp [entryFrame, mkF, argsToLocals, Value.category, maxLocals]; done) | rfl) k) ?_
  refine own_st (V := s₁.setTop (mkF m 1 #[.val (.int p1), .val (.int p2), .unset, .unset, .unset, .unset] [(.int p1)])) (fun t k => XS.iloadN X0.here hx rfl (hb hby at_0) rfl k) ?_
  refine own_st (V := s₁.setTop (mkF m 3 #[.val (.int p1), .val (.int p2), .unset, .unset, .unset, .unset] [(.int (2147483647 : Int32)), (.int p1)])) (fun t k => X0.ldcInt hx hown (mvT hZ (hw _ (List.mem_of_getElem? (i := 0) rfl))) (g := (mkF m 1 #[.val (.int p1), .val (.int p2), .unset, .unset, .unset, .unset] [(.int p1)])) rfl (hb hby at_1) t k) ?_
  refine own_st (V := s₁.setTop (mkF m 4 #[.val (.int p1), .val (.int p2), .unset, .unset, .unset, .unset] [(.int (p1 &&& (2147483647 : Int32)))])) (fun t k => XS.iand X0.here hx rfl (hb hby at_3) rfl k) ?_
  refine own_st (V := s₁.setTop (mkF m 6 #[.val (.int p1), .val (.int p2), .unset, .unset, .unset, .unset] [(.int (6 : Int32)), (.int (p1 &&& (2147483647 : Int32)))])) (fun t k => XS.bipush X0.here hx rfl (hb hby at_4) k) ?_
  refine own_st (V := s₁.setTop (mkF m 7 #[.val (.int p1), .val (.int p2), .unset, .unset, .unset, .unset] [(.int ((p1 &&& (2147483647 : Int32)) % (6 : Int32)))])) (fun t k => Jvm.RoadKit.iremM X0 hx rfl (hb hby at_6) rfl (by decide) k) ?_
  rw [hk]
  refine own_st (V := s₁.setTop (mkF m 8 #[.val (.int p1), .val (.int p2), .val (.int (1 : Int32)), .unset, .unset, .unset] [])) (fun t k => XS.istoreN X0.here hx rfl (hb hby at_7) rfl (l' := #[.val (.int p1), .val (.int p2), .val (.int (1 : Int32)), .unset, .unset, .unset]) rfl k) ?_
  refine own_st (V := s₁.setTop (mkF m 9 #[.val (.int p1), .val (.int p2), .val (.int (1 : Int32)), .unset, .unset, .unset] [(.int (1 : Int32))])) (fun t k => XS.iloadN X0.here hx rfl (hb hby at_8) rfl k) ?_
  obtain ⟨_, _, ⟨T46, L46, k46, n46⟩, -, X46, ⟨Lc46, hQ46, l46, y46, z46⟩, st46⟩ := Jvm.LawKit.callS X0 hx (y := (⟨"com/example/affirm_rows/affirmrows/rules/ComparisonHoldsPinLaw", "pick", "(I)Lcom/example/affirm_rows/affirmrows/rules/Comparison;"⟩ : MethodName)) hown (mvT hZ (hw _ (List.mem_of_getElem? (i := 1) rfl))) (mvT hZ (hw _ (List.mem_of_getElem? (i := 2) rfl))) (mvT hZ (hw _ (List.mem_of_getElem? (i := 3) rfl))) (mvT hZ (hw _ (List.mem_of_getElem? (i := 4) rfl))) (by decide) (backOf (W := 0) (own_pick1 l Z a0 hw [] A h0 n0 Z0 En ) hZ (hw _ (List.mem_of_getElem? (i := 4) rfl)) (hw _ (List.mem_of_getElem? (i := 3) rfl)) (by decide) (by decide)) (g := (mkF m 9 #[.val (.int p1), .val (.int p2), .val (.int (1 : Int32)), .unset, .unset, .unset] [(.int (1 : Int32))])) rfl (by rw [hml]; rfl) (argsL := [(.int (1 : Int32))]) (rest := []) (lenOf own_pd1 rfl) rfl (by show 2 * 0 + _ ≤ _; exact Nat.le_of_eq rfl) (hb hby at_9) (fun _ _ => ⟨rfl, e0, (by decide : 0 + 0 ≤ _), (by decide : 0 + 0 ≤ _)⟩)
  dsimp only [Pt.U, Pt.locs, Pt.cells, Pt.slots] at X46 l46 y46 z46 st46 hQ46
  subst l46 y46 z46
  obtain ⟨rfl, N46q, e46⟩ := hQ46
  have N46 := Fr.app N0 N46q
  refine own_st (V := T46.setTop (mkF m 12 #[.val (.int p1), .val (.int p2), .val (.int (1 : Int32)), .unset, .unset, .unset] [(.ref (A 1))])) (fun t k => st46 _ k) ?_
  refine own_st (V := T46.setTop (mkF m 13 #[.val (.int p1), .val (.int p2), .val (.int (1 : Int32)), .val (.ref (A 1)), .unset, .unset] [])) (fun t k => XS.astoreN X46.here hx rfl (hb hby at_12) rfl rfl (l' := #[.val (.int p1), .val (.int p2), .val (.int (1 : Int32)), .val (.ref (A 1)), .unset, .unset]) rfl k) ?_
  refine own_st (V := T46.setTop (mkF m 14 #[.val (.int p1), .val (.int p2), .val (.int (1 : Int32)), .val (.ref (A 1)), .unset, .unset] [(.int p2)])) (fun t k => XS.iloadN X46.here hx rfl (hb hby at_13) rfl k) ?_
  refine own_st (V := T46.setTop (mkF m 21 #[.val (.int p1), .val (.int p2), .val (.int (1 : Int32)), .val (.ref (A 1)), .unset, .unset] [])) (fun t k => XS.ifYes X46.here hx rfl (pc0 := 14) (pc' := 21) rfl (hb hby at_14) rfl ((if0 _ _).trans (flt (own_p1 hs)).2.1) (by decide) (by decide) k) ?_
  refine own_st (V := T46.setTop (mkF m 22 #[.val (.int p1), .val (.int p2), .val (.int (1 : Int32)), .val (.ref (A 1)), .unset, .unset] [(.int p2)])) (fun t k => XS.iloadN X46.here hx rfl (hb hby at_21) rfl k) ?_
  refine own_st (V := T46.setTop (mkF m 29 #[.val (.int p1), .val (.int p2), .val (.int (1 : Int32)), .val (.ref (A 1)), .unset, .unset] [])) (fun t k => XS.ifYes X46.here hx rfl (pc0 := 22) (pc' := 29) rfl (hb hby at_22) rfl ((if0 _ _).trans (feq (own_p2 hs)).2) (by decide) (by decide) k) ?_
  refine own_st (V := T46.setTop (mkF m 30 #[.val (.int p1), .val (.int p2), .val (.int (1 : Int32)), .val (.ref (A 1)), .unset, .unset] [(.int (2 : Int32))])) (fun t k => XS.iconst X46.here hx rfl (hb hby at_29) k) ?_
  refine own_st (V := T46.setTop (mkF m 32 #[.val (.int p1), .val (.int p2), .val (.int (1 : Int32)), .val (.ref (A 1)), .val (.int (2 : Int32)), .unset] [])) (fun t k => XS.istore X46.here hx rfl (hb hby at_30) rfl (l' := #[.val (.int p1), .val (.int p2), .val (.int (1 : Int32)), .val (.ref (A 1)), .val (.int (2 : Int32)), .unset]) rfl k) ?_
  refine own_st (V := T46.setTop (mkF m 33 #[.val (.int p1), .val (.int p2), .val (.int (1 : Int32)), .val (.ref (A 1)), .val (.int (2 : Int32)), .unset] [(.int (1 : Int32))])) (fun t k => XS.iloadN X46.here hx rfl (hb hby at_32) rfl k) ?_
  obtain ⟨_, _, ⟨T47, L47, k47, n47⟩, -, X47, ⟨Lc47, hQ47, l47, y47, z47⟩, st47⟩ := Jvm.LawKit.callS X46 hx (y := (⟨"com/example/affirm_rows/affirmrows/rules/ComparisonHoldsPinLaw", "admittedSigns", "(I)I"⟩ : MethodName)) hown (mvT hZ (hw _ (List.mem_of_getElem? (i := 8) rfl))) (mvT hZ (hw _ (List.mem_of_getElem? (i := 9) rfl))) (mvT hZ (hw _ (List.mem_of_getElem? (i := 3) rfl))) (mvT hZ (hw _ (List.mem_of_getElem? (i := 10) rfl))) (by decide) (backOf (W := 0) (own_ad1 l Z a0 hw [] A h0 n0 Z0 En ) hZ (hw _ (List.mem_of_getElem? (i := 10) rfl)) (hw _ (List.mem_of_getElem? (i := 3) rfl)) (by decide) (by decide)) (g := (mkF m 33 #[.val (.int p1), .val (.int p2), .val (.int (1 : Int32)), .val (.ref (A 1)), .val (.int (2 : Int32)), .unset] [(.int (1 : Int32))])) rfl (by rw [hml]; rfl) (argsL := [(.int (1 : Int32))]) (rest := []) (lenOf own_pd2 rfl) rfl (by show 2 * 0 + _ ≤ _; exact Nat.le_of_eq rfl) (hb hby at_33) (fun _ _ => ⟨rfl, e46, (by decide : 0 + 0 ≤ _), (by decide : 0 + 0 ≤ _)⟩)
  dsimp only [Pt.U, Pt.locs, Pt.cells, Pt.slots] at X47 l47 y47 z47 st47 hQ47
  subst l47 y47 z47
  obtain ⟨rfl, N47q, e47⟩ := hQ47
  have N47 := Fr.app N46 N47q
  refine own_st (V := T47.setTop (mkF m 36 #[.val (.int p1), .val (.int p2), .val (.int (1 : Int32)), .val (.ref (A 1)), .val (.int (2 : Int32)), .unset] [(.int (5 : Int32))])) (fun t k => st47 _ k) ?_
  refine own_st (V := T47.setTop (mkF m 38 #[.val (.int p1), .val (.int p2), .val (.int (1 : Int32)), .val (.ref (A 1)), .val (.int (2 : Int32)), .unset] [(.int (2 : Int32)), (.int (5 : Int32))])) (fun t k => XS.iload X47.here hx rfl (hb hby at_36) rfl k) ?_
  refine own_st (V := T47.setTop (mkF m 39 #[.val (.int p1), .val (.int p2), .val (.int (1 : Int32)), .val (.ref (A 1)), .val (.int (2 : Int32)), .unset] [(.int ((5 : Int32) >>> ((2 : Int32) &&& 31)))])) (fun t k => XS.ishr X47.here hx rfl (hb hby at_38) rfl k) ?_
  refine own_st (V := T47.setTop (mkF m 40 #[.val (.int p1), .val (.int p2), .val (.int (1 : Int32)), .val (.ref (A 1)), .val (.int (2 : Int32)), .unset] [(.int (1 : Int32)), (.int ((5 : Int32) >>> ((2 : Int32) &&& 31)))])) (fun t k => XS.iconst X47.here hx rfl (hb hby at_39) k) ?_
  refine own_st (V := T47.setTop (mkF m 41 #[.val (.int p1), .val (.int p2), .val (.int (1 : Int32)), .val (.ref (A 1)), .val (.int (2 : Int32)), .unset] [(.int (((5 : Int32) >>> ((2 : Int32) &&& 31)) &&& (1 : Int32)))])) (fun t k => XS.iand X47.here hx rfl (hb hby at_40) rfl k) ?_
  refine own_st (V := T47.setTop (mkF m 44 #[.val (.int p1), .val (.int p2), .val (.int (1 : Int32)), .val (.ref (A 1)), .val (.int (2 : Int32)), .unset] [])) (fun t k => XS.ifNo X47.here hx rfl (hb hby at_41) rfl ((if0 _ _).trans (feq (by decide +kernel : ¬ ((((5 : Int32) >>> ((2 : Int32) &&& 31)) &&& (1 : Int32)) = (0 : Int32)))).1) k) ?_
  refine own_st (V := T47.setTop (mkF m 45 #[.val (.int p1), .val (.int p2), .val (.int (1 : Int32)), .val (.ref (A 1)), .val (.int (2 : Int32)), .unset] [(.int (1 : Int32))])) (fun t k => XS.iconst X47.here hx rfl (hb hby at_44) k) ?_
  refine own_st (V := T47.setTop (mkF m 49 #[.val (.int p1), .val (.int p2), .val (.int (1 : Int32)), .val (.ref (A 1)), .val (.int (2 : Int32)), .unset] [(.int (1 : Int32))])) (fun t k => XS.goto X47.here hx rfl (pc0 := 45) (pc' := 49) rfl (hb hby at_45) (by decide) (by decide) k) ?_
  refine own_st (V := T47.setTop (mkF m 51 #[.val (.int p1), .val (.int p2), .val (.int (1 : Int32)), .val (.ref (A 1)), .val (.int (2 : Int32)), .val (.int (1 : Int32))] [])) (fun t k => XS.istore X47.here hx rfl (hb hby at_49) rfl (l' := #[.val (.int p1), .val (.int p2), .val (.int (1 : Int32)), .val (.ref (A 1)), .val (.int (2 : Int32)), .val (.int (1 : Int32))]) rfl k) ?_
  refine own_st (V := T47.setTop (mkF m 52 #[.val (.int p1), .val (.int p2), .val (.int (1 : Int32)), .val (.ref (A 1)), .val (.int (2 : Int32)), .val (.int (1 : Int32))] [(.ref (A 1))])) (fun t k => XS.aloadN X47.here hx rfl (hb hby at_51) rfl rfl k) ?_
  refine own_st (V := T47.setTop (mkF m 53 #[.val (.int p1), .val (.int p2), .val (.int (1 : Int32)), .val (.ref (A 1)), .val (.int (2 : Int32)), .val (.int (1 : Int32))] [(.int p2), (.ref (A 1))])) (fun t k => XS.iloadN X47.here hx rfl (hb hby at_52) rfl k) ?_
  obtain ⟨cq48, kq48, q48a, q48b, q48c⟩ := isOf hZ e47 (own_E En 1 (i := 1) (n := "NOT_EQUAL") rfl)
  obtain ⟨_, _, ⟨T48, L48, k48, n48⟩, -, X48, ⟨Lc48, hQ48, l48, y48, z48⟩, st48⟩ := X47.virtualBack hx (y := (⟨"com/example/affirm_rows/affirmrows/rules/Comparison", "holds", "(I)Z"⟩ : MethodName)) (z := (⟨"com/example/affirm_rows/affirmrows/rules/Comparison", "holds", "(I)Z"⟩ : MethodName)) hown (mvT hZ (hw _ (List.mem_of_getElem? (i := 11) rfl))) (mvT hZ (hw _ (List.mem_of_getElem? (i := 12) rfl))) (notFace_of_selects (args := #[]) (mvT hZ (hw _ (List.mem_of_getElem? (i := 14) rfl)))) (mvT hZ (hw _ (List.mem_of_getElem? (i := 14) rfl))) (mvT hZ (hw _ (List.mem_of_getElem? (i := 13) rfl))) (by decide) (backOf (W := 0) (own_ho1p l Z a0 hw [] p2 A h0 n0 Z0 En hs) hZ (hw _ (List.mem_of_getElem? (i := 15) rfl)) (hw _ (List.mem_of_getElem? (i := 6) rfl)) (by decide) (by decide)) q48a q48c (g := (mkF m 53 #[.val (.int p1), .val (.int p2), .val (.int (1 : Int32)), .val (.ref (A 1)), .val (.int (2 : Int32)), .val (.int (1 : Int32))] [(.int p2), (.ref (A 1))])) rfl (by rw [hml]; rfl) (Steps.refl _) (argsL := [(.int p2)]) (rest := []) (lenOf own_pd3 rfl) rfl (by show 2 * 0 + _ ≤ _; exact Nat.le_of_eq rfl) (hb hby at_53) (fun _ _ => ⟨rfl, e47, (by decide : 0 + 0 ≤ _), (by decide : 0 + 0 ≤ _)⟩)
  dsimp only [Pt.U, Pt.locs, Pt.cells, Pt.slots] at X48 l48 y48 z48 st48 hQ48
  subst l48 y48 z48
  obtain ⟨rfl, N48q, e48⟩ := hQ48
  have N48 := Fr.app N47 N48q
  refine own_st (V := T48.setTop (mkF m 56 #[.val (.int p1), .val (.int p2), .val (.int (1 : Int32)), .val (.ref (A 1)), .val (.int (2 : Int32)), .val (.int (1 : Int32))] [(.int (1 : Int32))])) (fun t k => st48.trans k) ?_
  refine own_st (V := T48.setTop (mkF m 58 #[.val (.int p1), .val (.int p2), .val (.int (1 : Int32)), .val (.ref (A 1)), .val (.int (2 : Int32)), .val (.int (1 : Int32))] [(.int (1 : Int32)), (.int (1 : Int32))])) (fun t k => XS.iload X48.here hx rfl (hb hby at_56) rfl k) ?_
  refine own_st (V := T48.setTop (mkF m 61 #[.val (.int p1), .val (.int p2), .val (.int (1 : Int32)), .val (.ref (A 1)), .val (.int (2 : Int32)), .val (.int (1 : Int32))] [])) (fun t k => XS.icmpNo X48.here hx rfl (hb hby at_58) rfl (teq (by decide : (1 : Int32) = (1 : Int32))).2 k) ?_
  refine own_st (V := T48.setTop (mkF m 62 #[.val (.int p1), .val (.int p2), .val (.int (1 : Int32)), .val (.ref (A 1)), .val (.int (2 : Int32)), .val (.int (1 : Int32))] [(.int (1 : Int32))])) (fun t k => XS.iconst X48.here hx rfl (hb hby at_61) k) ?_
  refine own_st (V := T48.setTop (mkF m 66 #[.val (.int p1), .val (.int p2), .val (.int (1 : Int32)), .val (.ref (A 1)), .val (.int (2 : Int32)), .val (.int (1 : Int32))] [(.int (1 : Int32))])) (fun t k => XS.goto X48.here hx rfl (pc0 := 62) (pc' := 66) rfl (hb hby at_62) (by decide) (by decide) k) ?_
  exact own_ret X48 hx hlk Bd.returns (by decide +kernel) (Or.inl ⟨rfl, by simp, _, rfl⟩) (hb hby at_66) (by decide) (by decide) (by show own_Q0 Z p1 p2 A h0 n0 _ T48.heap _; rw [e48]; exact ⟨rfl, N48⟩)
set_option maxRecDepth 65536 in
set_option maxHeartbeats 40000000 in
theorem own_law2n (l : Launch) (Z : State) (a0 : Array Value) (hw : ∀ d ∈ tables_1, d.before a0 Z = true) (ws : List Jvm.Cond) (p1 : Int32) (p2 : Int32) (A : Nat → Addr) (h0 : Heap) (n0 : Nat) (Z0 : n0 ≤ h0.size) (En : own_En Z h0 A) (hk : ((p1 &&& (2147483647 : Int32)) % (6 : Int32)) = (2 : Int32)) (hs : p2 < (0 : Int32)) :
    MetFree l x (head1 (Jvm.Cond.code x code maxLocals ret :: ws) room_1) (fun a U => a = #[(.int p1), (.int p2)] ∧ Z.Warmed39 U.vm ∧ U.heap = h0) (fun _ _ _ _ _ => True) (fun _ U o U' => ∃ v L, o = .returned v ∧ own_Q0 Z p1 p2 A h0 n0 v U'.heap L ∧ FrameEnd U o U' L room_1.cells room_1.slots) := by
  refine MetFree.of_bodySF (plainFor_of_name own_pn_com_example_affirm_rows_affirmrows_rules_ComparisonHoldsPinLaw) hisR ?_
  intro p e s m args below meth c s₁ Bd hml0 hP hK
  obtain ⟨rfl, hZ, hh⟩ := hP
  have hx := Bd.exec
  have hby := Bd.bytes
  have hml : c.maxLocals = 6 := hml0
  have hown : s.vm.findClass "com/example/affirm_rows/affirmrows/rules/ComparisonHoldsPinLaw" = some m.cls := findClass_of_methodNamed Bd.named
  have hnm := (name_of_methodNamed Bd.named Bd.method).1
  have hlk : meth.locks = false := BodyLoose.notSynchronized Bd
  have X0 : Stand p l e room_1 s m #[(.int p1), (.int p2)] below meth c s₁ [] 0 0 := Stand.of_body Bd
  have e0 : s₁.heap = h0 := by rw [← hh, Bd.state]; rfl
  have N0 := Fr.nil n0
  show own_Go p e below #[(.int p1), (.int p2)] s (fun _ U o U' => ∃ v L, o = .returned v ∧ own_Q0 Z p1 p2 A h0 n0 v U'.heap L ∧ FrameEnd U o U' L room_1.cells room_1.slots) (s₁.setTop (entryFrame m #[(.int p1), (.int p2)] maxLocals))
  refine own_st (V := s₁.setTop (mkF m 0 #[.val (.int p1), .val (.int p2), .unset, .unset, .unset, .unset] [])) (fun t k => castTop (by first | (simp [entryFrame, mkF, argsToLocals, Value.category, maxLocals]; done) | rfl) k) ?_
  refine own_st (V := s₁.setTop (mkF m 1 #[.val (.int p1), .val (.int p2), .unset, .unset, .unset, .unset] [(.int p1)])) (fun t k => XS.iloadN X0.here hx rfl (hb hby at_0) rfl k) ?_
  refine own_st (V := s₁.setTop (mkF m 3 #[.val (.int p1), .val (.int p2), .unset, .unset, .unset, .unset] [(.int (2147483647 : Int32)), (.int p1)])) (fun t k => X0.ldcInt hx hown (mvT hZ (hw _ (List.mem_of_getElem? (i := 0) rfl))) (g := (mkF m 1 #[.val (.int p1), .val (.int p2), .unset, .unset, .unset, .unset] [(.int p1)])) rfl (hb hby at_1) t k) ?_
  refine own_st (V := s₁.setTop (mkF m 4 #[.val (.int p1), .val (.int p2), .unset, .unset, .unset, .unset] [(.int (p1 &&& (2147483647 : Int32)))])) (fun t k => XS.iand X0.here hx rfl (hb hby at_3) rfl k) ?_
  refine own_st (V := s₁.setTop (mkF m 6 #[.val (.int p1), .val (.int p2), .unset, .unset, .unset, .unset] [(.int (6 : Int32)), (.int (p1 &&& (2147483647 : Int32)))])) (fun t k => XS.bipush X0.here hx rfl (hb hby at_4) k) ?_
  refine own_st (V := s₁.setTop (mkF m 7 #[.val (.int p1), .val (.int p2), .unset, .unset, .unset, .unset] [(.int ((p1 &&& (2147483647 : Int32)) % (6 : Int32)))])) (fun t k => Jvm.RoadKit.iremM X0 hx rfl (hb hby at_6) rfl (by decide) k) ?_
  rw [hk]
  refine own_st (V := s₁.setTop (mkF m 8 #[.val (.int p1), .val (.int p2), .val (.int (2 : Int32)), .unset, .unset, .unset] [])) (fun t k => XS.istoreN X0.here hx rfl (hb hby at_7) rfl (l' := #[.val (.int p1), .val (.int p2), .val (.int (2 : Int32)), .unset, .unset, .unset]) rfl k) ?_
  refine own_st (V := s₁.setTop (mkF m 9 #[.val (.int p1), .val (.int p2), .val (.int (2 : Int32)), .unset, .unset, .unset] [(.int (2 : Int32))])) (fun t k => XS.iloadN X0.here hx rfl (hb hby at_8) rfl k) ?_
  obtain ⟨_, _, ⟨T49, L49, k49, n49⟩, -, X49, ⟨Lc49, hQ49, l49, y49, z49⟩, st49⟩ := Jvm.LawKit.callS X0 hx (y := (⟨"com/example/affirm_rows/affirmrows/rules/ComparisonHoldsPinLaw", "pick", "(I)Lcom/example/affirm_rows/affirmrows/rules/Comparison;"⟩ : MethodName)) hown (mvT hZ (hw _ (List.mem_of_getElem? (i := 1) rfl))) (mvT hZ (hw _ (List.mem_of_getElem? (i := 2) rfl))) (mvT hZ (hw _ (List.mem_of_getElem? (i := 3) rfl))) (mvT hZ (hw _ (List.mem_of_getElem? (i := 4) rfl))) (by decide) (backOf (W := 0) (own_pick2 l Z a0 hw [] A h0 n0 Z0 En ) hZ (hw _ (List.mem_of_getElem? (i := 4) rfl)) (hw _ (List.mem_of_getElem? (i := 3) rfl)) (by decide) (by decide)) (g := (mkF m 9 #[.val (.int p1), .val (.int p2), .val (.int (2 : Int32)), .unset, .unset, .unset] [(.int (2 : Int32))])) rfl (by rw [hml]; rfl) (argsL := [(.int (2 : Int32))]) (rest := []) (lenOf own_pd1 rfl) rfl (by show 2 * 0 + _ ≤ _; exact Nat.le_of_eq rfl) (hb hby at_9) (fun _ _ => ⟨rfl, e0, (by decide : 0 + 0 ≤ _), (by decide : 0 + 0 ≤ _)⟩)
  dsimp only [Pt.U, Pt.locs, Pt.cells, Pt.slots] at X49 l49 y49 z49 st49 hQ49
  subst l49 y49 z49
  obtain ⟨rfl, N49q, e49⟩ := hQ49
  have N49 := Fr.app N0 N49q
  refine own_st (V := T49.setTop (mkF m 12 #[.val (.int p1), .val (.int p2), .val (.int (2 : Int32)), .unset, .unset, .unset] [(.ref (A 2))])) (fun t k => st49 _ k) ?_
  refine own_st (V := T49.setTop (mkF m 13 #[.val (.int p1), .val (.int p2), .val (.int (2 : Int32)), .val (.ref (A 2)), .unset, .unset] [])) (fun t k => XS.astoreN X49.here hx rfl (hb hby at_12) rfl rfl (l' := #[.val (.int p1), .val (.int p2), .val (.int (2 : Int32)), .val (.ref (A 2)), .unset, .unset]) rfl k) ?_
  refine own_st (V := T49.setTop (mkF m 14 #[.val (.int p1), .val (.int p2), .val (.int (2 : Int32)), .val (.ref (A 2)), .unset, .unset] [(.int p2)])) (fun t k => XS.iloadN X49.here hx rfl (hb hby at_13) rfl k) ?_
  refine own_st (V := T49.setTop (mkF m 17 #[.val (.int p1), .val (.int p2), .val (.int (2 : Int32)), .val (.ref (A 2)), .unset, .unset] [])) (fun t k => XS.ifNo X49.here hx rfl (hb hby at_14) rfl ((if0 _ _).trans (tlt hs).2.1) k) ?_
  refine own_st (V := T49.setTop (mkF m 18 #[.val (.int p1), .val (.int p2), .val (.int (2 : Int32)), .val (.ref (A 2)), .unset, .unset] [(.int (0 : Int32))])) (fun t k => XS.iconst X49.here hx rfl (hb hby at_17) k) ?_
  refine own_st (V := T49.setTop (mkF m 30 #[.val (.int p1), .val (.int p2), .val (.int (2 : Int32)), .val (.ref (A 2)), .unset, .unset] [(.int (0 : Int32))])) (fun t k => XS.goto X49.here hx rfl (pc0 := 18) (pc' := 30) rfl (hb hby at_18) (by decide) (by decide) k) ?_
  refine own_st (V := T49.setTop (mkF m 32 #[.val (.int p1), .val (.int p2), .val (.int (2 : Int32)), .val (.ref (A 2)), .val (.int (0 : Int32)), .unset] [])) (fun t k => XS.istore X49.here hx rfl (hb hby at_30) rfl (l' := #[.val (.int p1), .val (.int p2), .val (.int (2 : Int32)), .val (.ref (A 2)), .val (.int (0 : Int32)), .unset]) rfl k) ?_
  refine own_st (V := T49.setTop (mkF m 33 #[.val (.int p1), .val (.int p2), .val (.int (2 : Int32)), .val (.ref (A 2)), .val (.int (0 : Int32)), .unset] [(.int (2 : Int32))])) (fun t k => XS.iloadN X49.here hx rfl (hb hby at_32) rfl k) ?_
  obtain ⟨_, _, ⟨T50, L50, k50, n50⟩, -, X50, ⟨Lc50, hQ50, l50, y50, z50⟩, st50⟩ := Jvm.LawKit.callS X49 hx (y := (⟨"com/example/affirm_rows/affirmrows/rules/ComparisonHoldsPinLaw", "admittedSigns", "(I)I"⟩ : MethodName)) hown (mvT hZ (hw _ (List.mem_of_getElem? (i := 8) rfl))) (mvT hZ (hw _ (List.mem_of_getElem? (i := 9) rfl))) (mvT hZ (hw _ (List.mem_of_getElem? (i := 3) rfl))) (mvT hZ (hw _ (List.mem_of_getElem? (i := 10) rfl))) (by decide) (backOf (W := 0) (own_ad2 l Z a0 hw [] A h0 n0 Z0 En ) hZ (hw _ (List.mem_of_getElem? (i := 10) rfl)) (hw _ (List.mem_of_getElem? (i := 3) rfl)) (by decide) (by decide)) (g := (mkF m 33 #[.val (.int p1), .val (.int p2), .val (.int (2 : Int32)), .val (.ref (A 2)), .val (.int (0 : Int32)), .unset] [(.int (2 : Int32))])) rfl (by rw [hml]; rfl) (argsL := [(.int (2 : Int32))]) (rest := []) (lenOf own_pd2 rfl) rfl (by show 2 * 0 + _ ≤ _; exact Nat.le_of_eq rfl) (hb hby at_33) (fun _ _ => ⟨rfl, e49, (by decide : 0 + 0 ≤ _), (by decide : 0 + 0 ≤ _)⟩)
  dsimp only [Pt.U, Pt.locs, Pt.cells, Pt.slots] at X50 l50 y50 z50 st50 hQ50
  subst l50 y50 z50
  obtain ⟨rfl, N50q, e50⟩ := hQ50
  have N50 := Fr.app N49 N50q
  refine own_st (V := T50.setTop (mkF m 36 #[.val (.int p1), .val (.int p2), .val (.int (2 : Int32)), .val (.ref (A 2)), .val (.int (0 : Int32)), .unset] [(.int (1 : Int32))])) (fun t k => st50 _ k) ?_
  refine own_st (V := T50.setTop (mkF m 38 #[.val (.int p1), .val (.int p2), .val (.int (2 : Int32)), .val (.ref (A 2)), .val (.int (0 : Int32)), .unset] [(.int (0 : Int32)), (.int (1 : Int32))])) (fun t k => XS.iload X50.here hx rfl (hb hby at_36) rfl k) ?_
  refine own_st (V := T50.setTop (mkF m 39 #[.val (.int p1), .val (.int p2), .val (.int (2 : Int32)), .val (.ref (A 2)), .val (.int (0 : Int32)), .unset] [(.int ((1 : Int32) >>> ((0 : Int32) &&& 31)))])) (fun t k => XS.ishr X50.here hx rfl (hb hby at_38) rfl k) ?_
  refine own_st (V := T50.setTop (mkF m 40 #[.val (.int p1), .val (.int p2), .val (.int (2 : Int32)), .val (.ref (A 2)), .val (.int (0 : Int32)), .unset] [(.int (1 : Int32)), (.int ((1 : Int32) >>> ((0 : Int32) &&& 31)))])) (fun t k => XS.iconst X50.here hx rfl (hb hby at_39) k) ?_
  refine own_st (V := T50.setTop (mkF m 41 #[.val (.int p1), .val (.int p2), .val (.int (2 : Int32)), .val (.ref (A 2)), .val (.int (0 : Int32)), .unset] [(.int (((1 : Int32) >>> ((0 : Int32) &&& 31)) &&& (1 : Int32)))])) (fun t k => XS.iand X50.here hx rfl (hb hby at_40) rfl k) ?_
  refine own_st (V := T50.setTop (mkF m 44 #[.val (.int p1), .val (.int p2), .val (.int (2 : Int32)), .val (.ref (A 2)), .val (.int (0 : Int32)), .unset] [])) (fun t k => XS.ifNo X50.here hx rfl (hb hby at_41) rfl ((if0 _ _).trans (feq (by decide +kernel : ¬ ((((1 : Int32) >>> ((0 : Int32) &&& 31)) &&& (1 : Int32)) = (0 : Int32)))).1) k) ?_
  refine own_st (V := T50.setTop (mkF m 45 #[.val (.int p1), .val (.int p2), .val (.int (2 : Int32)), .val (.ref (A 2)), .val (.int (0 : Int32)), .unset] [(.int (1 : Int32))])) (fun t k => XS.iconst X50.here hx rfl (hb hby at_44) k) ?_
  refine own_st (V := T50.setTop (mkF m 49 #[.val (.int p1), .val (.int p2), .val (.int (2 : Int32)), .val (.ref (A 2)), .val (.int (0 : Int32)), .unset] [(.int (1 : Int32))])) (fun t k => XS.goto X50.here hx rfl (pc0 := 45) (pc' := 49) rfl (hb hby at_45) (by decide) (by decide) k) ?_
  refine own_st (V := T50.setTop (mkF m 51 #[.val (.int p1), .val (.int p2), .val (.int (2 : Int32)), .val (.ref (A 2)), .val (.int (0 : Int32)), .val (.int (1 : Int32))] [])) (fun t k => XS.istore X50.here hx rfl (hb hby at_49) rfl (l' := #[.val (.int p1), .val (.int p2), .val (.int (2 : Int32)), .val (.ref (A 2)), .val (.int (0 : Int32)), .val (.int (1 : Int32))]) rfl k) ?_
  refine own_st (V := T50.setTop (mkF m 52 #[.val (.int p1), .val (.int p2), .val (.int (2 : Int32)), .val (.ref (A 2)), .val (.int (0 : Int32)), .val (.int (1 : Int32))] [(.ref (A 2))])) (fun t k => XS.aloadN X50.here hx rfl (hb hby at_51) rfl rfl k) ?_
  refine own_st (V := T50.setTop (mkF m 53 #[.val (.int p1), .val (.int p2), .val (.int (2 : Int32)), .val (.ref (A 2)), .val (.int (0 : Int32)), .val (.int (1 : Int32))] [(.int p2), (.ref (A 2))])) (fun t k => XS.iloadN X50.here hx rfl (hb hby at_52) rfl k) ?_
  obtain ⟨cq51, kq51, q51a, q51b, q51c⟩ := isOf hZ e50 (own_E En 2 (i := 2) (n := "LESS") rfl)
  obtain ⟨_, _, ⟨T51, L51, k51, n51⟩, -, X51, ⟨Lc51, hQ51, l51, y51, z51⟩, st51⟩ := X50.virtualBack hx (y := (⟨"com/example/affirm_rows/affirmrows/rules/Comparison", "holds", "(I)Z"⟩ : MethodName)) (z := (⟨"com/example/affirm_rows/affirmrows/rules/Comparison", "holds", "(I)Z"⟩ : MethodName)) hown (mvT hZ (hw _ (List.mem_of_getElem? (i := 11) rfl))) (mvT hZ (hw _ (List.mem_of_getElem? (i := 12) rfl))) (notFace_of_selects (args := #[]) (mvT hZ (hw _ (List.mem_of_getElem? (i := 14) rfl)))) (mvT hZ (hw _ (List.mem_of_getElem? (i := 14) rfl))) (mvT hZ (hw _ (List.mem_of_getElem? (i := 13) rfl))) (by decide) (backOf (W := 0) (own_ho2n l Z a0 hw [] p2 A h0 n0 Z0 En hs) hZ (hw _ (List.mem_of_getElem? (i := 15) rfl)) (hw _ (List.mem_of_getElem? (i := 6) rfl)) (by decide) (by decide)) q51a q51c (g := (mkF m 53 #[.val (.int p1), .val (.int p2), .val (.int (2 : Int32)), .val (.ref (A 2)), .val (.int (0 : Int32)), .val (.int (1 : Int32))] [(.int p2), (.ref (A 2))])) rfl (by rw [hml]; rfl) (Steps.refl _) (argsL := [(.int p2)]) (rest := []) (lenOf own_pd3 rfl) rfl (by show 2 * 0 + _ ≤ _; exact Nat.le_of_eq rfl) (hb hby at_53) (fun _ _ => ⟨rfl, e50, (by decide : 0 + 0 ≤ _), (by decide : 0 + 0 ≤ _)⟩)
  dsimp only [Pt.U, Pt.locs, Pt.cells, Pt.slots] at X51 l51 y51 z51 st51 hQ51
  subst l51 y51 z51
  obtain ⟨rfl, N51q, e51⟩ := hQ51
  have N51 := Fr.app N50 N51q
  refine own_st (V := T51.setTop (mkF m 56 #[.val (.int p1), .val (.int p2), .val (.int (2 : Int32)), .val (.ref (A 2)), .val (.int (0 : Int32)), .val (.int (1 : Int32))] [(.int (1 : Int32))])) (fun t k => st51.trans k) ?_
  refine own_st (V := T51.setTop (mkF m 58 #[.val (.int p1), .val (.int p2), .val (.int (2 : Int32)), .val (.ref (A 2)), .val (.int (0 : Int32)), .val (.int (1 : Int32))] [(.int (1 : Int32)), (.int (1 : Int32))])) (fun t k => XS.iload X51.here hx rfl (hb hby at_56) rfl k) ?_
  refine own_st (V := T51.setTop (mkF m 61 #[.val (.int p1), .val (.int p2), .val (.int (2 : Int32)), .val (.ref (A 2)), .val (.int (0 : Int32)), .val (.int (1 : Int32))] [])) (fun t k => XS.icmpNo X51.here hx rfl (hb hby at_58) rfl (teq (by decide : (1 : Int32) = (1 : Int32))).2 k) ?_
  refine own_st (V := T51.setTop (mkF m 62 #[.val (.int p1), .val (.int p2), .val (.int (2 : Int32)), .val (.ref (A 2)), .val (.int (0 : Int32)), .val (.int (1 : Int32))] [(.int (1 : Int32))])) (fun t k => XS.iconst X51.here hx rfl (hb hby at_61) k) ?_
  refine own_st (V := T51.setTop (mkF m 66 #[.val (.int p1), .val (.int p2), .val (.int (2 : Int32)), .val (.ref (A 2)), .val (.int (0 : Int32)), .val (.int (1 : Int32))] [(.int (1 : Int32))])) (fun t k => XS.goto X51.here hx rfl (pc0 := 62) (pc' := 66) rfl (hb hby at_62) (by decide) (by decide) k) ?_
  exact own_ret X51 hx hlk Bd.returns (by decide +kernel) (Or.inl ⟨rfl, by simp, _, rfl⟩) (hb hby at_66) (by decide) (by decide) (by show own_Q0 Z p1 p2 A h0 n0 _ T51.heap _; rw [e51]; exact ⟨rfl, N51⟩)
set_option maxRecDepth 65536 in
set_option maxHeartbeats 40000000 in
theorem own_law2z (l : Launch) (Z : State) (a0 : Array Value) (hw : ∀ d ∈ tables_1, d.before a0 Z = true) (ws : List Jvm.Cond) (p1 : Int32) (p2 : Int32) (A : Nat → Addr) (h0 : Heap) (n0 : Nat) (Z0 : n0 ≤ h0.size) (En : own_En Z h0 A) (hk : ((p1 &&& (2147483647 : Int32)) % (6 : Int32)) = (2 : Int32)) (hs : p2 = (0 : Int32)) :
    MetFree l x (head1 (Jvm.Cond.code x code maxLocals ret :: ws) room_1) (fun a U => a = #[(.int p1), (.int p2)] ∧ Z.Warmed39 U.vm ∧ U.heap = h0) (fun _ _ _ _ _ => True) (fun _ U o U' => ∃ v L, o = .returned v ∧ own_Q0 Z p1 p2 A h0 n0 v U'.heap L ∧ FrameEnd U o U' L room_1.cells room_1.slots) := by
  refine MetFree.of_bodySF (plainFor_of_name own_pn_com_example_affirm_rows_affirmrows_rules_ComparisonHoldsPinLaw) hisR ?_
  intro p e s m args below meth c s₁ Bd hml0 hP hK
  obtain ⟨rfl, hZ, hh⟩ := hP
  have hx := Bd.exec
  have hby := Bd.bytes
  have hml : c.maxLocals = 6 := hml0
  have hown : s.vm.findClass "com/example/affirm_rows/affirmrows/rules/ComparisonHoldsPinLaw" = some m.cls := findClass_of_methodNamed Bd.named
  have hnm := (name_of_methodNamed Bd.named Bd.method).1
  have hlk : meth.locks = false := BodyLoose.notSynchronized Bd
  have X0 : Stand p l e room_1 s m #[(.int p1), (.int p2)] below meth c s₁ [] 0 0 := Stand.of_body Bd
  have e0 : s₁.heap = h0 := by rw [← hh, Bd.state]; rfl
  have N0 := Fr.nil n0
  show own_Go p e below #[(.int p1), (.int p2)] s (fun _ U o U' => ∃ v L, o = .returned v ∧ own_Q0 Z p1 p2 A h0 n0 v U'.heap L ∧ FrameEnd U o U' L room_1.cells room_1.slots) (s₁.setTop (entryFrame m #[(.int p1), (.int p2)] maxLocals))
  refine own_st (V := s₁.setTop (mkF m 0 #[.val (.int p1), .val (.int p2), .unset, .unset, .unset, .unset] [])) (fun t k => castTop (by first | (simp [entryFrame, mkF, argsToLocals, Value.category, maxLocals]; done) | rfl) k) ?_
  refine own_st (V := s₁.setTop (mkF m 1 #[.val (.int p1), .val (.int p2), .unset, .unset, .unset, .unset] [(.int p1)])) (fun t k => XS.iloadN X0.here hx rfl (hb hby at_0) rfl k) ?_
  refine own_st (V := s₁.setTop (mkF m 3 #[.val (.int p1), .val (.int p2), .unset, .unset, .unset, .unset] [(.int (2147483647 : Int32)), (.int p1)])) (fun t k => X0.ldcInt hx hown (mvT hZ (hw _ (List.mem_of_getElem? (i := 0) rfl))) (g := (mkF m 1 #[.val (.int p1), .val (.int p2), .unset, .unset, .unset, .unset] [(.int p1)])) rfl (hb hby at_1) t k) ?_
  refine own_st (V := s₁.setTop (mkF m 4 #[.val (.int p1), .val (.int p2), .unset, .unset, .unset, .unset] [(.int (p1 &&& (2147483647 : Int32)))])) (fun t k => XS.iand X0.here hx rfl (hb hby at_3) rfl k) ?_
  refine own_st (V := s₁.setTop (mkF m 6 #[.val (.int p1), .val (.int p2), .unset, .unset, .unset, .unset] [(.int (6 : Int32)), (.int (p1 &&& (2147483647 : Int32)))])) (fun t k => XS.bipush X0.here hx rfl (hb hby at_4) k) ?_
  refine own_st (V := s₁.setTop (mkF m 7 #[.val (.int p1), .val (.int p2), .unset, .unset, .unset, .unset] [(.int ((p1 &&& (2147483647 : Int32)) % (6 : Int32)))])) (fun t k => Jvm.RoadKit.iremM X0 hx rfl (hb hby at_6) rfl (by decide) k) ?_
  rw [hk]
  refine own_st (V := s₁.setTop (mkF m 8 #[.val (.int p1), .val (.int p2), .val (.int (2 : Int32)), .unset, .unset, .unset] [])) (fun t k => XS.istoreN X0.here hx rfl (hb hby at_7) rfl (l' := #[.val (.int p1), .val (.int p2), .val (.int (2 : Int32)), .unset, .unset, .unset]) rfl k) ?_
  refine own_st (V := s₁.setTop (mkF m 9 #[.val (.int p1), .val (.int p2), .val (.int (2 : Int32)), .unset, .unset, .unset] [(.int (2 : Int32))])) (fun t k => XS.iloadN X0.here hx rfl (hb hby at_8) rfl k) ?_
  obtain ⟨_, _, ⟨T52, L52, k52, n52⟩, -, X52, ⟨Lc52, hQ52, l52, y52, z52⟩, st52⟩ := Jvm.LawKit.callS X0 hx (y := (⟨"com/example/affirm_rows/affirmrows/rules/ComparisonHoldsPinLaw", "pick", "(I)Lcom/example/affirm_rows/affirmrows/rules/Comparison;"⟩ : MethodName)) hown (mvT hZ (hw _ (List.mem_of_getElem? (i := 1) rfl))) (mvT hZ (hw _ (List.mem_of_getElem? (i := 2) rfl))) (mvT hZ (hw _ (List.mem_of_getElem? (i := 3) rfl))) (mvT hZ (hw _ (List.mem_of_getElem? (i := 4) rfl))) (by decide) (backOf (W := 0) (own_pick2 l Z a0 hw [] A h0 n0 Z0 En ) hZ (hw _ (List.mem_of_getElem? (i := 4) rfl)) (hw _ (List.mem_of_getElem? (i := 3) rfl)) (by decide) (by decide)) (g := (mkF m 9 #[.val (.int p1), .val (.int p2), .val (.int (2 : Int32)), .unset, .unset, .unset] [(.int (2 : Int32))])) rfl (by rw [hml]; rfl) (argsL := [(.int (2 : Int32))]) (rest := []) (lenOf own_pd1 rfl) rfl (by show 2 * 0 + _ ≤ _; exact Nat.le_of_eq rfl) (hb hby at_9) (fun _ _ => ⟨rfl, e0, (by decide : 0 + 0 ≤ _), (by decide : 0 + 0 ≤ _)⟩)
  dsimp only [Pt.U, Pt.locs, Pt.cells, Pt.slots] at X52 l52 y52 z52 st52 hQ52
  subst l52 y52 z52
  obtain ⟨rfl, N52q, e52⟩ := hQ52
  have N52 := Fr.app N0 N52q
  refine own_st (V := T52.setTop (mkF m 12 #[.val (.int p1), .val (.int p2), .val (.int (2 : Int32)), .unset, .unset, .unset] [(.ref (A 2))])) (fun t k => st52 _ k) ?_
  refine own_st (V := T52.setTop (mkF m 13 #[.val (.int p1), .val (.int p2), .val (.int (2 : Int32)), .val (.ref (A 2)), .unset, .unset] [])) (fun t k => XS.astoreN X52.here hx rfl (hb hby at_12) rfl rfl (l' := #[.val (.int p1), .val (.int p2), .val (.int (2 : Int32)), .val (.ref (A 2)), .unset, .unset]) rfl k) ?_
  refine own_st (V := T52.setTop (mkF m 14 #[.val (.int p1), .val (.int p2), .val (.int (2 : Int32)), .val (.ref (A 2)), .unset, .unset] [(.int p2)])) (fun t k => XS.iloadN X52.here hx rfl (hb hby at_13) rfl k) ?_
  refine own_st (V := T52.setTop (mkF m 21 #[.val (.int p1), .val (.int p2), .val (.int (2 : Int32)), .val (.ref (A 2)), .unset, .unset] [])) (fun t k => XS.ifYes X52.here hx rfl (pc0 := 14) (pc' := 21) rfl (hb hby at_14) rfl ((if0 _ _).trans (flt (own_z1 hs)).2.1) (by decide) (by decide) k) ?_
  refine own_st (V := T52.setTop (mkF m 22 #[.val (.int p1), .val (.int p2), .val (.int (2 : Int32)), .val (.ref (A 2)), .unset, .unset] [(.int p2)])) (fun t k => XS.iloadN X52.here hx rfl (hb hby at_21) rfl k) ?_
  refine own_st (V := T52.setTop (mkF m 25 #[.val (.int p1), .val (.int p2), .val (.int (2 : Int32)), .val (.ref (A 2)), .unset, .unset] [])) (fun t k => XS.ifNo X52.here hx rfl (hb hby at_22) rfl ((if0 _ _).trans (teq hs).2) k) ?_
  refine own_st (V := T52.setTop (mkF m 26 #[.val (.int p1), .val (.int p2), .val (.int (2 : Int32)), .val (.ref (A 2)), .unset, .unset] [(.int (1 : Int32))])) (fun t k => XS.iconst X52.here hx rfl (hb hby at_25) k) ?_
  refine own_st (V := T52.setTop (mkF m 30 #[.val (.int p1), .val (.int p2), .val (.int (2 : Int32)), .val (.ref (A 2)), .unset, .unset] [(.int (1 : Int32))])) (fun t k => XS.goto X52.here hx rfl (pc0 := 26) (pc' := 30) rfl (hb hby at_26) (by decide) (by decide) k) ?_
  refine own_st (V := T52.setTop (mkF m 32 #[.val (.int p1), .val (.int p2), .val (.int (2 : Int32)), .val (.ref (A 2)), .val (.int (1 : Int32)), .unset] [])) (fun t k => XS.istore X52.here hx rfl (hb hby at_30) rfl (l' := #[.val (.int p1), .val (.int p2), .val (.int (2 : Int32)), .val (.ref (A 2)), .val (.int (1 : Int32)), .unset]) rfl k) ?_
  refine own_st (V := T52.setTop (mkF m 33 #[.val (.int p1), .val (.int p2), .val (.int (2 : Int32)), .val (.ref (A 2)), .val (.int (1 : Int32)), .unset] [(.int (2 : Int32))])) (fun t k => XS.iloadN X52.here hx rfl (hb hby at_32) rfl k) ?_
  obtain ⟨_, _, ⟨T53, L53, k53, n53⟩, -, X53, ⟨Lc53, hQ53, l53, y53, z53⟩, st53⟩ := Jvm.LawKit.callS X52 hx (y := (⟨"com/example/affirm_rows/affirmrows/rules/ComparisonHoldsPinLaw", "admittedSigns", "(I)I"⟩ : MethodName)) hown (mvT hZ (hw _ (List.mem_of_getElem? (i := 8) rfl))) (mvT hZ (hw _ (List.mem_of_getElem? (i := 9) rfl))) (mvT hZ (hw _ (List.mem_of_getElem? (i := 3) rfl))) (mvT hZ (hw _ (List.mem_of_getElem? (i := 10) rfl))) (by decide) (backOf (W := 0) (own_ad2 l Z a0 hw [] A h0 n0 Z0 En ) hZ (hw _ (List.mem_of_getElem? (i := 10) rfl)) (hw _ (List.mem_of_getElem? (i := 3) rfl)) (by decide) (by decide)) (g := (mkF m 33 #[.val (.int p1), .val (.int p2), .val (.int (2 : Int32)), .val (.ref (A 2)), .val (.int (1 : Int32)), .unset] [(.int (2 : Int32))])) rfl (by rw [hml]; rfl) (argsL := [(.int (2 : Int32))]) (rest := []) (lenOf own_pd2 rfl) rfl (by show 2 * 0 + _ ≤ _; exact Nat.le_of_eq rfl) (hb hby at_33) (fun _ _ => ⟨rfl, e52, (by decide : 0 + 0 ≤ _), (by decide : 0 + 0 ≤ _)⟩)
  dsimp only [Pt.U, Pt.locs, Pt.cells, Pt.slots] at X53 l53 y53 z53 st53 hQ53
  subst l53 y53 z53
  obtain ⟨rfl, N53q, e53⟩ := hQ53
  have N53 := Fr.app N52 N53q
  refine own_st (V := T53.setTop (mkF m 36 #[.val (.int p1), .val (.int p2), .val (.int (2 : Int32)), .val (.ref (A 2)), .val (.int (1 : Int32)), .unset] [(.int (1 : Int32))])) (fun t k => st53 _ k) ?_
  refine own_st (V := T53.setTop (mkF m 38 #[.val (.int p1), .val (.int p2), .val (.int (2 : Int32)), .val (.ref (A 2)), .val (.int (1 : Int32)), .unset] [(.int (1 : Int32)), (.int (1 : Int32))])) (fun t k => XS.iload X53.here hx rfl (hb hby at_36) rfl k) ?_
  refine own_st (V := T53.setTop (mkF m 39 #[.val (.int p1), .val (.int p2), .val (.int (2 : Int32)), .val (.ref (A 2)), .val (.int (1 : Int32)), .unset] [(.int ((1 : Int32) >>> ((1 : Int32) &&& 31)))])) (fun t k => XS.ishr X53.here hx rfl (hb hby at_38) rfl k) ?_
  refine own_st (V := T53.setTop (mkF m 40 #[.val (.int p1), .val (.int p2), .val (.int (2 : Int32)), .val (.ref (A 2)), .val (.int (1 : Int32)), .unset] [(.int (1 : Int32)), (.int ((1 : Int32) >>> ((1 : Int32) &&& 31)))])) (fun t k => XS.iconst X53.here hx rfl (hb hby at_39) k) ?_
  refine own_st (V := T53.setTop (mkF m 41 #[.val (.int p1), .val (.int p2), .val (.int (2 : Int32)), .val (.ref (A 2)), .val (.int (1 : Int32)), .unset] [(.int (((1 : Int32) >>> ((1 : Int32) &&& 31)) &&& (1 : Int32)))])) (fun t k => XS.iand X53.here hx rfl (hb hby at_40) rfl k) ?_
  refine own_st (V := T53.setTop (mkF m 48 #[.val (.int p1), .val (.int p2), .val (.int (2 : Int32)), .val (.ref (A 2)), .val (.int (1 : Int32)), .unset] [])) (fun t k => XS.ifYes X53.here hx rfl (pc0 := 41) (pc' := 48) rfl (hb hby at_41) rfl ((if0 _ _).trans (teq (by decide +kernel : (((1 : Int32) >>> ((1 : Int32) &&& 31)) &&& (1 : Int32)) = (0 : Int32))).1) (by decide) (by decide) k) ?_
  refine own_st (V := T53.setTop (mkF m 49 #[.val (.int p1), .val (.int p2), .val (.int (2 : Int32)), .val (.ref (A 2)), .val (.int (1 : Int32)), .unset] [(.int (0 : Int32))])) (fun t k => XS.iconst X53.here hx rfl (hb hby at_48) k) ?_
  refine own_st (V := T53.setTop (mkF m 51 #[.val (.int p1), .val (.int p2), .val (.int (2 : Int32)), .val (.ref (A 2)), .val (.int (1 : Int32)), .val (.int (0 : Int32))] [])) (fun t k => XS.istore X53.here hx rfl (hb hby at_49) rfl (l' := #[.val (.int p1), .val (.int p2), .val (.int (2 : Int32)), .val (.ref (A 2)), .val (.int (1 : Int32)), .val (.int (0 : Int32))]) rfl k) ?_
  refine own_st (V := T53.setTop (mkF m 52 #[.val (.int p1), .val (.int p2), .val (.int (2 : Int32)), .val (.ref (A 2)), .val (.int (1 : Int32)), .val (.int (0 : Int32))] [(.ref (A 2))])) (fun t k => XS.aloadN X53.here hx rfl (hb hby at_51) rfl rfl k) ?_
  refine own_st (V := T53.setTop (mkF m 53 #[.val (.int p1), .val (.int p2), .val (.int (2 : Int32)), .val (.ref (A 2)), .val (.int (1 : Int32)), .val (.int (0 : Int32))] [(.int p2), (.ref (A 2))])) (fun t k => XS.iloadN X53.here hx rfl (hb hby at_52) rfl k) ?_
  obtain ⟨cq54, kq54, q54a, q54b, q54c⟩ := isOf hZ e53 (own_E En 2 (i := 2) (n := "LESS") rfl)
  obtain ⟨_, _, ⟨T54, L54, k54, n54⟩, -, X54, ⟨Lc54, hQ54, l54, y54, z54⟩, st54⟩ := X53.virtualBack hx (y := (⟨"com/example/affirm_rows/affirmrows/rules/Comparison", "holds", "(I)Z"⟩ : MethodName)) (z := (⟨"com/example/affirm_rows/affirmrows/rules/Comparison", "holds", "(I)Z"⟩ : MethodName)) hown (mvT hZ (hw _ (List.mem_of_getElem? (i := 11) rfl))) (mvT hZ (hw _ (List.mem_of_getElem? (i := 12) rfl))) (notFace_of_selects (args := #[]) (mvT hZ (hw _ (List.mem_of_getElem? (i := 14) rfl)))) (mvT hZ (hw _ (List.mem_of_getElem? (i := 14) rfl))) (mvT hZ (hw _ (List.mem_of_getElem? (i := 13) rfl))) (by decide) (backOf (W := 0) (own_ho2z l Z a0 hw [] p2 A h0 n0 Z0 En hs) hZ (hw _ (List.mem_of_getElem? (i := 15) rfl)) (hw _ (List.mem_of_getElem? (i := 6) rfl)) (by decide) (by decide)) q54a q54c (g := (mkF m 53 #[.val (.int p1), .val (.int p2), .val (.int (2 : Int32)), .val (.ref (A 2)), .val (.int (1 : Int32)), .val (.int (0 : Int32))] [(.int p2), (.ref (A 2))])) rfl (by rw [hml]; rfl) (Steps.refl _) (argsL := [(.int p2)]) (rest := []) (lenOf own_pd3 rfl) rfl (by show 2 * 0 + _ ≤ _; exact Nat.le_of_eq rfl) (hb hby at_53) (fun _ _ => ⟨rfl, e53, (by decide : 0 + 0 ≤ _), (by decide : 0 + 0 ≤ _)⟩)
  dsimp only [Pt.U, Pt.locs, Pt.cells, Pt.slots] at X54 l54 y54 z54 st54 hQ54
  subst l54 y54 z54
  obtain ⟨rfl, N54q, e54⟩ := hQ54
  have N54 := Fr.app N53 N54q
  refine own_st (V := T54.setTop (mkF m 56 #[.val (.int p1), .val (.int p2), .val (.int (2 : Int32)), .val (.ref (A 2)), .val (.int (1 : Int32)), .val (.int (0 : Int32))] [(.int (0 : Int32))])) (fun t k => st54.trans k) ?_
  refine own_st (V := T54.setTop (mkF m 58 #[.val (.int p1), .val (.int p2), .val (.int (2 : Int32)), .val (.ref (A 2)), .val (.int (1 : Int32)), .val (.int (0 : Int32))] [(.int (0 : Int32)), (.int (0 : Int32))])) (fun t k => XS.iload X54.here hx rfl (hb hby at_56) rfl k) ?_
  refine own_st (V := T54.setTop (mkF m 61 #[.val (.int p1), .val (.int p2), .val (.int (2 : Int32)), .val (.ref (A 2)), .val (.int (1 : Int32)), .val (.int (0 : Int32))] [])) (fun t k => XS.icmpNo X54.here hx rfl (hb hby at_58) rfl (teq (by decide : (0 : Int32) = (0 : Int32))).2 k) ?_
  refine own_st (V := T54.setTop (mkF m 62 #[.val (.int p1), .val (.int p2), .val (.int (2 : Int32)), .val (.ref (A 2)), .val (.int (1 : Int32)), .val (.int (0 : Int32))] [(.int (1 : Int32))])) (fun t k => XS.iconst X54.here hx rfl (hb hby at_61) k) ?_
  refine own_st (V := T54.setTop (mkF m 66 #[.val (.int p1), .val (.int p2), .val (.int (2 : Int32)), .val (.ref (A 2)), .val (.int (1 : Int32)), .val (.int (0 : Int32))] [(.int (1 : Int32))])) (fun t k => XS.goto X54.here hx rfl (pc0 := 62) (pc' := 66) rfl (hb hby at_62) (by decide) (by decide) k) ?_
  exact own_ret X54 hx hlk Bd.returns (by decide +kernel) (Or.inl ⟨rfl, by simp, _, rfl⟩) (hb hby at_66) (by decide) (by decide) (by show own_Q0 Z p1 p2 A h0 n0 _ T54.heap _; rw [e54]; exact ⟨rfl, N54⟩)
set_option maxRecDepth 65536 in
set_option maxHeartbeats 40000000 in
theorem own_law2p (l : Launch) (Z : State) (a0 : Array Value) (hw : ∀ d ∈ tables_1, d.before a0 Z = true) (ws : List Jvm.Cond) (p1 : Int32) (p2 : Int32) (A : Nat → Addr) (h0 : Heap) (n0 : Nat) (Z0 : n0 ≤ h0.size) (En : own_En Z h0 A) (hk : ((p1 &&& (2147483647 : Int32)) % (6 : Int32)) = (2 : Int32)) (hs : (0 : Int32) < p2) :
    MetFree l x (head1 (Jvm.Cond.code x code maxLocals ret :: ws) room_1) (fun a U => a = #[(.int p1), (.int p2)] ∧ Z.Warmed39 U.vm ∧ U.heap = h0) (fun _ _ _ _ _ => True) (fun _ U o U' => ∃ v L, o = .returned v ∧ own_Q0 Z p1 p2 A h0 n0 v U'.heap L ∧ FrameEnd U o U' L room_1.cells room_1.slots) := by
  refine MetFree.of_bodySF (plainFor_of_name own_pn_com_example_affirm_rows_affirmrows_rules_ComparisonHoldsPinLaw) hisR ?_
  intro p e s m args below meth c s₁ Bd hml0 hP hK
  obtain ⟨rfl, hZ, hh⟩ := hP
  have hx := Bd.exec
  have hby := Bd.bytes
  have hml : c.maxLocals = 6 := hml0
  have hown : s.vm.findClass "com/example/affirm_rows/affirmrows/rules/ComparisonHoldsPinLaw" = some m.cls := findClass_of_methodNamed Bd.named
  have hnm := (name_of_methodNamed Bd.named Bd.method).1
  have hlk : meth.locks = false := BodyLoose.notSynchronized Bd
  have X0 : Stand p l e room_1 s m #[(.int p1), (.int p2)] below meth c s₁ [] 0 0 := Stand.of_body Bd
  have e0 : s₁.heap = h0 := by rw [← hh, Bd.state]; rfl
  have N0 := Fr.nil n0
  show own_Go p e below #[(.int p1), (.int p2)] s (fun _ U o U' => ∃ v L, o = .returned v ∧ own_Q0 Z p1 p2 A h0 n0 v U'.heap L ∧ FrameEnd U o U' L room_1.cells room_1.slots) (s₁.setTop (entryFrame m #[(.int p1), (.int p2)] maxLocals))
  refine own_st (V := s₁.setTop (mkF m 0 #[.val (.int p1), .val (.int p2), .unset, .unset, .unset, .unset] [])) (fun t k => castTop (by first | (simp [entryFrame, mkF, argsToLocals, Value.category, maxLocals]; done) | rfl) k) ?_
  refine own_st (V := s₁.setTop (mkF m 1 #[.val (.int p1), .val (.int p2), .unset, .unset, .unset, .unset] [(.int p1)])) (fun t k => XS.iloadN X0.here hx rfl (hb hby at_0) rfl k) ?_
  refine own_st (V := s₁.setTop (mkF m 3 #[.val (.int p1), .val (.int p2), .unset, .unset, .unset, .unset] [(.int (2147483647 : Int32)), (.int p1)])) (fun t k => X0.ldcInt hx hown (mvT hZ (hw _ (List.mem_of_getElem? (i := 0) rfl))) (g := (mkF m 1 #[.val (.int p1), .val (.int p2), .unset, .unset, .unset, .unset] [(.int p1)])) rfl (hb hby at_1) t k) ?_
  refine own_st (V := s₁.setTop (mkF m 4 #[.val (.int p1), .val (.int p2), .unset, .unset, .unset, .unset] [(.int (p1 &&& (2147483647 : Int32)))])) (fun t k => XS.iand X0.here hx rfl (hb hby at_3) rfl k) ?_
  refine own_st (V := s₁.setTop (mkF m 6 #[.val (.int p1), .val (.int p2), .unset, .unset, .unset, .unset] [(.int (6 : Int32)), (.int (p1 &&& (2147483647 : Int32)))])) (fun t k => XS.bipush X0.here hx rfl (hb hby at_4) k) ?_
  refine own_st (V := s₁.setTop (mkF m 7 #[.val (.int p1), .val (.int p2), .unset, .unset, .unset, .unset] [(.int ((p1 &&& (2147483647 : Int32)) % (6 : Int32)))])) (fun t k => Jvm.RoadKit.iremM X0 hx rfl (hb hby at_6) rfl (by decide) k) ?_
  rw [hk]
  refine own_st (V := s₁.setTop (mkF m 8 #[.val (.int p1), .val (.int p2), .val (.int (2 : Int32)), .unset, .unset, .unset] [])) (fun t k => XS.istoreN X0.here hx rfl (hb hby at_7) rfl (l' := #[.val (.int p1), .val (.int p2), .val (.int (2 : Int32)), .unset, .unset, .unset]) rfl k) ?_
  refine own_st (V := s₁.setTop (mkF m 9 #[.val (.int p1), .val (.int p2), .val (.int (2 : Int32)), .unset, .unset, .unset] [(.int (2 : Int32))])) (fun t k => XS.iloadN X0.here hx rfl (hb hby at_8) rfl k) ?_
  obtain ⟨_, _, ⟨T55, L55, k55, n55⟩, -, X55, ⟨Lc55, hQ55, l55, y55, z55⟩, st55⟩ := Jvm.LawKit.callS X0 hx (y := (⟨"com/example/affirm_rows/affirmrows/rules/ComparisonHoldsPinLaw", "pick", "(I)Lcom/example/affirm_rows/affirmrows/rules/Comparison;"⟩ : MethodName)) hown (mvT hZ (hw _ (List.mem_of_getElem? (i := 1) rfl))) (mvT hZ (hw _ (List.mem_of_getElem? (i := 2) rfl))) (mvT hZ (hw _ (List.mem_of_getElem? (i := 3) rfl))) (mvT hZ (hw _ (List.mem_of_getElem? (i := 4) rfl))) (by decide) (backOf (W := 0) (own_pick2 l Z a0 hw [] A h0 n0 Z0 En ) hZ (hw _ (List.mem_of_getElem? (i := 4) rfl)) (hw _ (List.mem_of_getElem? (i := 3) rfl)) (by decide) (by decide)) (g := (mkF m 9 #[.val (.int p1), .val (.int p2), .val (.int (2 : Int32)), .unset, .unset, .unset] [(.int (2 : Int32))])) rfl (by rw [hml]; rfl) (argsL := [(.int (2 : Int32))]) (rest := []) (lenOf own_pd1 rfl) rfl (by show 2 * 0 + _ ≤ _; exact Nat.le_of_eq rfl) (hb hby at_9) (fun _ _ => ⟨rfl, e0, (by decide : 0 + 0 ≤ _), (by decide : 0 + 0 ≤ _)⟩)
  dsimp only [Pt.U, Pt.locs, Pt.cells, Pt.slots] at X55 l55 y55 z55 st55 hQ55
  subst l55 y55 z55
  obtain ⟨rfl, N55q, e55⟩ := hQ55
  have N55 := Fr.app N0 N55q
  refine own_st (V := T55.setTop (mkF m 12 #[.val (.int p1), .val (.int p2), .val (.int (2 : Int32)), .unset, .unset, .unset] [(.ref (A 2))])) (fun t k => st55 _ k) ?_
  refine own_st (V := T55.setTop (mkF m 13 #[.val (.int p1), .val (.int p2), .val (.int (2 : Int32)), .val (.ref (A 2)), .unset, .unset] [])) (fun t k => XS.astoreN X55.here hx rfl (hb hby at_12) rfl rfl (l' := #[.val (.int p1), .val (.int p2), .val (.int (2 : Int32)), .val (.ref (A 2)), .unset, .unset]) rfl k) ?_
  refine own_st (V := T55.setTop (mkF m 14 #[.val (.int p1), .val (.int p2), .val (.int (2 : Int32)), .val (.ref (A 2)), .unset, .unset] [(.int p2)])) (fun t k => XS.iloadN X55.here hx rfl (hb hby at_13) rfl k) ?_
  refine own_st (V := T55.setTop (mkF m 21 #[.val (.int p1), .val (.int p2), .val (.int (2 : Int32)), .val (.ref (A 2)), .unset, .unset] [])) (fun t k => XS.ifYes X55.here hx rfl (pc0 := 14) (pc' := 21) rfl (hb hby at_14) rfl ((if0 _ _).trans (flt (own_p1 hs)).2.1) (by decide) (by decide) k) ?_
  refine own_st (V := T55.setTop (mkF m 22 #[.val (.int p1), .val (.int p2), .val (.int (2 : Int32)), .val (.ref (A 2)), .unset, .unset] [(.int p2)])) (fun t k => XS.iloadN X55.here hx rfl (hb hby at_21) rfl k) ?_
  refine own_st (V := T55.setTop (mkF m 29 #[.val (.int p1), .val (.int p2), .val (.int (2 : Int32)), .val (.ref (A 2)), .unset, .unset] [])) (fun t k => XS.ifYes X55.here hx rfl (pc0 := 22) (pc' := 29) rfl (hb hby at_22) rfl ((if0 _ _).trans (feq (own_p2 hs)).2) (by decide) (by decide) k) ?_
  refine own_st (V := T55.setTop (mkF m 30 #[.val (.int p1), .val (.int p2), .val (.int (2 : Int32)), .val (.ref (A 2)), .unset, .unset] [(.int (2 : Int32))])) (fun t k => XS.iconst X55.here hx rfl (hb hby at_29) k) ?_
  refine own_st (V := T55.setTop (mkF m 32 #[.val (.int p1), .val (.int p2), .val (.int (2 : Int32)), .val (.ref (A 2)), .val (.int (2 : Int32)), .unset] [])) (fun t k => XS.istore X55.here hx rfl (hb hby at_30) rfl (l' := #[.val (.int p1), .val (.int p2), .val (.int (2 : Int32)), .val (.ref (A 2)), .val (.int (2 : Int32)), .unset]) rfl k) ?_
  refine own_st (V := T55.setTop (mkF m 33 #[.val (.int p1), .val (.int p2), .val (.int (2 : Int32)), .val (.ref (A 2)), .val (.int (2 : Int32)), .unset] [(.int (2 : Int32))])) (fun t k => XS.iloadN X55.here hx rfl (hb hby at_32) rfl k) ?_
  obtain ⟨_, _, ⟨T56, L56, k56, n56⟩, -, X56, ⟨Lc56, hQ56, l56, y56, z56⟩, st56⟩ := Jvm.LawKit.callS X55 hx (y := (⟨"com/example/affirm_rows/affirmrows/rules/ComparisonHoldsPinLaw", "admittedSigns", "(I)I"⟩ : MethodName)) hown (mvT hZ (hw _ (List.mem_of_getElem? (i := 8) rfl))) (mvT hZ (hw _ (List.mem_of_getElem? (i := 9) rfl))) (mvT hZ (hw _ (List.mem_of_getElem? (i := 3) rfl))) (mvT hZ (hw _ (List.mem_of_getElem? (i := 10) rfl))) (by decide) (backOf (W := 0) (own_ad2 l Z a0 hw [] A h0 n0 Z0 En ) hZ (hw _ (List.mem_of_getElem? (i := 10) rfl)) (hw _ (List.mem_of_getElem? (i := 3) rfl)) (by decide) (by decide)) (g := (mkF m 33 #[.val (.int p1), .val (.int p2), .val (.int (2 : Int32)), .val (.ref (A 2)), .val (.int (2 : Int32)), .unset] [(.int (2 : Int32))])) rfl (by rw [hml]; rfl) (argsL := [(.int (2 : Int32))]) (rest := []) (lenOf own_pd2 rfl) rfl (by show 2 * 0 + _ ≤ _; exact Nat.le_of_eq rfl) (hb hby at_33) (fun _ _ => ⟨rfl, e55, (by decide : 0 + 0 ≤ _), (by decide : 0 + 0 ≤ _)⟩)
  dsimp only [Pt.U, Pt.locs, Pt.cells, Pt.slots] at X56 l56 y56 z56 st56 hQ56
  subst l56 y56 z56
  obtain ⟨rfl, N56q, e56⟩ := hQ56
  have N56 := Fr.app N55 N56q
  refine own_st (V := T56.setTop (mkF m 36 #[.val (.int p1), .val (.int p2), .val (.int (2 : Int32)), .val (.ref (A 2)), .val (.int (2 : Int32)), .unset] [(.int (1 : Int32))])) (fun t k => st56 _ k) ?_
  refine own_st (V := T56.setTop (mkF m 38 #[.val (.int p1), .val (.int p2), .val (.int (2 : Int32)), .val (.ref (A 2)), .val (.int (2 : Int32)), .unset] [(.int (2 : Int32)), (.int (1 : Int32))])) (fun t k => XS.iload X56.here hx rfl (hb hby at_36) rfl k) ?_
  refine own_st (V := T56.setTop (mkF m 39 #[.val (.int p1), .val (.int p2), .val (.int (2 : Int32)), .val (.ref (A 2)), .val (.int (2 : Int32)), .unset] [(.int ((1 : Int32) >>> ((2 : Int32) &&& 31)))])) (fun t k => XS.ishr X56.here hx rfl (hb hby at_38) rfl k) ?_
  refine own_st (V := T56.setTop (mkF m 40 #[.val (.int p1), .val (.int p2), .val (.int (2 : Int32)), .val (.ref (A 2)), .val (.int (2 : Int32)), .unset] [(.int (1 : Int32)), (.int ((1 : Int32) >>> ((2 : Int32) &&& 31)))])) (fun t k => XS.iconst X56.here hx rfl (hb hby at_39) k) ?_
  refine own_st (V := T56.setTop (mkF m 41 #[.val (.int p1), .val (.int p2), .val (.int (2 : Int32)), .val (.ref (A 2)), .val (.int (2 : Int32)), .unset] [(.int (((1 : Int32) >>> ((2 : Int32) &&& 31)) &&& (1 : Int32)))])) (fun t k => XS.iand X56.here hx rfl (hb hby at_40) rfl k) ?_
  refine own_st (V := T56.setTop (mkF m 48 #[.val (.int p1), .val (.int p2), .val (.int (2 : Int32)), .val (.ref (A 2)), .val (.int (2 : Int32)), .unset] [])) (fun t k => XS.ifYes X56.here hx rfl (pc0 := 41) (pc' := 48) rfl (hb hby at_41) rfl ((if0 _ _).trans (teq (by decide +kernel : (((1 : Int32) >>> ((2 : Int32) &&& 31)) &&& (1 : Int32)) = (0 : Int32))).1) (by decide) (by decide) k) ?_
  refine own_st (V := T56.setTop (mkF m 49 #[.val (.int p1), .val (.int p2), .val (.int (2 : Int32)), .val (.ref (A 2)), .val (.int (2 : Int32)), .unset] [(.int (0 : Int32))])) (fun t k => XS.iconst X56.here hx rfl (hb hby at_48) k) ?_
  refine own_st (V := T56.setTop (mkF m 51 #[.val (.int p1), .val (.int p2), .val (.int (2 : Int32)), .val (.ref (A 2)), .val (.int (2 : Int32)), .val (.int (0 : Int32))] [])) (fun t k => XS.istore X56.here hx rfl (hb hby at_49) rfl (l' := #[.val (.int p1), .val (.int p2), .val (.int (2 : Int32)), .val (.ref (A 2)), .val (.int (2 : Int32)), .val (.int (0 : Int32))]) rfl k) ?_
  refine own_st (V := T56.setTop (mkF m 52 #[.val (.int p1), .val (.int p2), .val (.int (2 : Int32)), .val (.ref (A 2)), .val (.int (2 : Int32)), .val (.int (0 : Int32))] [(.ref (A 2))])) (fun t k => XS.aloadN X56.here hx rfl (hb hby at_51) rfl rfl k) ?_
  refine own_st (V := T56.setTop (mkF m 53 #[.val (.int p1), .val (.int p2), .val (.int (2 : Int32)), .val (.ref (A 2)), .val (.int (2 : Int32)), .val (.int (0 : Int32))] [(.int p2), (.ref (A 2))])) (fun t k => XS.iloadN X56.here hx rfl (hb hby at_52) rfl k) ?_
  obtain ⟨cq57, kq57, q57a, q57b, q57c⟩ := isOf hZ e56 (own_E En 2 (i := 2) (n := "LESS") rfl)
  obtain ⟨_, _, ⟨T57, L57, k57, n57⟩, -, X57, ⟨Lc57, hQ57, l57, y57, z57⟩, st57⟩ := X56.virtualBack hx (y := (⟨"com/example/affirm_rows/affirmrows/rules/Comparison", "holds", "(I)Z"⟩ : MethodName)) (z := (⟨"com/example/affirm_rows/affirmrows/rules/Comparison", "holds", "(I)Z"⟩ : MethodName)) hown (mvT hZ (hw _ (List.mem_of_getElem? (i := 11) rfl))) (mvT hZ (hw _ (List.mem_of_getElem? (i := 12) rfl))) (notFace_of_selects (args := #[]) (mvT hZ (hw _ (List.mem_of_getElem? (i := 14) rfl)))) (mvT hZ (hw _ (List.mem_of_getElem? (i := 14) rfl))) (mvT hZ (hw _ (List.mem_of_getElem? (i := 13) rfl))) (by decide) (backOf (W := 0) (own_ho2p l Z a0 hw [] p2 A h0 n0 Z0 En hs) hZ (hw _ (List.mem_of_getElem? (i := 15) rfl)) (hw _ (List.mem_of_getElem? (i := 6) rfl)) (by decide) (by decide)) q57a q57c (g := (mkF m 53 #[.val (.int p1), .val (.int p2), .val (.int (2 : Int32)), .val (.ref (A 2)), .val (.int (2 : Int32)), .val (.int (0 : Int32))] [(.int p2), (.ref (A 2))])) rfl (by rw [hml]; rfl) (Steps.refl _) (argsL := [(.int p2)]) (rest := []) (lenOf own_pd3 rfl) rfl (by show 2 * 0 + _ ≤ _; exact Nat.le_of_eq rfl) (hb hby at_53) (fun _ _ => ⟨rfl, e56, (by decide : 0 + 0 ≤ _), (by decide : 0 + 0 ≤ _)⟩)
  dsimp only [Pt.U, Pt.locs, Pt.cells, Pt.slots] at X57 l57 y57 z57 st57 hQ57
  subst l57 y57 z57
  obtain ⟨rfl, N57q, e57⟩ := hQ57
  have N57 := Fr.app N56 N57q
  refine own_st (V := T57.setTop (mkF m 56 #[.val (.int p1), .val (.int p2), .val (.int (2 : Int32)), .val (.ref (A 2)), .val (.int (2 : Int32)), .val (.int (0 : Int32))] [(.int (0 : Int32))])) (fun t k => st57.trans k) ?_
  refine own_st (V := T57.setTop (mkF m 58 #[.val (.int p1), .val (.int p2), .val (.int (2 : Int32)), .val (.ref (A 2)), .val (.int (2 : Int32)), .val (.int (0 : Int32))] [(.int (0 : Int32)), (.int (0 : Int32))])) (fun t k => XS.iload X57.here hx rfl (hb hby at_56) rfl k) ?_
  refine own_st (V := T57.setTop (mkF m 61 #[.val (.int p1), .val (.int p2), .val (.int (2 : Int32)), .val (.ref (A 2)), .val (.int (2 : Int32)), .val (.int (0 : Int32))] [])) (fun t k => XS.icmpNo X57.here hx rfl (hb hby at_58) rfl (teq (by decide : (0 : Int32) = (0 : Int32))).2 k) ?_
  refine own_st (V := T57.setTop (mkF m 62 #[.val (.int p1), .val (.int p2), .val (.int (2 : Int32)), .val (.ref (A 2)), .val (.int (2 : Int32)), .val (.int (0 : Int32))] [(.int (1 : Int32))])) (fun t k => XS.iconst X57.here hx rfl (hb hby at_61) k) ?_
  refine own_st (V := T57.setTop (mkF m 66 #[.val (.int p1), .val (.int p2), .val (.int (2 : Int32)), .val (.ref (A 2)), .val (.int (2 : Int32)), .val (.int (0 : Int32))] [(.int (1 : Int32))])) (fun t k => XS.goto X57.here hx rfl (pc0 := 62) (pc' := 66) rfl (hb hby at_62) (by decide) (by decide) k) ?_
  exact own_ret X57 hx hlk Bd.returns (by decide +kernel) (Or.inl ⟨rfl, by simp, _, rfl⟩) (hb hby at_66) (by decide) (by decide) (by show own_Q0 Z p1 p2 A h0 n0 _ T57.heap _; rw [e57]; exact ⟨rfl, N57⟩)
set_option maxRecDepth 65536 in
set_option maxHeartbeats 40000000 in
theorem own_law3n (l : Launch) (Z : State) (a0 : Array Value) (hw : ∀ d ∈ tables_1, d.before a0 Z = true) (ws : List Jvm.Cond) (p1 : Int32) (p2 : Int32) (A : Nat → Addr) (h0 : Heap) (n0 : Nat) (Z0 : n0 ≤ h0.size) (En : own_En Z h0 A) (hk : ((p1 &&& (2147483647 : Int32)) % (6 : Int32)) = (3 : Int32)) (hs : p2 < (0 : Int32)) :
    MetFree l x (head1 (Jvm.Cond.code x code maxLocals ret :: ws) room_1) (fun a U => a = #[(.int p1), (.int p2)] ∧ Z.Warmed39 U.vm ∧ U.heap = h0) (fun _ _ _ _ _ => True) (fun _ U o U' => ∃ v L, o = .returned v ∧ own_Q0 Z p1 p2 A h0 n0 v U'.heap L ∧ FrameEnd U o U' L room_1.cells room_1.slots) := by
  refine MetFree.of_bodySF (plainFor_of_name own_pn_com_example_affirm_rows_affirmrows_rules_ComparisonHoldsPinLaw) hisR ?_
  intro p e s m args below meth c s₁ Bd hml0 hP hK
  obtain ⟨rfl, hZ, hh⟩ := hP
  have hx := Bd.exec
  have hby := Bd.bytes
  have hml : c.maxLocals = 6 := hml0
  have hown : s.vm.findClass "com/example/affirm_rows/affirmrows/rules/ComparisonHoldsPinLaw" = some m.cls := findClass_of_methodNamed Bd.named
  have hnm := (name_of_methodNamed Bd.named Bd.method).1
  have hlk : meth.locks = false := BodyLoose.notSynchronized Bd
  have X0 : Stand p l e room_1 s m #[(.int p1), (.int p2)] below meth c s₁ [] 0 0 := Stand.of_body Bd
  have e0 : s₁.heap = h0 := by rw [← hh, Bd.state]; rfl
  have N0 := Fr.nil n0
  show own_Go p e below #[(.int p1), (.int p2)] s (fun _ U o U' => ∃ v L, o = .returned v ∧ own_Q0 Z p1 p2 A h0 n0 v U'.heap L ∧ FrameEnd U o U' L room_1.cells room_1.slots) (s₁.setTop (entryFrame m #[(.int p1), (.int p2)] maxLocals))
  refine own_st (V := s₁.setTop (mkF m 0 #[.val (.int p1), .val (.int p2), .unset, .unset, .unset, .unset] [])) (fun t k => castTop (by first | (simp [entryFrame, mkF, argsToLocals, Value.category, maxLocals]; done) | rfl) k) ?_
  refine own_st (V := s₁.setTop (mkF m 1 #[.val (.int p1), .val (.int p2), .unset, .unset, .unset, .unset] [(.int p1)])) (fun t k => XS.iloadN X0.here hx rfl (hb hby at_0) rfl k) ?_
  refine own_st (V := s₁.setTop (mkF m 3 #[.val (.int p1), .val (.int p2), .unset, .unset, .unset, .unset] [(.int (2147483647 : Int32)), (.int p1)])) (fun t k => X0.ldcInt hx hown (mvT hZ (hw _ (List.mem_of_getElem? (i := 0) rfl))) (g := (mkF m 1 #[.val (.int p1), .val (.int p2), .unset, .unset, .unset, .unset] [(.int p1)])) rfl (hb hby at_1) t k) ?_
  refine own_st (V := s₁.setTop (mkF m 4 #[.val (.int p1), .val (.int p2), .unset, .unset, .unset, .unset] [(.int (p1 &&& (2147483647 : Int32)))])) (fun t k => XS.iand X0.here hx rfl (hb hby at_3) rfl k) ?_
  refine own_st (V := s₁.setTop (mkF m 6 #[.val (.int p1), .val (.int p2), .unset, .unset, .unset, .unset] [(.int (6 : Int32)), (.int (p1 &&& (2147483647 : Int32)))])) (fun t k => XS.bipush X0.here hx rfl (hb hby at_4) k) ?_
  refine own_st (V := s₁.setTop (mkF m 7 #[.val (.int p1), .val (.int p2), .unset, .unset, .unset, .unset] [(.int ((p1 &&& (2147483647 : Int32)) % (6 : Int32)))])) (fun t k => Jvm.RoadKit.iremM X0 hx rfl (hb hby at_6) rfl (by decide) k) ?_
  rw [hk]
  refine own_st (V := s₁.setTop (mkF m 8 #[.val (.int p1), .val (.int p2), .val (.int (3 : Int32)), .unset, .unset, .unset] [])) (fun t k => XS.istoreN X0.here hx rfl (hb hby at_7) rfl (l' := #[.val (.int p1), .val (.int p2), .val (.int (3 : Int32)), .unset, .unset, .unset]) rfl k) ?_
  refine own_st (V := s₁.setTop (mkF m 9 #[.val (.int p1), .val (.int p2), .val (.int (3 : Int32)), .unset, .unset, .unset] [(.int (3 : Int32))])) (fun t k => XS.iloadN X0.here hx rfl (hb hby at_8) rfl k) ?_
  obtain ⟨_, _, ⟨T58, L58, k58, n58⟩, -, X58, ⟨Lc58, hQ58, l58, y58, z58⟩, st58⟩ := Jvm.LawKit.callS X0 hx (y := (⟨"com/example/affirm_rows/affirmrows/rules/ComparisonHoldsPinLaw", "pick", "(I)Lcom/example/affirm_rows/affirmrows/rules/Comparison;"⟩ : MethodName)) hown (mvT hZ (hw _ (List.mem_of_getElem? (i := 1) rfl))) (mvT hZ (hw _ (List.mem_of_getElem? (i := 2) rfl))) (mvT hZ (hw _ (List.mem_of_getElem? (i := 3) rfl))) (mvT hZ (hw _ (List.mem_of_getElem? (i := 4) rfl))) (by decide) (backOf (W := 0) (own_pick3 l Z a0 hw [] A h0 n0 Z0 En ) hZ (hw _ (List.mem_of_getElem? (i := 4) rfl)) (hw _ (List.mem_of_getElem? (i := 3) rfl)) (by decide) (by decide)) (g := (mkF m 9 #[.val (.int p1), .val (.int p2), .val (.int (3 : Int32)), .unset, .unset, .unset] [(.int (3 : Int32))])) rfl (by rw [hml]; rfl) (argsL := [(.int (3 : Int32))]) (rest := []) (lenOf own_pd1 rfl) rfl (by show 2 * 0 + _ ≤ _; exact Nat.le_of_eq rfl) (hb hby at_9) (fun _ _ => ⟨rfl, e0, (by decide : 0 + 0 ≤ _), (by decide : 0 + 0 ≤ _)⟩)
  dsimp only [Pt.U, Pt.locs, Pt.cells, Pt.slots] at X58 l58 y58 z58 st58 hQ58
  subst l58 y58 z58
  obtain ⟨rfl, N58q, e58⟩ := hQ58
  have N58 := Fr.app N0 N58q
  refine own_st (V := T58.setTop (mkF m 12 #[.val (.int p1), .val (.int p2), .val (.int (3 : Int32)), .unset, .unset, .unset] [(.ref (A 3))])) (fun t k => st58 _ k) ?_
  refine own_st (V := T58.setTop (mkF m 13 #[.val (.int p1), .val (.int p2), .val (.int (3 : Int32)), .val (.ref (A 3)), .unset, .unset] [])) (fun t k => XS.astoreN X58.here hx rfl (hb hby at_12) rfl rfl (l' := #[.val (.int p1), .val (.int p2), .val (.int (3 : Int32)), .val (.ref (A 3)), .unset, .unset]) rfl k) ?_
  refine own_st (V := T58.setTop (mkF m 14 #[.val (.int p1), .val (.int p2), .val (.int (3 : Int32)), .val (.ref (A 3)), .unset, .unset] [(.int p2)])) (fun t k => XS.iloadN X58.here hx rfl (hb hby at_13) rfl k) ?_
  refine own_st (V := T58.setTop (mkF m 17 #[.val (.int p1), .val (.int p2), .val (.int (3 : Int32)), .val (.ref (A 3)), .unset, .unset] [])) (fun t k => XS.ifNo X58.here hx rfl (hb hby at_14) rfl ((if0 _ _).trans (tlt hs).2.1) k) ?_
  refine own_st (V := T58.setTop (mkF m 18 #[.val (.int p1), .val (.int p2), .val (.int (3 : Int32)), .val (.ref (A 3)), .unset, .unset] [(.int (0 : Int32))])) (fun t k => XS.iconst X58.here hx rfl (hb hby at_17) k) ?_
  refine own_st (V := T58.setTop (mkF m 30 #[.val (.int p1), .val (.int p2), .val (.int (3 : Int32)), .val (.ref (A 3)), .unset, .unset] [(.int (0 : Int32))])) (fun t k => XS.goto X58.here hx rfl (pc0 := 18) (pc' := 30) rfl (hb hby at_18) (by decide) (by decide) k) ?_
  refine own_st (V := T58.setTop (mkF m 32 #[.val (.int p1), .val (.int p2), .val (.int (3 : Int32)), .val (.ref (A 3)), .val (.int (0 : Int32)), .unset] [])) (fun t k => XS.istore X58.here hx rfl (hb hby at_30) rfl (l' := #[.val (.int p1), .val (.int p2), .val (.int (3 : Int32)), .val (.ref (A 3)), .val (.int (0 : Int32)), .unset]) rfl k) ?_
  refine own_st (V := T58.setTop (mkF m 33 #[.val (.int p1), .val (.int p2), .val (.int (3 : Int32)), .val (.ref (A 3)), .val (.int (0 : Int32)), .unset] [(.int (3 : Int32))])) (fun t k => XS.iloadN X58.here hx rfl (hb hby at_32) rfl k) ?_
  obtain ⟨_, _, ⟨T59, L59, k59, n59⟩, -, X59, ⟨Lc59, hQ59, l59, y59, z59⟩, st59⟩ := Jvm.LawKit.callS X58 hx (y := (⟨"com/example/affirm_rows/affirmrows/rules/ComparisonHoldsPinLaw", "admittedSigns", "(I)I"⟩ : MethodName)) hown (mvT hZ (hw _ (List.mem_of_getElem? (i := 8) rfl))) (mvT hZ (hw _ (List.mem_of_getElem? (i := 9) rfl))) (mvT hZ (hw _ (List.mem_of_getElem? (i := 3) rfl))) (mvT hZ (hw _ (List.mem_of_getElem? (i := 10) rfl))) (by decide) (backOf (W := 0) (own_ad3 l Z a0 hw [] A h0 n0 Z0 En ) hZ (hw _ (List.mem_of_getElem? (i := 10) rfl)) (hw _ (List.mem_of_getElem? (i := 3) rfl)) (by decide) (by decide)) (g := (mkF m 33 #[.val (.int p1), .val (.int p2), .val (.int (3 : Int32)), .val (.ref (A 3)), .val (.int (0 : Int32)), .unset] [(.int (3 : Int32))])) rfl (by rw [hml]; rfl) (argsL := [(.int (3 : Int32))]) (rest := []) (lenOf own_pd2 rfl) rfl (by show 2 * 0 + _ ≤ _; exact Nat.le_of_eq rfl) (hb hby at_33) (fun _ _ => ⟨rfl, e58, (by decide : 0 + 0 ≤ _), (by decide : 0 + 0 ≤ _)⟩)
  dsimp only [Pt.U, Pt.locs, Pt.cells, Pt.slots] at X59 l59 y59 z59 st59 hQ59
  subst l59 y59 z59
  obtain ⟨rfl, N59q, e59⟩ := hQ59
  have N59 := Fr.app N58 N59q
  refine own_st (V := T59.setTop (mkF m 36 #[.val (.int p1), .val (.int p2), .val (.int (3 : Int32)), .val (.ref (A 3)), .val (.int (0 : Int32)), .unset] [(.int (3 : Int32))])) (fun t k => st59 _ k) ?_
  refine own_st (V := T59.setTop (mkF m 38 #[.val (.int p1), .val (.int p2), .val (.int (3 : Int32)), .val (.ref (A 3)), .val (.int (0 : Int32)), .unset] [(.int (0 : Int32)), (.int (3 : Int32))])) (fun t k => XS.iload X59.here hx rfl (hb hby at_36) rfl k) ?_
  refine own_st (V := T59.setTop (mkF m 39 #[.val (.int p1), .val (.int p2), .val (.int (3 : Int32)), .val (.ref (A 3)), .val (.int (0 : Int32)), .unset] [(.int ((3 : Int32) >>> ((0 : Int32) &&& 31)))])) (fun t k => XS.ishr X59.here hx rfl (hb hby at_38) rfl k) ?_
  refine own_st (V := T59.setTop (mkF m 40 #[.val (.int p1), .val (.int p2), .val (.int (3 : Int32)), .val (.ref (A 3)), .val (.int (0 : Int32)), .unset] [(.int (1 : Int32)), (.int ((3 : Int32) >>> ((0 : Int32) &&& 31)))])) (fun t k => XS.iconst X59.here hx rfl (hb hby at_39) k) ?_
  refine own_st (V := T59.setTop (mkF m 41 #[.val (.int p1), .val (.int p2), .val (.int (3 : Int32)), .val (.ref (A 3)), .val (.int (0 : Int32)), .unset] [(.int (((3 : Int32) >>> ((0 : Int32) &&& 31)) &&& (1 : Int32)))])) (fun t k => XS.iand X59.here hx rfl (hb hby at_40) rfl k) ?_
  refine own_st (V := T59.setTop (mkF m 44 #[.val (.int p1), .val (.int p2), .val (.int (3 : Int32)), .val (.ref (A 3)), .val (.int (0 : Int32)), .unset] [])) (fun t k => XS.ifNo X59.here hx rfl (hb hby at_41) rfl ((if0 _ _).trans (feq (by decide +kernel : ¬ ((((3 : Int32) >>> ((0 : Int32) &&& 31)) &&& (1 : Int32)) = (0 : Int32)))).1) k) ?_
  refine own_st (V := T59.setTop (mkF m 45 #[.val (.int p1), .val (.int p2), .val (.int (3 : Int32)), .val (.ref (A 3)), .val (.int (0 : Int32)), .unset] [(.int (1 : Int32))])) (fun t k => XS.iconst X59.here hx rfl (hb hby at_44) k) ?_
  refine own_st (V := T59.setTop (mkF m 49 #[.val (.int p1), .val (.int p2), .val (.int (3 : Int32)), .val (.ref (A 3)), .val (.int (0 : Int32)), .unset] [(.int (1 : Int32))])) (fun t k => XS.goto X59.here hx rfl (pc0 := 45) (pc' := 49) rfl (hb hby at_45) (by decide) (by decide) k) ?_
  refine own_st (V := T59.setTop (mkF m 51 #[.val (.int p1), .val (.int p2), .val (.int (3 : Int32)), .val (.ref (A 3)), .val (.int (0 : Int32)), .val (.int (1 : Int32))] [])) (fun t k => XS.istore X59.here hx rfl (hb hby at_49) rfl (l' := #[.val (.int p1), .val (.int p2), .val (.int (3 : Int32)), .val (.ref (A 3)), .val (.int (0 : Int32)), .val (.int (1 : Int32))]) rfl k) ?_
  refine own_st (V := T59.setTop (mkF m 52 #[.val (.int p1), .val (.int p2), .val (.int (3 : Int32)), .val (.ref (A 3)), .val (.int (0 : Int32)), .val (.int (1 : Int32))] [(.ref (A 3))])) (fun t k => XS.aloadN X59.here hx rfl (hb hby at_51) rfl rfl k) ?_
  refine own_st (V := T59.setTop (mkF m 53 #[.val (.int p1), .val (.int p2), .val (.int (3 : Int32)), .val (.ref (A 3)), .val (.int (0 : Int32)), .val (.int (1 : Int32))] [(.int p2), (.ref (A 3))])) (fun t k => XS.iloadN X59.here hx rfl (hb hby at_52) rfl k) ?_
  obtain ⟨cq60, kq60, q60a, q60b, q60c⟩ := isOf hZ e59 (own_E En 3 (i := 3) (n := "LESS_OR_EQUAL") rfl)
  obtain ⟨_, _, ⟨T60, L60, k60, n60⟩, -, X60, ⟨Lc60, hQ60, l60, y60, z60⟩, st60⟩ := X59.virtualBack hx (y := (⟨"com/example/affirm_rows/affirmrows/rules/Comparison", "holds", "(I)Z"⟩ : MethodName)) (z := (⟨"com/example/affirm_rows/affirmrows/rules/Comparison", "holds", "(I)Z"⟩ : MethodName)) hown (mvT hZ (hw _ (List.mem_of_getElem? (i := 11) rfl))) (mvT hZ (hw _ (List.mem_of_getElem? (i := 12) rfl))) (notFace_of_selects (args := #[]) (mvT hZ (hw _ (List.mem_of_getElem? (i := 14) rfl)))) (mvT hZ (hw _ (List.mem_of_getElem? (i := 14) rfl))) (mvT hZ (hw _ (List.mem_of_getElem? (i := 13) rfl))) (by decide) (backOf (W := 0) (own_ho3n l Z a0 hw [] p2 A h0 n0 Z0 En hs) hZ (hw _ (List.mem_of_getElem? (i := 15) rfl)) (hw _ (List.mem_of_getElem? (i := 6) rfl)) (by decide) (by decide)) q60a q60c (g := (mkF m 53 #[.val (.int p1), .val (.int p2), .val (.int (3 : Int32)), .val (.ref (A 3)), .val (.int (0 : Int32)), .val (.int (1 : Int32))] [(.int p2), (.ref (A 3))])) rfl (by rw [hml]; rfl) (Steps.refl _) (argsL := [(.int p2)]) (rest := []) (lenOf own_pd3 rfl) rfl (by show 2 * 0 + _ ≤ _; exact Nat.le_of_eq rfl) (hb hby at_53) (fun _ _ => ⟨rfl, e59, (by decide : 0 + 0 ≤ _), (by decide : 0 + 0 ≤ _)⟩)
  dsimp only [Pt.U, Pt.locs, Pt.cells, Pt.slots] at X60 l60 y60 z60 st60 hQ60
  subst l60 y60 z60
  obtain ⟨rfl, N60q, e60⟩ := hQ60
  have N60 := Fr.app N59 N60q
  refine own_st (V := T60.setTop (mkF m 56 #[.val (.int p1), .val (.int p2), .val (.int (3 : Int32)), .val (.ref (A 3)), .val (.int (0 : Int32)), .val (.int (1 : Int32))] [(.int (1 : Int32))])) (fun t k => st60.trans k) ?_
  refine own_st (V := T60.setTop (mkF m 58 #[.val (.int p1), .val (.int p2), .val (.int (3 : Int32)), .val (.ref (A 3)), .val (.int (0 : Int32)), .val (.int (1 : Int32))] [(.int (1 : Int32)), (.int (1 : Int32))])) (fun t k => XS.iload X60.here hx rfl (hb hby at_56) rfl k) ?_
  refine own_st (V := T60.setTop (mkF m 61 #[.val (.int p1), .val (.int p2), .val (.int (3 : Int32)), .val (.ref (A 3)), .val (.int (0 : Int32)), .val (.int (1 : Int32))] [])) (fun t k => XS.icmpNo X60.here hx rfl (hb hby at_58) rfl (teq (by decide : (1 : Int32) = (1 : Int32))).2 k) ?_
  refine own_st (V := T60.setTop (mkF m 62 #[.val (.int p1), .val (.int p2), .val (.int (3 : Int32)), .val (.ref (A 3)), .val (.int (0 : Int32)), .val (.int (1 : Int32))] [(.int (1 : Int32))])) (fun t k => XS.iconst X60.here hx rfl (hb hby at_61) k) ?_
  refine own_st (V := T60.setTop (mkF m 66 #[.val (.int p1), .val (.int p2), .val (.int (3 : Int32)), .val (.ref (A 3)), .val (.int (0 : Int32)), .val (.int (1 : Int32))] [(.int (1 : Int32))])) (fun t k => XS.goto X60.here hx rfl (pc0 := 62) (pc' := 66) rfl (hb hby at_62) (by decide) (by decide) k) ?_
  exact own_ret X60 hx hlk Bd.returns (by decide +kernel) (Or.inl ⟨rfl, by simp, _, rfl⟩) (hb hby at_66) (by decide) (by decide) (by show own_Q0 Z p1 p2 A h0 n0 _ T60.heap _; rw [e60]; exact ⟨rfl, N60⟩)
set_option maxRecDepth 65536 in
set_option maxHeartbeats 40000000 in
theorem own_law3z (l : Launch) (Z : State) (a0 : Array Value) (hw : ∀ d ∈ tables_1, d.before a0 Z = true) (ws : List Jvm.Cond) (p1 : Int32) (p2 : Int32) (A : Nat → Addr) (h0 : Heap) (n0 : Nat) (Z0 : n0 ≤ h0.size) (En : own_En Z h0 A) (hk : ((p1 &&& (2147483647 : Int32)) % (6 : Int32)) = (3 : Int32)) (hs : p2 = (0 : Int32)) :
    MetFree l x (head1 (Jvm.Cond.code x code maxLocals ret :: ws) room_1) (fun a U => a = #[(.int p1), (.int p2)] ∧ Z.Warmed39 U.vm ∧ U.heap = h0) (fun _ _ _ _ _ => True) (fun _ U o U' => ∃ v L, o = .returned v ∧ own_Q0 Z p1 p2 A h0 n0 v U'.heap L ∧ FrameEnd U o U' L room_1.cells room_1.slots) := by
  refine MetFree.of_bodySF (plainFor_of_name own_pn_com_example_affirm_rows_affirmrows_rules_ComparisonHoldsPinLaw) hisR ?_
  intro p e s m args below meth c s₁ Bd hml0 hP hK
  obtain ⟨rfl, hZ, hh⟩ := hP
  have hx := Bd.exec
  have hby := Bd.bytes
  have hml : c.maxLocals = 6 := hml0
  have hown : s.vm.findClass "com/example/affirm_rows/affirmrows/rules/ComparisonHoldsPinLaw" = some m.cls := findClass_of_methodNamed Bd.named
  have hnm := (name_of_methodNamed Bd.named Bd.method).1
  have hlk : meth.locks = false := BodyLoose.notSynchronized Bd
  have X0 : Stand p l e room_1 s m #[(.int p1), (.int p2)] below meth c s₁ [] 0 0 := Stand.of_body Bd
  have e0 : s₁.heap = h0 := by rw [← hh, Bd.state]; rfl
  have N0 := Fr.nil n0
  show own_Go p e below #[(.int p1), (.int p2)] s (fun _ U o U' => ∃ v L, o = .returned v ∧ own_Q0 Z p1 p2 A h0 n0 v U'.heap L ∧ FrameEnd U o U' L room_1.cells room_1.slots) (s₁.setTop (entryFrame m #[(.int p1), (.int p2)] maxLocals))
  refine own_st (V := s₁.setTop (mkF m 0 #[.val (.int p1), .val (.int p2), .unset, .unset, .unset, .unset] [])) (fun t k => castTop (by first | (simp [entryFrame, mkF, argsToLocals, Value.category, maxLocals]; done) | rfl) k) ?_
  refine own_st (V := s₁.setTop (mkF m 1 #[.val (.int p1), .val (.int p2), .unset, .unset, .unset, .unset] [(.int p1)])) (fun t k => XS.iloadN X0.here hx rfl (hb hby at_0) rfl k) ?_
  refine own_st (V := s₁.setTop (mkF m 3 #[.val (.int p1), .val (.int p2), .unset, .unset, .unset, .unset] [(.int (2147483647 : Int32)), (.int p1)])) (fun t k => X0.ldcInt hx hown (mvT hZ (hw _ (List.mem_of_getElem? (i := 0) rfl))) (g := (mkF m 1 #[.val (.int p1), .val (.int p2), .unset, .unset, .unset, .unset] [(.int p1)])) rfl (hb hby at_1) t k) ?_
  refine own_st (V := s₁.setTop (mkF m 4 #[.val (.int p1), .val (.int p2), .unset, .unset, .unset, .unset] [(.int (p1 &&& (2147483647 : Int32)))])) (fun t k => XS.iand X0.here hx rfl (hb hby at_3) rfl k) ?_
  refine own_st (V := s₁.setTop (mkF m 6 #[.val (.int p1), .val (.int p2), .unset, .unset, .unset, .unset] [(.int (6 : Int32)), (.int (p1 &&& (2147483647 : Int32)))])) (fun t k => XS.bipush X0.here hx rfl (hb hby at_4) k) ?_
  refine own_st (V := s₁.setTop (mkF m 7 #[.val (.int p1), .val (.int p2), .unset, .unset, .unset, .unset] [(.int ((p1 &&& (2147483647 : Int32)) % (6 : Int32)))])) (fun t k => Jvm.RoadKit.iremM X0 hx rfl (hb hby at_6) rfl (by decide) k) ?_
  rw [hk]
  refine own_st (V := s₁.setTop (mkF m 8 #[.val (.int p1), .val (.int p2), .val (.int (3 : Int32)), .unset, .unset, .unset] [])) (fun t k => XS.istoreN X0.here hx rfl (hb hby at_7) rfl (l' := #[.val (.int p1), .val (.int p2), .val (.int (3 : Int32)), .unset, .unset, .unset]) rfl k) ?_
  refine own_st (V := s₁.setTop (mkF m 9 #[.val (.int p1), .val (.int p2), .val (.int (3 : Int32)), .unset, .unset, .unset] [(.int (3 : Int32))])) (fun t k => XS.iloadN X0.here hx rfl (hb hby at_8) rfl k) ?_
  obtain ⟨_, _, ⟨T61, L61, k61, n61⟩, -, X61, ⟨Lc61, hQ61, l61, y61, z61⟩, st61⟩ := Jvm.LawKit.callS X0 hx (y := (⟨"com/example/affirm_rows/affirmrows/rules/ComparisonHoldsPinLaw", "pick", "(I)Lcom/example/affirm_rows/affirmrows/rules/Comparison;"⟩ : MethodName)) hown (mvT hZ (hw _ (List.mem_of_getElem? (i := 1) rfl))) (mvT hZ (hw _ (List.mem_of_getElem? (i := 2) rfl))) (mvT hZ (hw _ (List.mem_of_getElem? (i := 3) rfl))) (mvT hZ (hw _ (List.mem_of_getElem? (i := 4) rfl))) (by decide) (backOf (W := 0) (own_pick3 l Z a0 hw [] A h0 n0 Z0 En ) hZ (hw _ (List.mem_of_getElem? (i := 4) rfl)) (hw _ (List.mem_of_getElem? (i := 3) rfl)) (by decide) (by decide)) (g := (mkF m 9 #[.val (.int p1), .val (.int p2), .val (.int (3 : Int32)), .unset, .unset, .unset] [(.int (3 : Int32))])) rfl (by rw [hml]; rfl) (argsL := [(.int (3 : Int32))]) (rest := []) (lenOf own_pd1 rfl) rfl (by show 2 * 0 + _ ≤ _; exact Nat.le_of_eq rfl) (hb hby at_9) (fun _ _ => ⟨rfl, e0, (by decide : 0 + 0 ≤ _), (by decide : 0 + 0 ≤ _)⟩)
  dsimp only [Pt.U, Pt.locs, Pt.cells, Pt.slots] at X61 l61 y61 z61 st61 hQ61
  subst l61 y61 z61
  obtain ⟨rfl, N61q, e61⟩ := hQ61
  have N61 := Fr.app N0 N61q
  refine own_st (V := T61.setTop (mkF m 12 #[.val (.int p1), .val (.int p2), .val (.int (3 : Int32)), .unset, .unset, .unset] [(.ref (A 3))])) (fun t k => st61 _ k) ?_
  refine own_st (V := T61.setTop (mkF m 13 #[.val (.int p1), .val (.int p2), .val (.int (3 : Int32)), .val (.ref (A 3)), .unset, .unset] [])) (fun t k => XS.astoreN X61.here hx rfl (hb hby at_12) rfl rfl (l' := #[.val (.int p1), .val (.int p2), .val (.int (3 : Int32)), .val (.ref (A 3)), .unset, .unset]) rfl k) ?_
  refine own_st (V := T61.setTop (mkF m 14 #[.val (.int p1), .val (.int p2), .val (.int (3 : Int32)), .val (.ref (A 3)), .unset, .unset] [(.int p2)])) (fun t k => XS.iloadN X61.here hx rfl (hb hby at_13) rfl k) ?_
  refine own_st (V := T61.setTop (mkF m 21 #[.val (.int p1), .val (.int p2), .val (.int (3 : Int32)), .val (.ref (A 3)), .unset, .unset] [])) (fun t k => XS.ifYes X61.here hx rfl (pc0 := 14) (pc' := 21) rfl (hb hby at_14) rfl ((if0 _ _).trans (flt (own_z1 hs)).2.1) (by decide) (by decide) k) ?_
  refine own_st (V := T61.setTop (mkF m 22 #[.val (.int p1), .val (.int p2), .val (.int (3 : Int32)), .val (.ref (A 3)), .unset, .unset] [(.int p2)])) (fun t k => XS.iloadN X61.here hx rfl (hb hby at_21) rfl k) ?_
  refine own_st (V := T61.setTop (mkF m 25 #[.val (.int p1), .val (.int p2), .val (.int (3 : Int32)), .val (.ref (A 3)), .unset, .unset] [])) (fun t k => XS.ifNo X61.here hx rfl (hb hby at_22) rfl ((if0 _ _).trans (teq hs).2) k) ?_
  refine own_st (V := T61.setTop (mkF m 26 #[.val (.int p1), .val (.int p2), .val (.int (3 : Int32)), .val (.ref (A 3)), .unset, .unset] [(.int (1 : Int32))])) (fun t k => XS.iconst X61.here hx rfl (hb hby at_25) k) ?_
  refine own_st (V := T61.setTop (mkF m 30 #[.val (.int p1), .val (.int p2), .val (.int (3 : Int32)), .val (.ref (A 3)), .unset, .unset] [(.int (1 : Int32))])) (fun t k => XS.goto X61.here hx rfl (pc0 := 26) (pc' := 30) rfl (hb hby at_26) (by decide) (by decide) k) ?_
  refine own_st (V := T61.setTop (mkF m 32 #[.val (.int p1), .val (.int p2), .val (.int (3 : Int32)), .val (.ref (A 3)), .val (.int (1 : Int32)), .unset] [])) (fun t k => XS.istore X61.here hx rfl (hb hby at_30) rfl (l' := #[.val (.int p1), .val (.int p2), .val (.int (3 : Int32)), .val (.ref (A 3)), .val (.int (1 : Int32)), .unset]) rfl k) ?_
  refine own_st (V := T61.setTop (mkF m 33 #[.val (.int p1), .val (.int p2), .val (.int (3 : Int32)), .val (.ref (A 3)), .val (.int (1 : Int32)), .unset] [(.int (3 : Int32))])) (fun t k => XS.iloadN X61.here hx rfl (hb hby at_32) rfl k) ?_
  obtain ⟨_, _, ⟨T62, L62, k62, n62⟩, -, X62, ⟨Lc62, hQ62, l62, y62, z62⟩, st62⟩ := Jvm.LawKit.callS X61 hx (y := (⟨"com/example/affirm_rows/affirmrows/rules/ComparisonHoldsPinLaw", "admittedSigns", "(I)I"⟩ : MethodName)) hown (mvT hZ (hw _ (List.mem_of_getElem? (i := 8) rfl))) (mvT hZ (hw _ (List.mem_of_getElem? (i := 9) rfl))) (mvT hZ (hw _ (List.mem_of_getElem? (i := 3) rfl))) (mvT hZ (hw _ (List.mem_of_getElem? (i := 10) rfl))) (by decide) (backOf (W := 0) (own_ad3 l Z a0 hw [] A h0 n0 Z0 En ) hZ (hw _ (List.mem_of_getElem? (i := 10) rfl)) (hw _ (List.mem_of_getElem? (i := 3) rfl)) (by decide) (by decide)) (g := (mkF m 33 #[.val (.int p1), .val (.int p2), .val (.int (3 : Int32)), .val (.ref (A 3)), .val (.int (1 : Int32)), .unset] [(.int (3 : Int32))])) rfl (by rw [hml]; rfl) (argsL := [(.int (3 : Int32))]) (rest := []) (lenOf own_pd2 rfl) rfl (by show 2 * 0 + _ ≤ _; exact Nat.le_of_eq rfl) (hb hby at_33) (fun _ _ => ⟨rfl, e61, (by decide : 0 + 0 ≤ _), (by decide : 0 + 0 ≤ _)⟩)
  dsimp only [Pt.U, Pt.locs, Pt.cells, Pt.slots] at X62 l62 y62 z62 st62 hQ62
  subst l62 y62 z62
  obtain ⟨rfl, N62q, e62⟩ := hQ62
  have N62 := Fr.app N61 N62q
  refine own_st (V := T62.setTop (mkF m 36 #[.val (.int p1), .val (.int p2), .val (.int (3 : Int32)), .val (.ref (A 3)), .val (.int (1 : Int32)), .unset] [(.int (3 : Int32))])) (fun t k => st62 _ k) ?_
  refine own_st (V := T62.setTop (mkF m 38 #[.val (.int p1), .val (.int p2), .val (.int (3 : Int32)), .val (.ref (A 3)), .val (.int (1 : Int32)), .unset] [(.int (1 : Int32)), (.int (3 : Int32))])) (fun t k => XS.iload X62.here hx rfl (hb hby at_36) rfl k) ?_
  refine own_st (V := T62.setTop (mkF m 39 #[.val (.int p1), .val (.int p2), .val (.int (3 : Int32)), .val (.ref (A 3)), .val (.int (1 : Int32)), .unset] [(.int ((3 : Int32) >>> ((1 : Int32) &&& 31)))])) (fun t k => XS.ishr X62.here hx rfl (hb hby at_38) rfl k) ?_
  refine own_st (V := T62.setTop (mkF m 40 #[.val (.int p1), .val (.int p2), .val (.int (3 : Int32)), .val (.ref (A 3)), .val (.int (1 : Int32)), .unset] [(.int (1 : Int32)), (.int ((3 : Int32) >>> ((1 : Int32) &&& 31)))])) (fun t k => XS.iconst X62.here hx rfl (hb hby at_39) k) ?_
  refine own_st (V := T62.setTop (mkF m 41 #[.val (.int p1), .val (.int p2), .val (.int (3 : Int32)), .val (.ref (A 3)), .val (.int (1 : Int32)), .unset] [(.int (((3 : Int32) >>> ((1 : Int32) &&& 31)) &&& (1 : Int32)))])) (fun t k => XS.iand X62.here hx rfl (hb hby at_40) rfl k) ?_
  refine own_st (V := T62.setTop (mkF m 44 #[.val (.int p1), .val (.int p2), .val (.int (3 : Int32)), .val (.ref (A 3)), .val (.int (1 : Int32)), .unset] [])) (fun t k => XS.ifNo X62.here hx rfl (hb hby at_41) rfl ((if0 _ _).trans (feq (by decide +kernel : ¬ ((((3 : Int32) >>> ((1 : Int32) &&& 31)) &&& (1 : Int32)) = (0 : Int32)))).1) k) ?_
  refine own_st (V := T62.setTop (mkF m 45 #[.val (.int p1), .val (.int p2), .val (.int (3 : Int32)), .val (.ref (A 3)), .val (.int (1 : Int32)), .unset] [(.int (1 : Int32))])) (fun t k => XS.iconst X62.here hx rfl (hb hby at_44) k) ?_
  refine own_st (V := T62.setTop (mkF m 49 #[.val (.int p1), .val (.int p2), .val (.int (3 : Int32)), .val (.ref (A 3)), .val (.int (1 : Int32)), .unset] [(.int (1 : Int32))])) (fun t k => XS.goto X62.here hx rfl (pc0 := 45) (pc' := 49) rfl (hb hby at_45) (by decide) (by decide) k) ?_
  refine own_st (V := T62.setTop (mkF m 51 #[.val (.int p1), .val (.int p2), .val (.int (3 : Int32)), .val (.ref (A 3)), .val (.int (1 : Int32)), .val (.int (1 : Int32))] [])) (fun t k => XS.istore X62.here hx rfl (hb hby at_49) rfl (l' := #[.val (.int p1), .val (.int p2), .val (.int (3 : Int32)), .val (.ref (A 3)), .val (.int (1 : Int32)), .val (.int (1 : Int32))]) rfl k) ?_
  refine own_st (V := T62.setTop (mkF m 52 #[.val (.int p1), .val (.int p2), .val (.int (3 : Int32)), .val (.ref (A 3)), .val (.int (1 : Int32)), .val (.int (1 : Int32))] [(.ref (A 3))])) (fun t k => XS.aloadN X62.here hx rfl (hb hby at_51) rfl rfl k) ?_
  refine own_st (V := T62.setTop (mkF m 53 #[.val (.int p1), .val (.int p2), .val (.int (3 : Int32)), .val (.ref (A 3)), .val (.int (1 : Int32)), .val (.int (1 : Int32))] [(.int p2), (.ref (A 3))])) (fun t k => XS.iloadN X62.here hx rfl (hb hby at_52) rfl k) ?_
  obtain ⟨cq63, kq63, q63a, q63b, q63c⟩ := isOf hZ e62 (own_E En 3 (i := 3) (n := "LESS_OR_EQUAL") rfl)
  obtain ⟨_, _, ⟨T63, L63, k63, n63⟩, -, X63, ⟨Lc63, hQ63, l63, y63, z63⟩, st63⟩ := X62.virtualBack hx (y := (⟨"com/example/affirm_rows/affirmrows/rules/Comparison", "holds", "(I)Z"⟩ : MethodName)) (z := (⟨"com/example/affirm_rows/affirmrows/rules/Comparison", "holds", "(I)Z"⟩ : MethodName)) hown (mvT hZ (hw _ (List.mem_of_getElem? (i := 11) rfl))) (mvT hZ (hw _ (List.mem_of_getElem? (i := 12) rfl))) (notFace_of_selects (args := #[]) (mvT hZ (hw _ (List.mem_of_getElem? (i := 14) rfl)))) (mvT hZ (hw _ (List.mem_of_getElem? (i := 14) rfl))) (mvT hZ (hw _ (List.mem_of_getElem? (i := 13) rfl))) (by decide) (backOf (W := 0) (own_ho3z l Z a0 hw [] p2 A h0 n0 Z0 En hs) hZ (hw _ (List.mem_of_getElem? (i := 15) rfl)) (hw _ (List.mem_of_getElem? (i := 6) rfl)) (by decide) (by decide)) q63a q63c (g := (mkF m 53 #[.val (.int p1), .val (.int p2), .val (.int (3 : Int32)), .val (.ref (A 3)), .val (.int (1 : Int32)), .val (.int (1 : Int32))] [(.int p2), (.ref (A 3))])) rfl (by rw [hml]; rfl) (Steps.refl _) (argsL := [(.int p2)]) (rest := []) (lenOf own_pd3 rfl) rfl (by show 2 * 0 + _ ≤ _; exact Nat.le_of_eq rfl) (hb hby at_53) (fun _ _ => ⟨rfl, e62, (by decide : 0 + 0 ≤ _), (by decide : 0 + 0 ≤ _)⟩)
  dsimp only [Pt.U, Pt.locs, Pt.cells, Pt.slots] at X63 l63 y63 z63 st63 hQ63
  subst l63 y63 z63
  obtain ⟨rfl, N63q, e63⟩ := hQ63
  have N63 := Fr.app N62 N63q
  refine own_st (V := T63.setTop (mkF m 56 #[.val (.int p1), .val (.int p2), .val (.int (3 : Int32)), .val (.ref (A 3)), .val (.int (1 : Int32)), .val (.int (1 : Int32))] [(.int (1 : Int32))])) (fun t k => st63.trans k) ?_
  refine own_st (V := T63.setTop (mkF m 58 #[.val (.int p1), .val (.int p2), .val (.int (3 : Int32)), .val (.ref (A 3)), .val (.int (1 : Int32)), .val (.int (1 : Int32))] [(.int (1 : Int32)), (.int (1 : Int32))])) (fun t k => XS.iload X63.here hx rfl (hb hby at_56) rfl k) ?_
  refine own_st (V := T63.setTop (mkF m 61 #[.val (.int p1), .val (.int p2), .val (.int (3 : Int32)), .val (.ref (A 3)), .val (.int (1 : Int32)), .val (.int (1 : Int32))] [])) (fun t k => XS.icmpNo X63.here hx rfl (hb hby at_58) rfl (teq (by decide : (1 : Int32) = (1 : Int32))).2 k) ?_
  refine own_st (V := T63.setTop (mkF m 62 #[.val (.int p1), .val (.int p2), .val (.int (3 : Int32)), .val (.ref (A 3)), .val (.int (1 : Int32)), .val (.int (1 : Int32))] [(.int (1 : Int32))])) (fun t k => XS.iconst X63.here hx rfl (hb hby at_61) k) ?_
  refine own_st (V := T63.setTop (mkF m 66 #[.val (.int p1), .val (.int p2), .val (.int (3 : Int32)), .val (.ref (A 3)), .val (.int (1 : Int32)), .val (.int (1 : Int32))] [(.int (1 : Int32))])) (fun t k => XS.goto X63.here hx rfl (pc0 := 62) (pc' := 66) rfl (hb hby at_62) (by decide) (by decide) k) ?_
  exact own_ret X63 hx hlk Bd.returns (by decide +kernel) (Or.inl ⟨rfl, by simp, _, rfl⟩) (hb hby at_66) (by decide) (by decide) (by show own_Q0 Z p1 p2 A h0 n0 _ T63.heap _; rw [e63]; exact ⟨rfl, N63⟩)
set_option maxRecDepth 65536 in
set_option maxHeartbeats 40000000 in
theorem own_law3p (l : Launch) (Z : State) (a0 : Array Value) (hw : ∀ d ∈ tables_1, d.before a0 Z = true) (ws : List Jvm.Cond) (p1 : Int32) (p2 : Int32) (A : Nat → Addr) (h0 : Heap) (n0 : Nat) (Z0 : n0 ≤ h0.size) (En : own_En Z h0 A) (hk : ((p1 &&& (2147483647 : Int32)) % (6 : Int32)) = (3 : Int32)) (hs : (0 : Int32) < p2) :
    MetFree l x (head1 (Jvm.Cond.code x code maxLocals ret :: ws) room_1) (fun a U => a = #[(.int p1), (.int p2)] ∧ Z.Warmed39 U.vm ∧ U.heap = h0) (fun _ _ _ _ _ => True) (fun _ U o U' => ∃ v L, o = .returned v ∧ own_Q0 Z p1 p2 A h0 n0 v U'.heap L ∧ FrameEnd U o U' L room_1.cells room_1.slots) := by
  refine MetFree.of_bodySF (plainFor_of_name own_pn_com_example_affirm_rows_affirmrows_rules_ComparisonHoldsPinLaw) hisR ?_
  intro p e s m args below meth c s₁ Bd hml0 hP hK
  obtain ⟨rfl, hZ, hh⟩ := hP
  have hx := Bd.exec
  have hby := Bd.bytes
  have hml : c.maxLocals = 6 := hml0
  have hown : s.vm.findClass "com/example/affirm_rows/affirmrows/rules/ComparisonHoldsPinLaw" = some m.cls := findClass_of_methodNamed Bd.named
  have hnm := (name_of_methodNamed Bd.named Bd.method).1
  have hlk : meth.locks = false := BodyLoose.notSynchronized Bd
  have X0 : Stand p l e room_1 s m #[(.int p1), (.int p2)] below meth c s₁ [] 0 0 := Stand.of_body Bd
  have e0 : s₁.heap = h0 := by rw [← hh, Bd.state]; rfl
  have N0 := Fr.nil n0
  show own_Go p e below #[(.int p1), (.int p2)] s (fun _ U o U' => ∃ v L, o = .returned v ∧ own_Q0 Z p1 p2 A h0 n0 v U'.heap L ∧ FrameEnd U o U' L room_1.cells room_1.slots) (s₁.setTop (entryFrame m #[(.int p1), (.int p2)] maxLocals))
  refine own_st (V := s₁.setTop (mkF m 0 #[.val (.int p1), .val (.int p2), .unset, .unset, .unset, .unset] [])) (fun t k => castTop (by first | (simp [entryFrame, mkF, argsToLocals, Value.category, maxLocals]; done) | rfl) k) ?_
  refine own_st (V := s₁.setTop (mkF m 1 #[.val (.int p1), .val (.int p2), .unset, .unset, .unset, .unset] [(.int p1)])) (fun t k => XS.iloadN X0.here hx rfl (hb hby at_0) rfl k) ?_
  refine own_st (V := s₁.setTop (mkF m 3 #[.val (.int p1), .val (.int p2), .unset, .unset, .unset, .unset] [(.int (2147483647 : Int32)), (.int p1)])) (fun t k => X0.ldcInt hx hown (mvT hZ (hw _ (List.mem_of_getElem? (i := 0) rfl))) (g := (mkF m 1 #[.val (.int p1), .val (.int p2), .unset, .unset, .unset, .unset] [(.int p1)])) rfl (hb hby at_1) t k) ?_
  refine own_st (V := s₁.setTop (mkF m 4 #[.val (.int p1), .val (.int p2), .unset, .unset, .unset, .unset] [(.int (p1 &&& (2147483647 : Int32)))])) (fun t k => XS.iand X0.here hx rfl (hb hby at_3) rfl k) ?_
  refine own_st (V := s₁.setTop (mkF m 6 #[.val (.int p1), .val (.int p2), .unset, .unset, .unset, .unset] [(.int (6 : Int32)), (.int (p1 &&& (2147483647 : Int32)))])) (fun t k => XS.bipush X0.here hx rfl (hb hby at_4) k) ?_
  refine own_st (V := s₁.setTop (mkF m 7 #[.val (.int p1), .val (.int p2), .unset, .unset, .unset, .unset] [(.int ((p1 &&& (2147483647 : Int32)) % (6 : Int32)))])) (fun t k => Jvm.RoadKit.iremM X0 hx rfl (hb hby at_6) rfl (by decide) k) ?_
  rw [hk]
  refine own_st (V := s₁.setTop (mkF m 8 #[.val (.int p1), .val (.int p2), .val (.int (3 : Int32)), .unset, .unset, .unset] [])) (fun t k => XS.istoreN X0.here hx rfl (hb hby at_7) rfl (l' := #[.val (.int p1), .val (.int p2), .val (.int (3 : Int32)), .unset, .unset, .unset]) rfl k) ?_
  refine own_st (V := s₁.setTop (mkF m 9 #[.val (.int p1), .val (.int p2), .val (.int (3 : Int32)), .unset, .unset, .unset] [(.int (3 : Int32))])) (fun t k => XS.iloadN X0.here hx rfl (hb hby at_8) rfl k) ?_
  obtain ⟨_, _, ⟨T64, L64, k64, n64⟩, -, X64, ⟨Lc64, hQ64, l64, y64, z64⟩, st64⟩ := Jvm.LawKit.callS X0 hx (y := (⟨"com/example/affirm_rows/affirmrows/rules/ComparisonHoldsPinLaw", "pick", "(I)Lcom/example/affirm_rows/affirmrows/rules/Comparison;"⟩ : MethodName)) hown (mvT hZ (hw _ (List.mem_of_getElem? (i := 1) rfl))) (mvT hZ (hw _ (List.mem_of_getElem? (i := 2) rfl))) (mvT hZ (hw _ (List.mem_of_getElem? (i := 3) rfl))) (mvT hZ (hw _ (List.mem_of_getElem? (i := 4) rfl))) (by decide) (backOf (W := 0) (own_pick3 l Z a0 hw [] A h0 n0 Z0 En ) hZ (hw _ (List.mem_of_getElem? (i := 4) rfl)) (hw _ (List.mem_of_getElem? (i := 3) rfl)) (by decide) (by decide)) (g := (mkF m 9 #[.val (.int p1), .val (.int p2), .val (.int (3 : Int32)), .unset, .unset, .unset] [(.int (3 : Int32))])) rfl (by rw [hml]; rfl) (argsL := [(.int (3 : Int32))]) (rest := []) (lenOf own_pd1 rfl) rfl (by show 2 * 0 + _ ≤ _; exact Nat.le_of_eq rfl) (hb hby at_9) (fun _ _ => ⟨rfl, e0, (by decide : 0 + 0 ≤ _), (by decide : 0 + 0 ≤ _)⟩)
  dsimp only [Pt.U, Pt.locs, Pt.cells, Pt.slots] at X64 l64 y64 z64 st64 hQ64
  subst l64 y64 z64
  obtain ⟨rfl, N64q, e64⟩ := hQ64
  have N64 := Fr.app N0 N64q
  refine own_st (V := T64.setTop (mkF m 12 #[.val (.int p1), .val (.int p2), .val (.int (3 : Int32)), .unset, .unset, .unset] [(.ref (A 3))])) (fun t k => st64 _ k) ?_
  refine own_st (V := T64.setTop (mkF m 13 #[.val (.int p1), .val (.int p2), .val (.int (3 : Int32)), .val (.ref (A 3)), .unset, .unset] [])) (fun t k => XS.astoreN X64.here hx rfl (hb hby at_12) rfl rfl (l' := #[.val (.int p1), .val (.int p2), .val (.int (3 : Int32)), .val (.ref (A 3)), .unset, .unset]) rfl k) ?_
  refine own_st (V := T64.setTop (mkF m 14 #[.val (.int p1), .val (.int p2), .val (.int (3 : Int32)), .val (.ref (A 3)), .unset, .unset] [(.int p2)])) (fun t k => XS.iloadN X64.here hx rfl (hb hby at_13) rfl k) ?_
  refine own_st (V := T64.setTop (mkF m 21 #[.val (.int p1), .val (.int p2), .val (.int (3 : Int32)), .val (.ref (A 3)), .unset, .unset] [])) (fun t k => XS.ifYes X64.here hx rfl (pc0 := 14) (pc' := 21) rfl (hb hby at_14) rfl ((if0 _ _).trans (flt (own_p1 hs)).2.1) (by decide) (by decide) k) ?_
  refine own_st (V := T64.setTop (mkF m 22 #[.val (.int p1), .val (.int p2), .val (.int (3 : Int32)), .val (.ref (A 3)), .unset, .unset] [(.int p2)])) (fun t k => XS.iloadN X64.here hx rfl (hb hby at_21) rfl k) ?_
  refine own_st (V := T64.setTop (mkF m 29 #[.val (.int p1), .val (.int p2), .val (.int (3 : Int32)), .val (.ref (A 3)), .unset, .unset] [])) (fun t k => XS.ifYes X64.here hx rfl (pc0 := 22) (pc' := 29) rfl (hb hby at_22) rfl ((if0 _ _).trans (feq (own_p2 hs)).2) (by decide) (by decide) k) ?_
  refine own_st (V := T64.setTop (mkF m 30 #[.val (.int p1), .val (.int p2), .val (.int (3 : Int32)), .val (.ref (A 3)), .unset, .unset] [(.int (2 : Int32))])) (fun t k => XS.iconst X64.here hx rfl (hb hby at_29) k) ?_
  refine own_st (V := T64.setTop (mkF m 32 #[.val (.int p1), .val (.int p2), .val (.int (3 : Int32)), .val (.ref (A 3)), .val (.int (2 : Int32)), .unset] [])) (fun t k => XS.istore X64.here hx rfl (hb hby at_30) rfl (l' := #[.val (.int p1), .val (.int p2), .val (.int (3 : Int32)), .val (.ref (A 3)), .val (.int (2 : Int32)), .unset]) rfl k) ?_
  refine own_st (V := T64.setTop (mkF m 33 #[.val (.int p1), .val (.int p2), .val (.int (3 : Int32)), .val (.ref (A 3)), .val (.int (2 : Int32)), .unset] [(.int (3 : Int32))])) (fun t k => XS.iloadN X64.here hx rfl (hb hby at_32) rfl k) ?_
  obtain ⟨_, _, ⟨T65, L65, k65, n65⟩, -, X65, ⟨Lc65, hQ65, l65, y65, z65⟩, st65⟩ := Jvm.LawKit.callS X64 hx (y := (⟨"com/example/affirm_rows/affirmrows/rules/ComparisonHoldsPinLaw", "admittedSigns", "(I)I"⟩ : MethodName)) hown (mvT hZ (hw _ (List.mem_of_getElem? (i := 8) rfl))) (mvT hZ (hw _ (List.mem_of_getElem? (i := 9) rfl))) (mvT hZ (hw _ (List.mem_of_getElem? (i := 3) rfl))) (mvT hZ (hw _ (List.mem_of_getElem? (i := 10) rfl))) (by decide) (backOf (W := 0) (own_ad3 l Z a0 hw [] A h0 n0 Z0 En ) hZ (hw _ (List.mem_of_getElem? (i := 10) rfl)) (hw _ (List.mem_of_getElem? (i := 3) rfl)) (by decide) (by decide)) (g := (mkF m 33 #[.val (.int p1), .val (.int p2), .val (.int (3 : Int32)), .val (.ref (A 3)), .val (.int (2 : Int32)), .unset] [(.int (3 : Int32))])) rfl (by rw [hml]; rfl) (argsL := [(.int (3 : Int32))]) (rest := []) (lenOf own_pd2 rfl) rfl (by show 2 * 0 + _ ≤ _; exact Nat.le_of_eq rfl) (hb hby at_33) (fun _ _ => ⟨rfl, e64, (by decide : 0 + 0 ≤ _), (by decide : 0 + 0 ≤ _)⟩)
  dsimp only [Pt.U, Pt.locs, Pt.cells, Pt.slots] at X65 l65 y65 z65 st65 hQ65
  subst l65 y65 z65
  obtain ⟨rfl, N65q, e65⟩ := hQ65
  have N65 := Fr.app N64 N65q
  refine own_st (V := T65.setTop (mkF m 36 #[.val (.int p1), .val (.int p2), .val (.int (3 : Int32)), .val (.ref (A 3)), .val (.int (2 : Int32)), .unset] [(.int (3 : Int32))])) (fun t k => st65 _ k) ?_
  refine own_st (V := T65.setTop (mkF m 38 #[.val (.int p1), .val (.int p2), .val (.int (3 : Int32)), .val (.ref (A 3)), .val (.int (2 : Int32)), .unset] [(.int (2 : Int32)), (.int (3 : Int32))])) (fun t k => XS.iload X65.here hx rfl (hb hby at_36) rfl k) ?_
  refine own_st (V := T65.setTop (mkF m 39 #[.val (.int p1), .val (.int p2), .val (.int (3 : Int32)), .val (.ref (A 3)), .val (.int (2 : Int32)), .unset] [(.int ((3 : Int32) >>> ((2 : Int32) &&& 31)))])) (fun t k => XS.ishr X65.here hx rfl (hb hby at_38) rfl k) ?_
  refine own_st (V := T65.setTop (mkF m 40 #[.val (.int p1), .val (.int p2), .val (.int (3 : Int32)), .val (.ref (A 3)), .val (.int (2 : Int32)), .unset] [(.int (1 : Int32)), (.int ((3 : Int32) >>> ((2 : Int32) &&& 31)))])) (fun t k => XS.iconst X65.here hx rfl (hb hby at_39) k) ?_
  refine own_st (V := T65.setTop (mkF m 41 #[.val (.int p1), .val (.int p2), .val (.int (3 : Int32)), .val (.ref (A 3)), .val (.int (2 : Int32)), .unset] [(.int (((3 : Int32) >>> ((2 : Int32) &&& 31)) &&& (1 : Int32)))])) (fun t k => XS.iand X65.here hx rfl (hb hby at_40) rfl k) ?_
  refine own_st (V := T65.setTop (mkF m 48 #[.val (.int p1), .val (.int p2), .val (.int (3 : Int32)), .val (.ref (A 3)), .val (.int (2 : Int32)), .unset] [])) (fun t k => XS.ifYes X65.here hx rfl (pc0 := 41) (pc' := 48) rfl (hb hby at_41) rfl ((if0 _ _).trans (teq (by decide +kernel : (((3 : Int32) >>> ((2 : Int32) &&& 31)) &&& (1 : Int32)) = (0 : Int32))).1) (by decide) (by decide) k) ?_
  refine own_st (V := T65.setTop (mkF m 49 #[.val (.int p1), .val (.int p2), .val (.int (3 : Int32)), .val (.ref (A 3)), .val (.int (2 : Int32)), .unset] [(.int (0 : Int32))])) (fun t k => XS.iconst X65.here hx rfl (hb hby at_48) k) ?_
  refine own_st (V := T65.setTop (mkF m 51 #[.val (.int p1), .val (.int p2), .val (.int (3 : Int32)), .val (.ref (A 3)), .val (.int (2 : Int32)), .val (.int (0 : Int32))] [])) (fun t k => XS.istore X65.here hx rfl (hb hby at_49) rfl (l' := #[.val (.int p1), .val (.int p2), .val (.int (3 : Int32)), .val (.ref (A 3)), .val (.int (2 : Int32)), .val (.int (0 : Int32))]) rfl k) ?_
  refine own_st (V := T65.setTop (mkF m 52 #[.val (.int p1), .val (.int p2), .val (.int (3 : Int32)), .val (.ref (A 3)), .val (.int (2 : Int32)), .val (.int (0 : Int32))] [(.ref (A 3))])) (fun t k => XS.aloadN X65.here hx rfl (hb hby at_51) rfl rfl k) ?_
  refine own_st (V := T65.setTop (mkF m 53 #[.val (.int p1), .val (.int p2), .val (.int (3 : Int32)), .val (.ref (A 3)), .val (.int (2 : Int32)), .val (.int (0 : Int32))] [(.int p2), (.ref (A 3))])) (fun t k => XS.iloadN X65.here hx rfl (hb hby at_52) rfl k) ?_
  obtain ⟨cq66, kq66, q66a, q66b, q66c⟩ := isOf hZ e65 (own_E En 3 (i := 3) (n := "LESS_OR_EQUAL") rfl)
  obtain ⟨_, _, ⟨T66, L66, k66, n66⟩, -, X66, ⟨Lc66, hQ66, l66, y66, z66⟩, st66⟩ := X65.virtualBack hx (y := (⟨"com/example/affirm_rows/affirmrows/rules/Comparison", "holds", "(I)Z"⟩ : MethodName)) (z := (⟨"com/example/affirm_rows/affirmrows/rules/Comparison", "holds", "(I)Z"⟩ : MethodName)) hown (mvT hZ (hw _ (List.mem_of_getElem? (i := 11) rfl))) (mvT hZ (hw _ (List.mem_of_getElem? (i := 12) rfl))) (notFace_of_selects (args := #[]) (mvT hZ (hw _ (List.mem_of_getElem? (i := 14) rfl)))) (mvT hZ (hw _ (List.mem_of_getElem? (i := 14) rfl))) (mvT hZ (hw _ (List.mem_of_getElem? (i := 13) rfl))) (by decide) (backOf (W := 0) (own_ho3p l Z a0 hw [] p2 A h0 n0 Z0 En hs) hZ (hw _ (List.mem_of_getElem? (i := 15) rfl)) (hw _ (List.mem_of_getElem? (i := 6) rfl)) (by decide) (by decide)) q66a q66c (g := (mkF m 53 #[.val (.int p1), .val (.int p2), .val (.int (3 : Int32)), .val (.ref (A 3)), .val (.int (2 : Int32)), .val (.int (0 : Int32))] [(.int p2), (.ref (A 3))])) rfl (by rw [hml]; rfl) (Steps.refl _) (argsL := [(.int p2)]) (rest := []) (lenOf own_pd3 rfl) rfl (by show 2 * 0 + _ ≤ _; exact Nat.le_of_eq rfl) (hb hby at_53) (fun _ _ => ⟨rfl, e65, (by decide : 0 + 0 ≤ _), (by decide : 0 + 0 ≤ _)⟩)
  dsimp only [Pt.U, Pt.locs, Pt.cells, Pt.slots] at X66 l66 y66 z66 st66 hQ66
  subst l66 y66 z66
  obtain ⟨rfl, N66q, e66⟩ := hQ66
  have N66 := Fr.app N65 N66q
  refine own_st (V := T66.setTop (mkF m 56 #[.val (.int p1), .val (.int p2), .val (.int (3 : Int32)), .val (.ref (A 3)), .val (.int (2 : Int32)), .val (.int (0 : Int32))] [(.int (0 : Int32))])) (fun t k => st66.trans k) ?_
  refine own_st (V := T66.setTop (mkF m 58 #[.val (.int p1), .val (.int p2), .val (.int (3 : Int32)), .val (.ref (A 3)), .val (.int (2 : Int32)), .val (.int (0 : Int32))] [(.int (0 : Int32)), (.int (0 : Int32))])) (fun t k => XS.iload X66.here hx rfl (hb hby at_56) rfl k) ?_
  refine own_st (V := T66.setTop (mkF m 61 #[.val (.int p1), .val (.int p2), .val (.int (3 : Int32)), .val (.ref (A 3)), .val (.int (2 : Int32)), .val (.int (0 : Int32))] [])) (fun t k => XS.icmpNo X66.here hx rfl (hb hby at_58) rfl (teq (by decide : (0 : Int32) = (0 : Int32))).2 k) ?_
  refine own_st (V := T66.setTop (mkF m 62 #[.val (.int p1), .val (.int p2), .val (.int (3 : Int32)), .val (.ref (A 3)), .val (.int (2 : Int32)), .val (.int (0 : Int32))] [(.int (1 : Int32))])) (fun t k => XS.iconst X66.here hx rfl (hb hby at_61) k) ?_
  refine own_st (V := T66.setTop (mkF m 66 #[.val (.int p1), .val (.int p2), .val (.int (3 : Int32)), .val (.ref (A 3)), .val (.int (2 : Int32)), .val (.int (0 : Int32))] [(.int (1 : Int32))])) (fun t k => XS.goto X66.here hx rfl (pc0 := 62) (pc' := 66) rfl (hb hby at_62) (by decide) (by decide) k) ?_
  exact own_ret X66 hx hlk Bd.returns (by decide +kernel) (Or.inl ⟨rfl, by simp, _, rfl⟩) (hb hby at_66) (by decide) (by decide) (by show own_Q0 Z p1 p2 A h0 n0 _ T66.heap _; rw [e66]; exact ⟨rfl, N66⟩)
set_option maxRecDepth 65536 in
set_option maxHeartbeats 40000000 in
theorem own_law4n (l : Launch) (Z : State) (a0 : Array Value) (hw : ∀ d ∈ tables_1, d.before a0 Z = true) (ws : List Jvm.Cond) (p1 : Int32) (p2 : Int32) (A : Nat → Addr) (h0 : Heap) (n0 : Nat) (Z0 : n0 ≤ h0.size) (En : own_En Z h0 A) (hk : ((p1 &&& (2147483647 : Int32)) % (6 : Int32)) = (4 : Int32)) (hs : p2 < (0 : Int32)) :
    MetFree l x (head1 (Jvm.Cond.code x code maxLocals ret :: ws) room_1) (fun a U => a = #[(.int p1), (.int p2)] ∧ Z.Warmed39 U.vm ∧ U.heap = h0) (fun _ _ _ _ _ => True) (fun _ U o U' => ∃ v L, o = .returned v ∧ own_Q0 Z p1 p2 A h0 n0 v U'.heap L ∧ FrameEnd U o U' L room_1.cells room_1.slots) := by
  refine MetFree.of_bodySF (plainFor_of_name own_pn_com_example_affirm_rows_affirmrows_rules_ComparisonHoldsPinLaw) hisR ?_
  intro p e s m args below meth c s₁ Bd hml0 hP hK
  obtain ⟨rfl, hZ, hh⟩ := hP
  have hx := Bd.exec
  have hby := Bd.bytes
  have hml : c.maxLocals = 6 := hml0
  have hown : s.vm.findClass "com/example/affirm_rows/affirmrows/rules/ComparisonHoldsPinLaw" = some m.cls := findClass_of_methodNamed Bd.named
  have hnm := (name_of_methodNamed Bd.named Bd.method).1
  have hlk : meth.locks = false := BodyLoose.notSynchronized Bd
  have X0 : Stand p l e room_1 s m #[(.int p1), (.int p2)] below meth c s₁ [] 0 0 := Stand.of_body Bd
  have e0 : s₁.heap = h0 := by rw [← hh, Bd.state]; rfl
  have N0 := Fr.nil n0
  show own_Go p e below #[(.int p1), (.int p2)] s (fun _ U o U' => ∃ v L, o = .returned v ∧ own_Q0 Z p1 p2 A h0 n0 v U'.heap L ∧ FrameEnd U o U' L room_1.cells room_1.slots) (s₁.setTop (entryFrame m #[(.int p1), (.int p2)] maxLocals))
  refine own_st (V := s₁.setTop (mkF m 0 #[.val (.int p1), .val (.int p2), .unset, .unset, .unset, .unset] [])) (fun t k => castTop (by first | (simp [entryFrame, mkF, argsToLocals, Value.category, maxLocals]; done) | rfl) k) ?_
  refine own_st (V := s₁.setTop (mkF m 1 #[.val (.int p1), .val (.int p2), .unset, .unset, .unset, .unset] [(.int p1)])) (fun t k => XS.iloadN X0.here hx rfl (hb hby at_0) rfl k) ?_
  refine own_st (V := s₁.setTop (mkF m 3 #[.val (.int p1), .val (.int p2), .unset, .unset, .unset, .unset] [(.int (2147483647 : Int32)), (.int p1)])) (fun t k => X0.ldcInt hx hown (mvT hZ (hw _ (List.mem_of_getElem? (i := 0) rfl))) (g := (mkF m 1 #[.val (.int p1), .val (.int p2), .unset, .unset, .unset, .unset] [(.int p1)])) rfl (hb hby at_1) t k) ?_
  refine own_st (V := s₁.setTop (mkF m 4 #[.val (.int p1), .val (.int p2), .unset, .unset, .unset, .unset] [(.int (p1 &&& (2147483647 : Int32)))])) (fun t k => XS.iand X0.here hx rfl (hb hby at_3) rfl k) ?_
  refine own_st (V := s₁.setTop (mkF m 6 #[.val (.int p1), .val (.int p2), .unset, .unset, .unset, .unset] [(.int (6 : Int32)), (.int (p1 &&& (2147483647 : Int32)))])) (fun t k => XS.bipush X0.here hx rfl (hb hby at_4) k) ?_
  refine own_st (V := s₁.setTop (mkF m 7 #[.val (.int p1), .val (.int p2), .unset, .unset, .unset, .unset] [(.int ((p1 &&& (2147483647 : Int32)) % (6 : Int32)))])) (fun t k => Jvm.RoadKit.iremM X0 hx rfl (hb hby at_6) rfl (by decide) k) ?_
  rw [hk]
  refine own_st (V := s₁.setTop (mkF m 8 #[.val (.int p1), .val (.int p2), .val (.int (4 : Int32)), .unset, .unset, .unset] [])) (fun t k => XS.istoreN X0.here hx rfl (hb hby at_7) rfl (l' := #[.val (.int p1), .val (.int p2), .val (.int (4 : Int32)), .unset, .unset, .unset]) rfl k) ?_
  refine own_st (V := s₁.setTop (mkF m 9 #[.val (.int p1), .val (.int p2), .val (.int (4 : Int32)), .unset, .unset, .unset] [(.int (4 : Int32))])) (fun t k => XS.iloadN X0.here hx rfl (hb hby at_8) rfl k) ?_
  obtain ⟨_, _, ⟨T67, L67, k67, n67⟩, -, X67, ⟨Lc67, hQ67, l67, y67, z67⟩, st67⟩ := Jvm.LawKit.callS X0 hx (y := (⟨"com/example/affirm_rows/affirmrows/rules/ComparisonHoldsPinLaw", "pick", "(I)Lcom/example/affirm_rows/affirmrows/rules/Comparison;"⟩ : MethodName)) hown (mvT hZ (hw _ (List.mem_of_getElem? (i := 1) rfl))) (mvT hZ (hw _ (List.mem_of_getElem? (i := 2) rfl))) (mvT hZ (hw _ (List.mem_of_getElem? (i := 3) rfl))) (mvT hZ (hw _ (List.mem_of_getElem? (i := 4) rfl))) (by decide) (backOf (W := 0) (own_pick4 l Z a0 hw [] A h0 n0 Z0 En ) hZ (hw _ (List.mem_of_getElem? (i := 4) rfl)) (hw _ (List.mem_of_getElem? (i := 3) rfl)) (by decide) (by decide)) (g := (mkF m 9 #[.val (.int p1), .val (.int p2), .val (.int (4 : Int32)), .unset, .unset, .unset] [(.int (4 : Int32))])) rfl (by rw [hml]; rfl) (argsL := [(.int (4 : Int32))]) (rest := []) (lenOf own_pd1 rfl) rfl (by show 2 * 0 + _ ≤ _; exact Nat.le_of_eq rfl) (hb hby at_9) (fun _ _ => ⟨rfl, e0, (by decide : 0 + 0 ≤ _), (by decide : 0 + 0 ≤ _)⟩)
  dsimp only [Pt.U, Pt.locs, Pt.cells, Pt.slots] at X67 l67 y67 z67 st67 hQ67
  subst l67 y67 z67
  obtain ⟨rfl, N67q, e67⟩ := hQ67
  have N67 := Fr.app N0 N67q
  refine own_st (V := T67.setTop (mkF m 12 #[.val (.int p1), .val (.int p2), .val (.int (4 : Int32)), .unset, .unset, .unset] [(.ref (A 4))])) (fun t k => st67 _ k) ?_
  refine own_st (V := T67.setTop (mkF m 13 #[.val (.int p1), .val (.int p2), .val (.int (4 : Int32)), .val (.ref (A 4)), .unset, .unset] [])) (fun t k => XS.astoreN X67.here hx rfl (hb hby at_12) rfl rfl (l' := #[.val (.int p1), .val (.int p2), .val (.int (4 : Int32)), .val (.ref (A 4)), .unset, .unset]) rfl k) ?_
  refine own_st (V := T67.setTop (mkF m 14 #[.val (.int p1), .val (.int p2), .val (.int (4 : Int32)), .val (.ref (A 4)), .unset, .unset] [(.int p2)])) (fun t k => XS.iloadN X67.here hx rfl (hb hby at_13) rfl k) ?_
  refine own_st (V := T67.setTop (mkF m 17 #[.val (.int p1), .val (.int p2), .val (.int (4 : Int32)), .val (.ref (A 4)), .unset, .unset] [])) (fun t k => XS.ifNo X67.here hx rfl (hb hby at_14) rfl ((if0 _ _).trans (tlt hs).2.1) k) ?_
  refine own_st (V := T67.setTop (mkF m 18 #[.val (.int p1), .val (.int p2), .val (.int (4 : Int32)), .val (.ref (A 4)), .unset, .unset] [(.int (0 : Int32))])) (fun t k => XS.iconst X67.here hx rfl (hb hby at_17) k) ?_
  refine own_st (V := T67.setTop (mkF m 30 #[.val (.int p1), .val (.int p2), .val (.int (4 : Int32)), .val (.ref (A 4)), .unset, .unset] [(.int (0 : Int32))])) (fun t k => XS.goto X67.here hx rfl (pc0 := 18) (pc' := 30) rfl (hb hby at_18) (by decide) (by decide) k) ?_
  refine own_st (V := T67.setTop (mkF m 32 #[.val (.int p1), .val (.int p2), .val (.int (4 : Int32)), .val (.ref (A 4)), .val (.int (0 : Int32)), .unset] [])) (fun t k => XS.istore X67.here hx rfl (hb hby at_30) rfl (l' := #[.val (.int p1), .val (.int p2), .val (.int (4 : Int32)), .val (.ref (A 4)), .val (.int (0 : Int32)), .unset]) rfl k) ?_
  refine own_st (V := T67.setTop (mkF m 33 #[.val (.int p1), .val (.int p2), .val (.int (4 : Int32)), .val (.ref (A 4)), .val (.int (0 : Int32)), .unset] [(.int (4 : Int32))])) (fun t k => XS.iloadN X67.here hx rfl (hb hby at_32) rfl k) ?_
  obtain ⟨_, _, ⟨T68, L68, k68, n68⟩, -, X68, ⟨Lc68, hQ68, l68, y68, z68⟩, st68⟩ := Jvm.LawKit.callS X67 hx (y := (⟨"com/example/affirm_rows/affirmrows/rules/ComparisonHoldsPinLaw", "admittedSigns", "(I)I"⟩ : MethodName)) hown (mvT hZ (hw _ (List.mem_of_getElem? (i := 8) rfl))) (mvT hZ (hw _ (List.mem_of_getElem? (i := 9) rfl))) (mvT hZ (hw _ (List.mem_of_getElem? (i := 3) rfl))) (mvT hZ (hw _ (List.mem_of_getElem? (i := 10) rfl))) (by decide) (backOf (W := 0) (own_ad4 l Z a0 hw [] A h0 n0 Z0 En ) hZ (hw _ (List.mem_of_getElem? (i := 10) rfl)) (hw _ (List.mem_of_getElem? (i := 3) rfl)) (by decide) (by decide)) (g := (mkF m 33 #[.val (.int p1), .val (.int p2), .val (.int (4 : Int32)), .val (.ref (A 4)), .val (.int (0 : Int32)), .unset] [(.int (4 : Int32))])) rfl (by rw [hml]; rfl) (argsL := [(.int (4 : Int32))]) (rest := []) (lenOf own_pd2 rfl) rfl (by show 2 * 0 + _ ≤ _; exact Nat.le_of_eq rfl) (hb hby at_33) (fun _ _ => ⟨rfl, e67, (by decide : 0 + 0 ≤ _), (by decide : 0 + 0 ≤ _)⟩)
  dsimp only [Pt.U, Pt.locs, Pt.cells, Pt.slots] at X68 l68 y68 z68 st68 hQ68
  subst l68 y68 z68
  obtain ⟨rfl, N68q, e68⟩ := hQ68
  have N68 := Fr.app N67 N68q
  refine own_st (V := T68.setTop (mkF m 36 #[.val (.int p1), .val (.int p2), .val (.int (4 : Int32)), .val (.ref (A 4)), .val (.int (0 : Int32)), .unset] [(.int (4 : Int32))])) (fun t k => st68 _ k) ?_
  refine own_st (V := T68.setTop (mkF m 38 #[.val (.int p1), .val (.int p2), .val (.int (4 : Int32)), .val (.ref (A 4)), .val (.int (0 : Int32)), .unset] [(.int (0 : Int32)), (.int (4 : Int32))])) (fun t k => XS.iload X68.here hx rfl (hb hby at_36) rfl k) ?_
  refine own_st (V := T68.setTop (mkF m 39 #[.val (.int p1), .val (.int p2), .val (.int (4 : Int32)), .val (.ref (A 4)), .val (.int (0 : Int32)), .unset] [(.int ((4 : Int32) >>> ((0 : Int32) &&& 31)))])) (fun t k => XS.ishr X68.here hx rfl (hb hby at_38) rfl k) ?_
  refine own_st (V := T68.setTop (mkF m 40 #[.val (.int p1), .val (.int p2), .val (.int (4 : Int32)), .val (.ref (A 4)), .val (.int (0 : Int32)), .unset] [(.int (1 : Int32)), (.int ((4 : Int32) >>> ((0 : Int32) &&& 31)))])) (fun t k => XS.iconst X68.here hx rfl (hb hby at_39) k) ?_
  refine own_st (V := T68.setTop (mkF m 41 #[.val (.int p1), .val (.int p2), .val (.int (4 : Int32)), .val (.ref (A 4)), .val (.int (0 : Int32)), .unset] [(.int (((4 : Int32) >>> ((0 : Int32) &&& 31)) &&& (1 : Int32)))])) (fun t k => XS.iand X68.here hx rfl (hb hby at_40) rfl k) ?_
  refine own_st (V := T68.setTop (mkF m 48 #[.val (.int p1), .val (.int p2), .val (.int (4 : Int32)), .val (.ref (A 4)), .val (.int (0 : Int32)), .unset] [])) (fun t k => XS.ifYes X68.here hx rfl (pc0 := 41) (pc' := 48) rfl (hb hby at_41) rfl ((if0 _ _).trans (teq (by decide +kernel : (((4 : Int32) >>> ((0 : Int32) &&& 31)) &&& (1 : Int32)) = (0 : Int32))).1) (by decide) (by decide) k) ?_
  refine own_st (V := T68.setTop (mkF m 49 #[.val (.int p1), .val (.int p2), .val (.int (4 : Int32)), .val (.ref (A 4)), .val (.int (0 : Int32)), .unset] [(.int (0 : Int32))])) (fun t k => XS.iconst X68.here hx rfl (hb hby at_48) k) ?_
  refine own_st (V := T68.setTop (mkF m 51 #[.val (.int p1), .val (.int p2), .val (.int (4 : Int32)), .val (.ref (A 4)), .val (.int (0 : Int32)), .val (.int (0 : Int32))] [])) (fun t k => XS.istore X68.here hx rfl (hb hby at_49) rfl (l' := #[.val (.int p1), .val (.int p2), .val (.int (4 : Int32)), .val (.ref (A 4)), .val (.int (0 : Int32)), .val (.int (0 : Int32))]) rfl k) ?_
  refine own_st (V := T68.setTop (mkF m 52 #[.val (.int p1), .val (.int p2), .val (.int (4 : Int32)), .val (.ref (A 4)), .val (.int (0 : Int32)), .val (.int (0 : Int32))] [(.ref (A 4))])) (fun t k => XS.aloadN X68.here hx rfl (hb hby at_51) rfl rfl k) ?_
  refine own_st (V := T68.setTop (mkF m 53 #[.val (.int p1), .val (.int p2), .val (.int (4 : Int32)), .val (.ref (A 4)), .val (.int (0 : Int32)), .val (.int (0 : Int32))] [(.int p2), (.ref (A 4))])) (fun t k => XS.iloadN X68.here hx rfl (hb hby at_52) rfl k) ?_
  obtain ⟨cq69, kq69, q69a, q69b, q69c⟩ := isOf hZ e68 (own_E En 4 (i := 4) (n := "GREATER") rfl)
  obtain ⟨_, _, ⟨T69, L69, k69, n69⟩, -, X69, ⟨Lc69, hQ69, l69, y69, z69⟩, st69⟩ := X68.virtualBack hx (y := (⟨"com/example/affirm_rows/affirmrows/rules/Comparison", "holds", "(I)Z"⟩ : MethodName)) (z := (⟨"com/example/affirm_rows/affirmrows/rules/Comparison", "holds", "(I)Z"⟩ : MethodName)) hown (mvT hZ (hw _ (List.mem_of_getElem? (i := 11) rfl))) (mvT hZ (hw _ (List.mem_of_getElem? (i := 12) rfl))) (notFace_of_selects (args := #[]) (mvT hZ (hw _ (List.mem_of_getElem? (i := 14) rfl)))) (mvT hZ (hw _ (List.mem_of_getElem? (i := 14) rfl))) (mvT hZ (hw _ (List.mem_of_getElem? (i := 13) rfl))) (by decide) (backOf (W := 0) (own_ho4n l Z a0 hw [] p2 A h0 n0 Z0 En hs) hZ (hw _ (List.mem_of_getElem? (i := 15) rfl)) (hw _ (List.mem_of_getElem? (i := 6) rfl)) (by decide) (by decide)) q69a q69c (g := (mkF m 53 #[.val (.int p1), .val (.int p2), .val (.int (4 : Int32)), .val (.ref (A 4)), .val (.int (0 : Int32)), .val (.int (0 : Int32))] [(.int p2), (.ref (A 4))])) rfl (by rw [hml]; rfl) (Steps.refl _) (argsL := [(.int p2)]) (rest := []) (lenOf own_pd3 rfl) rfl (by show 2 * 0 + _ ≤ _; exact Nat.le_of_eq rfl) (hb hby at_53) (fun _ _ => ⟨rfl, e68, (by decide : 0 + 0 ≤ _), (by decide : 0 + 0 ≤ _)⟩)
  dsimp only [Pt.U, Pt.locs, Pt.cells, Pt.slots] at X69 l69 y69 z69 st69 hQ69
  subst l69 y69 z69
  obtain ⟨rfl, N69q, e69⟩ := hQ69
  have N69 := Fr.app N68 N69q
  refine own_st (V := T69.setTop (mkF m 56 #[.val (.int p1), .val (.int p2), .val (.int (4 : Int32)), .val (.ref (A 4)), .val (.int (0 : Int32)), .val (.int (0 : Int32))] [(.int (0 : Int32))])) (fun t k => st69.trans k) ?_
  refine own_st (V := T69.setTop (mkF m 58 #[.val (.int p1), .val (.int p2), .val (.int (4 : Int32)), .val (.ref (A 4)), .val (.int (0 : Int32)), .val (.int (0 : Int32))] [(.int (0 : Int32)), (.int (0 : Int32))])) (fun t k => XS.iload X69.here hx rfl (hb hby at_56) rfl k) ?_
  refine own_st (V := T69.setTop (mkF m 61 #[.val (.int p1), .val (.int p2), .val (.int (4 : Int32)), .val (.ref (A 4)), .val (.int (0 : Int32)), .val (.int (0 : Int32))] [])) (fun t k => XS.icmpNo X69.here hx rfl (hb hby at_58) rfl (teq (by decide : (0 : Int32) = (0 : Int32))).2 k) ?_
  refine own_st (V := T69.setTop (mkF m 62 #[.val (.int p1), .val (.int p2), .val (.int (4 : Int32)), .val (.ref (A 4)), .val (.int (0 : Int32)), .val (.int (0 : Int32))] [(.int (1 : Int32))])) (fun t k => XS.iconst X69.here hx rfl (hb hby at_61) k) ?_
  refine own_st (V := T69.setTop (mkF m 66 #[.val (.int p1), .val (.int p2), .val (.int (4 : Int32)), .val (.ref (A 4)), .val (.int (0 : Int32)), .val (.int (0 : Int32))] [(.int (1 : Int32))])) (fun t k => XS.goto X69.here hx rfl (pc0 := 62) (pc' := 66) rfl (hb hby at_62) (by decide) (by decide) k) ?_
  exact own_ret X69 hx hlk Bd.returns (by decide +kernel) (Or.inl ⟨rfl, by simp, _, rfl⟩) (hb hby at_66) (by decide) (by decide) (by show own_Q0 Z p1 p2 A h0 n0 _ T69.heap _; rw [e69]; exact ⟨rfl, N69⟩)
set_option maxRecDepth 65536 in
set_option maxHeartbeats 40000000 in
theorem own_law4z (l : Launch) (Z : State) (a0 : Array Value) (hw : ∀ d ∈ tables_1, d.before a0 Z = true) (ws : List Jvm.Cond) (p1 : Int32) (p2 : Int32) (A : Nat → Addr) (h0 : Heap) (n0 : Nat) (Z0 : n0 ≤ h0.size) (En : own_En Z h0 A) (hk : ((p1 &&& (2147483647 : Int32)) % (6 : Int32)) = (4 : Int32)) (hs : p2 = (0 : Int32)) :
    MetFree l x (head1 (Jvm.Cond.code x code maxLocals ret :: ws) room_1) (fun a U => a = #[(.int p1), (.int p2)] ∧ Z.Warmed39 U.vm ∧ U.heap = h0) (fun _ _ _ _ _ => True) (fun _ U o U' => ∃ v L, o = .returned v ∧ own_Q0 Z p1 p2 A h0 n0 v U'.heap L ∧ FrameEnd U o U' L room_1.cells room_1.slots) := by
  refine MetFree.of_bodySF (plainFor_of_name own_pn_com_example_affirm_rows_affirmrows_rules_ComparisonHoldsPinLaw) hisR ?_
  intro p e s m args below meth c s₁ Bd hml0 hP hK
  obtain ⟨rfl, hZ, hh⟩ := hP
  have hx := Bd.exec
  have hby := Bd.bytes
  have hml : c.maxLocals = 6 := hml0
  have hown : s.vm.findClass "com/example/affirm_rows/affirmrows/rules/ComparisonHoldsPinLaw" = some m.cls := findClass_of_methodNamed Bd.named
  have hnm := (name_of_methodNamed Bd.named Bd.method).1
  have hlk : meth.locks = false := BodyLoose.notSynchronized Bd
  have X0 : Stand p l e room_1 s m #[(.int p1), (.int p2)] below meth c s₁ [] 0 0 := Stand.of_body Bd
  have e0 : s₁.heap = h0 := by rw [← hh, Bd.state]; rfl
  have N0 := Fr.nil n0
  show own_Go p e below #[(.int p1), (.int p2)] s (fun _ U o U' => ∃ v L, o = .returned v ∧ own_Q0 Z p1 p2 A h0 n0 v U'.heap L ∧ FrameEnd U o U' L room_1.cells room_1.slots) (s₁.setTop (entryFrame m #[(.int p1), (.int p2)] maxLocals))
  refine own_st (V := s₁.setTop (mkF m 0 #[.val (.int p1), .val (.int p2), .unset, .unset, .unset, .unset] [])) (fun t k => castTop (by first | (simp [entryFrame, mkF, argsToLocals, Value.category, maxLocals]; done) | rfl) k) ?_
  refine own_st (V := s₁.setTop (mkF m 1 #[.val (.int p1), .val (.int p2), .unset, .unset, .unset, .unset] [(.int p1)])) (fun t k => XS.iloadN X0.here hx rfl (hb hby at_0) rfl k) ?_
  refine own_st (V := s₁.setTop (mkF m 3 #[.val (.int p1), .val (.int p2), .unset, .unset, .unset, .unset] [(.int (2147483647 : Int32)), (.int p1)])) (fun t k => X0.ldcInt hx hown (mvT hZ (hw _ (List.mem_of_getElem? (i := 0) rfl))) (g := (mkF m 1 #[.val (.int p1), .val (.int p2), .unset, .unset, .unset, .unset] [(.int p1)])) rfl (hb hby at_1) t k) ?_
  refine own_st (V := s₁.setTop (mkF m 4 #[.val (.int p1), .val (.int p2), .unset, .unset, .unset, .unset] [(.int (p1 &&& (2147483647 : Int32)))])) (fun t k => XS.iand X0.here hx rfl (hb hby at_3) rfl k) ?_
  refine own_st (V := s₁.setTop (mkF m 6 #[.val (.int p1), .val (.int p2), .unset, .unset, .unset, .unset] [(.int (6 : Int32)), (.int (p1 &&& (2147483647 : Int32)))])) (fun t k => XS.bipush X0.here hx rfl (hb hby at_4) k) ?_
  refine own_st (V := s₁.setTop (mkF m 7 #[.val (.int p1), .val (.int p2), .unset, .unset, .unset, .unset] [(.int ((p1 &&& (2147483647 : Int32)) % (6 : Int32)))])) (fun t k => Jvm.RoadKit.iremM X0 hx rfl (hb hby at_6) rfl (by decide) k) ?_
  rw [hk]
  refine own_st (V := s₁.setTop (mkF m 8 #[.val (.int p1), .val (.int p2), .val (.int (4 : Int32)), .unset, .unset, .unset] [])) (fun t k => XS.istoreN X0.here hx rfl (hb hby at_7) rfl (l' := #[.val (.int p1), .val (.int p2), .val (.int (4 : Int32)), .unset, .unset, .unset]) rfl k) ?_
  refine own_st (V := s₁.setTop (mkF m 9 #[.val (.int p1), .val (.int p2), .val (.int (4 : Int32)), .unset, .unset, .unset] [(.int (4 : Int32))])) (fun t k => XS.iloadN X0.here hx rfl (hb hby at_8) rfl k) ?_
  obtain ⟨_, _, ⟨T70, L70, k70, n70⟩, -, X70, ⟨Lc70, hQ70, l70, y70, z70⟩, st70⟩ := Jvm.LawKit.callS X0 hx (y := (⟨"com/example/affirm_rows/affirmrows/rules/ComparisonHoldsPinLaw", "pick", "(I)Lcom/example/affirm_rows/affirmrows/rules/Comparison;"⟩ : MethodName)) hown (mvT hZ (hw _ (List.mem_of_getElem? (i := 1) rfl))) (mvT hZ (hw _ (List.mem_of_getElem? (i := 2) rfl))) (mvT hZ (hw _ (List.mem_of_getElem? (i := 3) rfl))) (mvT hZ (hw _ (List.mem_of_getElem? (i := 4) rfl))) (by decide) (backOf (W := 0) (own_pick4 l Z a0 hw [] A h0 n0 Z0 En ) hZ (hw _ (List.mem_of_getElem? (i := 4) rfl)) (hw _ (List.mem_of_getElem? (i := 3) rfl)) (by decide) (by decide)) (g := (mkF m 9 #[.val (.int p1), .val (.int p2), .val (.int (4 : Int32)), .unset, .unset, .unset] [(.int (4 : Int32))])) rfl (by rw [hml]; rfl) (argsL := [(.int (4 : Int32))]) (rest := []) (lenOf own_pd1 rfl) rfl (by show 2 * 0 + _ ≤ _; exact Nat.le_of_eq rfl) (hb hby at_9) (fun _ _ => ⟨rfl, e0, (by decide : 0 + 0 ≤ _), (by decide : 0 + 0 ≤ _)⟩)
  dsimp only [Pt.U, Pt.locs, Pt.cells, Pt.slots] at X70 l70 y70 z70 st70 hQ70
  subst l70 y70 z70
  obtain ⟨rfl, N70q, e70⟩ := hQ70
  have N70 := Fr.app N0 N70q
  refine own_st (V := T70.setTop (mkF m 12 #[.val (.int p1), .val (.int p2), .val (.int (4 : Int32)), .unset, .unset, .unset] [(.ref (A 4))])) (fun t k => st70 _ k) ?_
  refine own_st (V := T70.setTop (mkF m 13 #[.val (.int p1), .val (.int p2), .val (.int (4 : Int32)), .val (.ref (A 4)), .unset, .unset] [])) (fun t k => XS.astoreN X70.here hx rfl (hb hby at_12) rfl rfl (l' := #[.val (.int p1), .val (.int p2), .val (.int (4 : Int32)), .val (.ref (A 4)), .unset, .unset]) rfl k) ?_
  refine own_st (V := T70.setTop (mkF m 14 #[.val (.int p1), .val (.int p2), .val (.int (4 : Int32)), .val (.ref (A 4)), .unset, .unset] [(.int p2)])) (fun t k => XS.iloadN X70.here hx rfl (hb hby at_13) rfl k) ?_
  refine own_st (V := T70.setTop (mkF m 21 #[.val (.int p1), .val (.int p2), .val (.int (4 : Int32)), .val (.ref (A 4)), .unset, .unset] [])) (fun t k => XS.ifYes X70.here hx rfl (pc0 := 14) (pc' := 21) rfl (hb hby at_14) rfl ((if0 _ _).trans (flt (own_z1 hs)).2.1) (by decide) (by decide) k) ?_
  refine own_st (V := T70.setTop (mkF m 22 #[.val (.int p1), .val (.int p2), .val (.int (4 : Int32)), .val (.ref (A 4)), .unset, .unset] [(.int p2)])) (fun t k => XS.iloadN X70.here hx rfl (hb hby at_21) rfl k) ?_
  refine own_st (V := T70.setTop (mkF m 25 #[.val (.int p1), .val (.int p2), .val (.int (4 : Int32)), .val (.ref (A 4)), .unset, .unset] [])) (fun t k => XS.ifNo X70.here hx rfl (hb hby at_22) rfl ((if0 _ _).trans (teq hs).2) k) ?_
  refine own_st (V := T70.setTop (mkF m 26 #[.val (.int p1), .val (.int p2), .val (.int (4 : Int32)), .val (.ref (A 4)), .unset, .unset] [(.int (1 : Int32))])) (fun t k => XS.iconst X70.here hx rfl (hb hby at_25) k) ?_
  refine own_st (V := T70.setTop (mkF m 30 #[.val (.int p1), .val (.int p2), .val (.int (4 : Int32)), .val (.ref (A 4)), .unset, .unset] [(.int (1 : Int32))])) (fun t k => XS.goto X70.here hx rfl (pc0 := 26) (pc' := 30) rfl (hb hby at_26) (by decide) (by decide) k) ?_
  refine own_st (V := T70.setTop (mkF m 32 #[.val (.int p1), .val (.int p2), .val (.int (4 : Int32)), .val (.ref (A 4)), .val (.int (1 : Int32)), .unset] [])) (fun t k => XS.istore X70.here hx rfl (hb hby at_30) rfl (l' := #[.val (.int p1), .val (.int p2), .val (.int (4 : Int32)), .val (.ref (A 4)), .val (.int (1 : Int32)), .unset]) rfl k) ?_
  refine own_st (V := T70.setTop (mkF m 33 #[.val (.int p1), .val (.int p2), .val (.int (4 : Int32)), .val (.ref (A 4)), .val (.int (1 : Int32)), .unset] [(.int (4 : Int32))])) (fun t k => XS.iloadN X70.here hx rfl (hb hby at_32) rfl k) ?_
  obtain ⟨_, _, ⟨T71, L71, k71, n71⟩, -, X71, ⟨Lc71, hQ71, l71, y71, z71⟩, st71⟩ := Jvm.LawKit.callS X70 hx (y := (⟨"com/example/affirm_rows/affirmrows/rules/ComparisonHoldsPinLaw", "admittedSigns", "(I)I"⟩ : MethodName)) hown (mvT hZ (hw _ (List.mem_of_getElem? (i := 8) rfl))) (mvT hZ (hw _ (List.mem_of_getElem? (i := 9) rfl))) (mvT hZ (hw _ (List.mem_of_getElem? (i := 3) rfl))) (mvT hZ (hw _ (List.mem_of_getElem? (i := 10) rfl))) (by decide) (backOf (W := 0) (own_ad4 l Z a0 hw [] A h0 n0 Z0 En ) hZ (hw _ (List.mem_of_getElem? (i := 10) rfl)) (hw _ (List.mem_of_getElem? (i := 3) rfl)) (by decide) (by decide)) (g := (mkF m 33 #[.val (.int p1), .val (.int p2), .val (.int (4 : Int32)), .val (.ref (A 4)), .val (.int (1 : Int32)), .unset] [(.int (4 : Int32))])) rfl (by rw [hml]; rfl) (argsL := [(.int (4 : Int32))]) (rest := []) (lenOf own_pd2 rfl) rfl (by show 2 * 0 + _ ≤ _; exact Nat.le_of_eq rfl) (hb hby at_33) (fun _ _ => ⟨rfl, e70, (by decide : 0 + 0 ≤ _), (by decide : 0 + 0 ≤ _)⟩)
  dsimp only [Pt.U, Pt.locs, Pt.cells, Pt.slots] at X71 l71 y71 z71 st71 hQ71
  subst l71 y71 z71
  obtain ⟨rfl, N71q, e71⟩ := hQ71
  have N71 := Fr.app N70 N71q
  refine own_st (V := T71.setTop (mkF m 36 #[.val (.int p1), .val (.int p2), .val (.int (4 : Int32)), .val (.ref (A 4)), .val (.int (1 : Int32)), .unset] [(.int (4 : Int32))])) (fun t k => st71 _ k) ?_
  refine own_st (V := T71.setTop (mkF m 38 #[.val (.int p1), .val (.int p2), .val (.int (4 : Int32)), .val (.ref (A 4)), .val (.int (1 : Int32)), .unset] [(.int (1 : Int32)), (.int (4 : Int32))])) (fun t k => XS.iload X71.here hx rfl (hb hby at_36) rfl k) ?_
  refine own_st (V := T71.setTop (mkF m 39 #[.val (.int p1), .val (.int p2), .val (.int (4 : Int32)), .val (.ref (A 4)), .val (.int (1 : Int32)), .unset] [(.int ((4 : Int32) >>> ((1 : Int32) &&& 31)))])) (fun t k => XS.ishr X71.here hx rfl (hb hby at_38) rfl k) ?_
  refine own_st (V := T71.setTop (mkF m 40 #[.val (.int p1), .val (.int p2), .val (.int (4 : Int32)), .val (.ref (A 4)), .val (.int (1 : Int32)), .unset] [(.int (1 : Int32)), (.int ((4 : Int32) >>> ((1 : Int32) &&& 31)))])) (fun t k => XS.iconst X71.here hx rfl (hb hby at_39) k) ?_
  refine own_st (V := T71.setTop (mkF m 41 #[.val (.int p1), .val (.int p2), .val (.int (4 : Int32)), .val (.ref (A 4)), .val (.int (1 : Int32)), .unset] [(.int (((4 : Int32) >>> ((1 : Int32) &&& 31)) &&& (1 : Int32)))])) (fun t k => XS.iand X71.here hx rfl (hb hby at_40) rfl k) ?_
  refine own_st (V := T71.setTop (mkF m 48 #[.val (.int p1), .val (.int p2), .val (.int (4 : Int32)), .val (.ref (A 4)), .val (.int (1 : Int32)), .unset] [])) (fun t k => XS.ifYes X71.here hx rfl (pc0 := 41) (pc' := 48) rfl (hb hby at_41) rfl ((if0 _ _).trans (teq (by decide +kernel : (((4 : Int32) >>> ((1 : Int32) &&& 31)) &&& (1 : Int32)) = (0 : Int32))).1) (by decide) (by decide) k) ?_
  refine own_st (V := T71.setTop (mkF m 49 #[.val (.int p1), .val (.int p2), .val (.int (4 : Int32)), .val (.ref (A 4)), .val (.int (1 : Int32)), .unset] [(.int (0 : Int32))])) (fun t k => XS.iconst X71.here hx rfl (hb hby at_48) k) ?_
  refine own_st (V := T71.setTop (mkF m 51 #[.val (.int p1), .val (.int p2), .val (.int (4 : Int32)), .val (.ref (A 4)), .val (.int (1 : Int32)), .val (.int (0 : Int32))] [])) (fun t k => XS.istore X71.here hx rfl (hb hby at_49) rfl (l' := #[.val (.int p1), .val (.int p2), .val (.int (4 : Int32)), .val (.ref (A 4)), .val (.int (1 : Int32)), .val (.int (0 : Int32))]) rfl k) ?_
  refine own_st (V := T71.setTop (mkF m 52 #[.val (.int p1), .val (.int p2), .val (.int (4 : Int32)), .val (.ref (A 4)), .val (.int (1 : Int32)), .val (.int (0 : Int32))] [(.ref (A 4))])) (fun t k => XS.aloadN X71.here hx rfl (hb hby at_51) rfl rfl k) ?_
  refine own_st (V := T71.setTop (mkF m 53 #[.val (.int p1), .val (.int p2), .val (.int (4 : Int32)), .val (.ref (A 4)), .val (.int (1 : Int32)), .val (.int (0 : Int32))] [(.int p2), (.ref (A 4))])) (fun t k => XS.iloadN X71.here hx rfl (hb hby at_52) rfl k) ?_
  obtain ⟨cq72, kq72, q72a, q72b, q72c⟩ := isOf hZ e71 (own_E En 4 (i := 4) (n := "GREATER") rfl)
  obtain ⟨_, _, ⟨T72, L72, k72, n72⟩, -, X72, ⟨Lc72, hQ72, l72, y72, z72⟩, st72⟩ := X71.virtualBack hx (y := (⟨"com/example/affirm_rows/affirmrows/rules/Comparison", "holds", "(I)Z"⟩ : MethodName)) (z := (⟨"com/example/affirm_rows/affirmrows/rules/Comparison", "holds", "(I)Z"⟩ : MethodName)) hown (mvT hZ (hw _ (List.mem_of_getElem? (i := 11) rfl))) (mvT hZ (hw _ (List.mem_of_getElem? (i := 12) rfl))) (notFace_of_selects (args := #[]) (mvT hZ (hw _ (List.mem_of_getElem? (i := 14) rfl)))) (mvT hZ (hw _ (List.mem_of_getElem? (i := 14) rfl))) (mvT hZ (hw _ (List.mem_of_getElem? (i := 13) rfl))) (by decide) (backOf (W := 0) (own_ho4z l Z a0 hw [] p2 A h0 n0 Z0 En hs) hZ (hw _ (List.mem_of_getElem? (i := 15) rfl)) (hw _ (List.mem_of_getElem? (i := 6) rfl)) (by decide) (by decide)) q72a q72c (g := (mkF m 53 #[.val (.int p1), .val (.int p2), .val (.int (4 : Int32)), .val (.ref (A 4)), .val (.int (1 : Int32)), .val (.int (0 : Int32))] [(.int p2), (.ref (A 4))])) rfl (by rw [hml]; rfl) (Steps.refl _) (argsL := [(.int p2)]) (rest := []) (lenOf own_pd3 rfl) rfl (by show 2 * 0 + _ ≤ _; exact Nat.le_of_eq rfl) (hb hby at_53) (fun _ _ => ⟨rfl, e71, (by decide : 0 + 0 ≤ _), (by decide : 0 + 0 ≤ _)⟩)
  dsimp only [Pt.U, Pt.locs, Pt.cells, Pt.slots] at X72 l72 y72 z72 st72 hQ72
  subst l72 y72 z72
  obtain ⟨rfl, N72q, e72⟩ := hQ72
  have N72 := Fr.app N71 N72q
  refine own_st (V := T72.setTop (mkF m 56 #[.val (.int p1), .val (.int p2), .val (.int (4 : Int32)), .val (.ref (A 4)), .val (.int (1 : Int32)), .val (.int (0 : Int32))] [(.int (0 : Int32))])) (fun t k => st72.trans k) ?_
  refine own_st (V := T72.setTop (mkF m 58 #[.val (.int p1), .val (.int p2), .val (.int (4 : Int32)), .val (.ref (A 4)), .val (.int (1 : Int32)), .val (.int (0 : Int32))] [(.int (0 : Int32)), (.int (0 : Int32))])) (fun t k => XS.iload X72.here hx rfl (hb hby at_56) rfl k) ?_
  refine own_st (V := T72.setTop (mkF m 61 #[.val (.int p1), .val (.int p2), .val (.int (4 : Int32)), .val (.ref (A 4)), .val (.int (1 : Int32)), .val (.int (0 : Int32))] [])) (fun t k => XS.icmpNo X72.here hx rfl (hb hby at_58) rfl (teq (by decide : (0 : Int32) = (0 : Int32))).2 k) ?_
  refine own_st (V := T72.setTop (mkF m 62 #[.val (.int p1), .val (.int p2), .val (.int (4 : Int32)), .val (.ref (A 4)), .val (.int (1 : Int32)), .val (.int (0 : Int32))] [(.int (1 : Int32))])) (fun t k => XS.iconst X72.here hx rfl (hb hby at_61) k) ?_
  refine own_st (V := T72.setTop (mkF m 66 #[.val (.int p1), .val (.int p2), .val (.int (4 : Int32)), .val (.ref (A 4)), .val (.int (1 : Int32)), .val (.int (0 : Int32))] [(.int (1 : Int32))])) (fun t k => XS.goto X72.here hx rfl (pc0 := 62) (pc' := 66) rfl (hb hby at_62) (by decide) (by decide) k) ?_
  exact own_ret X72 hx hlk Bd.returns (by decide +kernel) (Or.inl ⟨rfl, by simp, _, rfl⟩) (hb hby at_66) (by decide) (by decide) (by show own_Q0 Z p1 p2 A h0 n0 _ T72.heap _; rw [e72]; exact ⟨rfl, N72⟩)
set_option maxRecDepth 65536 in
set_option maxHeartbeats 40000000 in
theorem own_law4p (l : Launch) (Z : State) (a0 : Array Value) (hw : ∀ d ∈ tables_1, d.before a0 Z = true) (ws : List Jvm.Cond) (p1 : Int32) (p2 : Int32) (A : Nat → Addr) (h0 : Heap) (n0 : Nat) (Z0 : n0 ≤ h0.size) (En : own_En Z h0 A) (hk : ((p1 &&& (2147483647 : Int32)) % (6 : Int32)) = (4 : Int32)) (hs : (0 : Int32) < p2) :
    MetFree l x (head1 (Jvm.Cond.code x code maxLocals ret :: ws) room_1) (fun a U => a = #[(.int p1), (.int p2)] ∧ Z.Warmed39 U.vm ∧ U.heap = h0) (fun _ _ _ _ _ => True) (fun _ U o U' => ∃ v L, o = .returned v ∧ own_Q0 Z p1 p2 A h0 n0 v U'.heap L ∧ FrameEnd U o U' L room_1.cells room_1.slots) := by
  refine MetFree.of_bodySF (plainFor_of_name own_pn_com_example_affirm_rows_affirmrows_rules_ComparisonHoldsPinLaw) hisR ?_
  intro p e s m args below meth c s₁ Bd hml0 hP hK
  obtain ⟨rfl, hZ, hh⟩ := hP
  have hx := Bd.exec
  have hby := Bd.bytes
  have hml : c.maxLocals = 6 := hml0
  have hown : s.vm.findClass "com/example/affirm_rows/affirmrows/rules/ComparisonHoldsPinLaw" = some m.cls := findClass_of_methodNamed Bd.named
  have hnm := (name_of_methodNamed Bd.named Bd.method).1
  have hlk : meth.locks = false := BodyLoose.notSynchronized Bd
  have X0 : Stand p l e room_1 s m #[(.int p1), (.int p2)] below meth c s₁ [] 0 0 := Stand.of_body Bd
  have e0 : s₁.heap = h0 := by rw [← hh, Bd.state]; rfl
  have N0 := Fr.nil n0
  show own_Go p e below #[(.int p1), (.int p2)] s (fun _ U o U' => ∃ v L, o = .returned v ∧ own_Q0 Z p1 p2 A h0 n0 v U'.heap L ∧ FrameEnd U o U' L room_1.cells room_1.slots) (s₁.setTop (entryFrame m #[(.int p1), (.int p2)] maxLocals))
  refine own_st (V := s₁.setTop (mkF m 0 #[.val (.int p1), .val (.int p2), .unset, .unset, .unset, .unset] [])) (fun t k => castTop (by first | (simp [entryFrame, mkF, argsToLocals, Value.category, maxLocals]; done) | rfl) k) ?_
  refine own_st (V := s₁.setTop (mkF m 1 #[.val (.int p1), .val (.int p2), .unset, .unset, .unset, .unset] [(.int p1)])) (fun t k => XS.iloadN X0.here hx rfl (hb hby at_0) rfl k) ?_
  refine own_st (V := s₁.setTop (mkF m 3 #[.val (.int p1), .val (.int p2), .unset, .unset, .unset, .unset] [(.int (2147483647 : Int32)), (.int p1)])) (fun t k => X0.ldcInt hx hown (mvT hZ (hw _ (List.mem_of_getElem? (i := 0) rfl))) (g := (mkF m 1 #[.val (.int p1), .val (.int p2), .unset, .unset, .unset, .unset] [(.int p1)])) rfl (hb hby at_1) t k) ?_
  refine own_st (V := s₁.setTop (mkF m 4 #[.val (.int p1), .val (.int p2), .unset, .unset, .unset, .unset] [(.int (p1 &&& (2147483647 : Int32)))])) (fun t k => XS.iand X0.here hx rfl (hb hby at_3) rfl k) ?_
  refine own_st (V := s₁.setTop (mkF m 6 #[.val (.int p1), .val (.int p2), .unset, .unset, .unset, .unset] [(.int (6 : Int32)), (.int (p1 &&& (2147483647 : Int32)))])) (fun t k => XS.bipush X0.here hx rfl (hb hby at_4) k) ?_
  refine own_st (V := s₁.setTop (mkF m 7 #[.val (.int p1), .val (.int p2), .unset, .unset, .unset, .unset] [(.int ((p1 &&& (2147483647 : Int32)) % (6 : Int32)))])) (fun t k => Jvm.RoadKit.iremM X0 hx rfl (hb hby at_6) rfl (by decide) k) ?_
  rw [hk]
  refine own_st (V := s₁.setTop (mkF m 8 #[.val (.int p1), .val (.int p2), .val (.int (4 : Int32)), .unset, .unset, .unset] [])) (fun t k => XS.istoreN X0.here hx rfl (hb hby at_7) rfl (l' := #[.val (.int p1), .val (.int p2), .val (.int (4 : Int32)), .unset, .unset, .unset]) rfl k) ?_
  refine own_st (V := s₁.setTop (mkF m 9 #[.val (.int p1), .val (.int p2), .val (.int (4 : Int32)), .unset, .unset, .unset] [(.int (4 : Int32))])) (fun t k => XS.iloadN X0.here hx rfl (hb hby at_8) rfl k) ?_
  obtain ⟨_, _, ⟨T73, L73, k73, n73⟩, -, X73, ⟨Lc73, hQ73, l73, y73, z73⟩, st73⟩ := Jvm.LawKit.callS X0 hx (y := (⟨"com/example/affirm_rows/affirmrows/rules/ComparisonHoldsPinLaw", "pick", "(I)Lcom/example/affirm_rows/affirmrows/rules/Comparison;"⟩ : MethodName)) hown (mvT hZ (hw _ (List.mem_of_getElem? (i := 1) rfl))) (mvT hZ (hw _ (List.mem_of_getElem? (i := 2) rfl))) (mvT hZ (hw _ (List.mem_of_getElem? (i := 3) rfl))) (mvT hZ (hw _ (List.mem_of_getElem? (i := 4) rfl))) (by decide) (backOf (W := 0) (own_pick4 l Z a0 hw [] A h0 n0 Z0 En ) hZ (hw _ (List.mem_of_getElem? (i := 4) rfl)) (hw _ (List.mem_of_getElem? (i := 3) rfl)) (by decide) (by decide)) (g := (mkF m 9 #[.val (.int p1), .val (.int p2), .val (.int (4 : Int32)), .unset, .unset, .unset] [(.int (4 : Int32))])) rfl (by rw [hml]; rfl) (argsL := [(.int (4 : Int32))]) (rest := []) (lenOf own_pd1 rfl) rfl (by show 2 * 0 + _ ≤ _; exact Nat.le_of_eq rfl) (hb hby at_9) (fun _ _ => ⟨rfl, e0, (by decide : 0 + 0 ≤ _), (by decide : 0 + 0 ≤ _)⟩)
  dsimp only [Pt.U, Pt.locs, Pt.cells, Pt.slots] at X73 l73 y73 z73 st73 hQ73
  subst l73 y73 z73
  obtain ⟨rfl, N73q, e73⟩ := hQ73
  have N73 := Fr.app N0 N73q
  refine own_st (V := T73.setTop (mkF m 12 #[.val (.int p1), .val (.int p2), .val (.int (4 : Int32)), .unset, .unset, .unset] [(.ref (A 4))])) (fun t k => st73 _ k) ?_
  refine own_st (V := T73.setTop (mkF m 13 #[.val (.int p1), .val (.int p2), .val (.int (4 : Int32)), .val (.ref (A 4)), .unset, .unset] [])) (fun t k => XS.astoreN X73.here hx rfl (hb hby at_12) rfl rfl (l' := #[.val (.int p1), .val (.int p2), .val (.int (4 : Int32)), .val (.ref (A 4)), .unset, .unset]) rfl k) ?_
  refine own_st (V := T73.setTop (mkF m 14 #[.val (.int p1), .val (.int p2), .val (.int (4 : Int32)), .val (.ref (A 4)), .unset, .unset] [(.int p2)])) (fun t k => XS.iloadN X73.here hx rfl (hb hby at_13) rfl k) ?_
  refine own_st (V := T73.setTop (mkF m 21 #[.val (.int p1), .val (.int p2), .val (.int (4 : Int32)), .val (.ref (A 4)), .unset, .unset] [])) (fun t k => XS.ifYes X73.here hx rfl (pc0 := 14) (pc' := 21) rfl (hb hby at_14) rfl ((if0 _ _).trans (flt (own_p1 hs)).2.1) (by decide) (by decide) k) ?_
  refine own_st (V := T73.setTop (mkF m 22 #[.val (.int p1), .val (.int p2), .val (.int (4 : Int32)), .val (.ref (A 4)), .unset, .unset] [(.int p2)])) (fun t k => XS.iloadN X73.here hx rfl (hb hby at_21) rfl k) ?_
  refine own_st (V := T73.setTop (mkF m 29 #[.val (.int p1), .val (.int p2), .val (.int (4 : Int32)), .val (.ref (A 4)), .unset, .unset] [])) (fun t k => XS.ifYes X73.here hx rfl (pc0 := 22) (pc' := 29) rfl (hb hby at_22) rfl ((if0 _ _).trans (feq (own_p2 hs)).2) (by decide) (by decide) k) ?_
  refine own_st (V := T73.setTop (mkF m 30 #[.val (.int p1), .val (.int p2), .val (.int (4 : Int32)), .val (.ref (A 4)), .unset, .unset] [(.int (2 : Int32))])) (fun t k => XS.iconst X73.here hx rfl (hb hby at_29) k) ?_
  refine own_st (V := T73.setTop (mkF m 32 #[.val (.int p1), .val (.int p2), .val (.int (4 : Int32)), .val (.ref (A 4)), .val (.int (2 : Int32)), .unset] [])) (fun t k => XS.istore X73.here hx rfl (hb hby at_30) rfl (l' := #[.val (.int p1), .val (.int p2), .val (.int (4 : Int32)), .val (.ref (A 4)), .val (.int (2 : Int32)), .unset]) rfl k) ?_
  refine own_st (V := T73.setTop (mkF m 33 #[.val (.int p1), .val (.int p2), .val (.int (4 : Int32)), .val (.ref (A 4)), .val (.int (2 : Int32)), .unset] [(.int (4 : Int32))])) (fun t k => XS.iloadN X73.here hx rfl (hb hby at_32) rfl k) ?_
  obtain ⟨_, _, ⟨T74, L74, k74, n74⟩, -, X74, ⟨Lc74, hQ74, l74, y74, z74⟩, st74⟩ := Jvm.LawKit.callS X73 hx (y := (⟨"com/example/affirm_rows/affirmrows/rules/ComparisonHoldsPinLaw", "admittedSigns", "(I)I"⟩ : MethodName)) hown (mvT hZ (hw _ (List.mem_of_getElem? (i := 8) rfl))) (mvT hZ (hw _ (List.mem_of_getElem? (i := 9) rfl))) (mvT hZ (hw _ (List.mem_of_getElem? (i := 3) rfl))) (mvT hZ (hw _ (List.mem_of_getElem? (i := 10) rfl))) (by decide) (backOf (W := 0) (own_ad4 l Z a0 hw [] A h0 n0 Z0 En ) hZ (hw _ (List.mem_of_getElem? (i := 10) rfl)) (hw _ (List.mem_of_getElem? (i := 3) rfl)) (by decide) (by decide)) (g := (mkF m 33 #[.val (.int p1), .val (.int p2), .val (.int (4 : Int32)), .val (.ref (A 4)), .val (.int (2 : Int32)), .unset] [(.int (4 : Int32))])) rfl (by rw [hml]; rfl) (argsL := [(.int (4 : Int32))]) (rest := []) (lenOf own_pd2 rfl) rfl (by show 2 * 0 + _ ≤ _; exact Nat.le_of_eq rfl) (hb hby at_33) (fun _ _ => ⟨rfl, e73, (by decide : 0 + 0 ≤ _), (by decide : 0 + 0 ≤ _)⟩)
  dsimp only [Pt.U, Pt.locs, Pt.cells, Pt.slots] at X74 l74 y74 z74 st74 hQ74
  subst l74 y74 z74
  obtain ⟨rfl, N74q, e74⟩ := hQ74
  have N74 := Fr.app N73 N74q
  refine own_st (V := T74.setTop (mkF m 36 #[.val (.int p1), .val (.int p2), .val (.int (4 : Int32)), .val (.ref (A 4)), .val (.int (2 : Int32)), .unset] [(.int (4 : Int32))])) (fun t k => st74 _ k) ?_
  refine own_st (V := T74.setTop (mkF m 38 #[.val (.int p1), .val (.int p2), .val (.int (4 : Int32)), .val (.ref (A 4)), .val (.int (2 : Int32)), .unset] [(.int (2 : Int32)), (.int (4 : Int32))])) (fun t k => XS.iload X74.here hx rfl (hb hby at_36) rfl k) ?_
  refine own_st (V := T74.setTop (mkF m 39 #[.val (.int p1), .val (.int p2), .val (.int (4 : Int32)), .val (.ref (A 4)), .val (.int (2 : Int32)), .unset] [(.int ((4 : Int32) >>> ((2 : Int32) &&& 31)))])) (fun t k => XS.ishr X74.here hx rfl (hb hby at_38) rfl k) ?_
  refine own_st (V := T74.setTop (mkF m 40 #[.val (.int p1), .val (.int p2), .val (.int (4 : Int32)), .val (.ref (A 4)), .val (.int (2 : Int32)), .unset] [(.int (1 : Int32)), (.int ((4 : Int32) >>> ((2 : Int32) &&& 31)))])) (fun t k => XS.iconst X74.here hx rfl (hb hby at_39) k) ?_
  refine own_st (V := T74.setTop (mkF m 41 #[.val (.int p1), .val (.int p2), .val (.int (4 : Int32)), .val (.ref (A 4)), .val (.int (2 : Int32)), .unset] [(.int (((4 : Int32) >>> ((2 : Int32) &&& 31)) &&& (1 : Int32)))])) (fun t k => XS.iand X74.here hx rfl (hb hby at_40) rfl k) ?_
  refine own_st (V := T74.setTop (mkF m 44 #[.val (.int p1), .val (.int p2), .val (.int (4 : Int32)), .val (.ref (A 4)), .val (.int (2 : Int32)), .unset] [])) (fun t k => XS.ifNo X74.here hx rfl (hb hby at_41) rfl ((if0 _ _).trans (feq (by decide +kernel : ¬ ((((4 : Int32) >>> ((2 : Int32) &&& 31)) &&& (1 : Int32)) = (0 : Int32)))).1) k) ?_
  refine own_st (V := T74.setTop (mkF m 45 #[.val (.int p1), .val (.int p2), .val (.int (4 : Int32)), .val (.ref (A 4)), .val (.int (2 : Int32)), .unset] [(.int (1 : Int32))])) (fun t k => XS.iconst X74.here hx rfl (hb hby at_44) k) ?_
  refine own_st (V := T74.setTop (mkF m 49 #[.val (.int p1), .val (.int p2), .val (.int (4 : Int32)), .val (.ref (A 4)), .val (.int (2 : Int32)), .unset] [(.int (1 : Int32))])) (fun t k => XS.goto X74.here hx rfl (pc0 := 45) (pc' := 49) rfl (hb hby at_45) (by decide) (by decide) k) ?_
  refine own_st (V := T74.setTop (mkF m 51 #[.val (.int p1), .val (.int p2), .val (.int (4 : Int32)), .val (.ref (A 4)), .val (.int (2 : Int32)), .val (.int (1 : Int32))] [])) (fun t k => XS.istore X74.here hx rfl (hb hby at_49) rfl (l' := #[.val (.int p1), .val (.int p2), .val (.int (4 : Int32)), .val (.ref (A 4)), .val (.int (2 : Int32)), .val (.int (1 : Int32))]) rfl k) ?_
  refine own_st (V := T74.setTop (mkF m 52 #[.val (.int p1), .val (.int p2), .val (.int (4 : Int32)), .val (.ref (A 4)), .val (.int (2 : Int32)), .val (.int (1 : Int32))] [(.ref (A 4))])) (fun t k => XS.aloadN X74.here hx rfl (hb hby at_51) rfl rfl k) ?_
  refine own_st (V := T74.setTop (mkF m 53 #[.val (.int p1), .val (.int p2), .val (.int (4 : Int32)), .val (.ref (A 4)), .val (.int (2 : Int32)), .val (.int (1 : Int32))] [(.int p2), (.ref (A 4))])) (fun t k => XS.iloadN X74.here hx rfl (hb hby at_52) rfl k) ?_
  obtain ⟨cq75, kq75, q75a, q75b, q75c⟩ := isOf hZ e74 (own_E En 4 (i := 4) (n := "GREATER") rfl)
  obtain ⟨_, _, ⟨T75, L75, k75, n75⟩, -, X75, ⟨Lc75, hQ75, l75, y75, z75⟩, st75⟩ := X74.virtualBack hx (y := (⟨"com/example/affirm_rows/affirmrows/rules/Comparison", "holds", "(I)Z"⟩ : MethodName)) (z := (⟨"com/example/affirm_rows/affirmrows/rules/Comparison", "holds", "(I)Z"⟩ : MethodName)) hown (mvT hZ (hw _ (List.mem_of_getElem? (i := 11) rfl))) (mvT hZ (hw _ (List.mem_of_getElem? (i := 12) rfl))) (notFace_of_selects (args := #[]) (mvT hZ (hw _ (List.mem_of_getElem? (i := 14) rfl)))) (mvT hZ (hw _ (List.mem_of_getElem? (i := 14) rfl))) (mvT hZ (hw _ (List.mem_of_getElem? (i := 13) rfl))) (by decide) (backOf (W := 0) (own_ho4p l Z a0 hw [] p2 A h0 n0 Z0 En hs) hZ (hw _ (List.mem_of_getElem? (i := 15) rfl)) (hw _ (List.mem_of_getElem? (i := 6) rfl)) (by decide) (by decide)) q75a q75c (g := (mkF m 53 #[.val (.int p1), .val (.int p2), .val (.int (4 : Int32)), .val (.ref (A 4)), .val (.int (2 : Int32)), .val (.int (1 : Int32))] [(.int p2), (.ref (A 4))])) rfl (by rw [hml]; rfl) (Steps.refl _) (argsL := [(.int p2)]) (rest := []) (lenOf own_pd3 rfl) rfl (by show 2 * 0 + _ ≤ _; exact Nat.le_of_eq rfl) (hb hby at_53) (fun _ _ => ⟨rfl, e74, (by decide : 0 + 0 ≤ _), (by decide : 0 + 0 ≤ _)⟩)
  dsimp only [Pt.U, Pt.locs, Pt.cells, Pt.slots] at X75 l75 y75 z75 st75 hQ75
  subst l75 y75 z75
  obtain ⟨rfl, N75q, e75⟩ := hQ75
  have N75 := Fr.app N74 N75q
  refine own_st (V := T75.setTop (mkF m 56 #[.val (.int p1), .val (.int p2), .val (.int (4 : Int32)), .val (.ref (A 4)), .val (.int (2 : Int32)), .val (.int (1 : Int32))] [(.int (1 : Int32))])) (fun t k => st75.trans k) ?_
  refine own_st (V := T75.setTop (mkF m 58 #[.val (.int p1), .val (.int p2), .val (.int (4 : Int32)), .val (.ref (A 4)), .val (.int (2 : Int32)), .val (.int (1 : Int32))] [(.int (1 : Int32)), (.int (1 : Int32))])) (fun t k => XS.iload X75.here hx rfl (hb hby at_56) rfl k) ?_
  refine own_st (V := T75.setTop (mkF m 61 #[.val (.int p1), .val (.int p2), .val (.int (4 : Int32)), .val (.ref (A 4)), .val (.int (2 : Int32)), .val (.int (1 : Int32))] [])) (fun t k => XS.icmpNo X75.here hx rfl (hb hby at_58) rfl (teq (by decide : (1 : Int32) = (1 : Int32))).2 k) ?_
  refine own_st (V := T75.setTop (mkF m 62 #[.val (.int p1), .val (.int p2), .val (.int (4 : Int32)), .val (.ref (A 4)), .val (.int (2 : Int32)), .val (.int (1 : Int32))] [(.int (1 : Int32))])) (fun t k => XS.iconst X75.here hx rfl (hb hby at_61) k) ?_
  refine own_st (V := T75.setTop (mkF m 66 #[.val (.int p1), .val (.int p2), .val (.int (4 : Int32)), .val (.ref (A 4)), .val (.int (2 : Int32)), .val (.int (1 : Int32))] [(.int (1 : Int32))])) (fun t k => XS.goto X75.here hx rfl (pc0 := 62) (pc' := 66) rfl (hb hby at_62) (by decide) (by decide) k) ?_
  exact own_ret X75 hx hlk Bd.returns (by decide +kernel) (Or.inl ⟨rfl, by simp, _, rfl⟩) (hb hby at_66) (by decide) (by decide) (by show own_Q0 Z p1 p2 A h0 n0 _ T75.heap _; rw [e75]; exact ⟨rfl, N75⟩)
set_option maxRecDepth 65536 in
set_option maxHeartbeats 40000000 in
theorem own_law5n (l : Launch) (Z : State) (a0 : Array Value) (hw : ∀ d ∈ tables_1, d.before a0 Z = true) (ws : List Jvm.Cond) (p1 : Int32) (p2 : Int32) (A : Nat → Addr) (h0 : Heap) (n0 : Nat) (Z0 : n0 ≤ h0.size) (En : own_En Z h0 A) (hk : ((p1 &&& (2147483647 : Int32)) % (6 : Int32)) = (5 : Int32)) (hs : p2 < (0 : Int32)) :
    MetFree l x (head1 (Jvm.Cond.code x code maxLocals ret :: ws) room_1) (fun a U => a = #[(.int p1), (.int p2)] ∧ Z.Warmed39 U.vm ∧ U.heap = h0) (fun _ _ _ _ _ => True) (fun _ U o U' => ∃ v L, o = .returned v ∧ own_Q0 Z p1 p2 A h0 n0 v U'.heap L ∧ FrameEnd U o U' L room_1.cells room_1.slots) := by
  refine MetFree.of_bodySF (plainFor_of_name own_pn_com_example_affirm_rows_affirmrows_rules_ComparisonHoldsPinLaw) hisR ?_
  intro p e s m args below meth c s₁ Bd hml0 hP hK
  obtain ⟨rfl, hZ, hh⟩ := hP
  have hx := Bd.exec
  have hby := Bd.bytes
  have hml : c.maxLocals = 6 := hml0
  have hown : s.vm.findClass "com/example/affirm_rows/affirmrows/rules/ComparisonHoldsPinLaw" = some m.cls := findClass_of_methodNamed Bd.named
  have hnm := (name_of_methodNamed Bd.named Bd.method).1
  have hlk : meth.locks = false := BodyLoose.notSynchronized Bd
  have X0 : Stand p l e room_1 s m #[(.int p1), (.int p2)] below meth c s₁ [] 0 0 := Stand.of_body Bd
  have e0 : s₁.heap = h0 := by rw [← hh, Bd.state]; rfl
  have N0 := Fr.nil n0
  show own_Go p e below #[(.int p1), (.int p2)] s (fun _ U o U' => ∃ v L, o = .returned v ∧ own_Q0 Z p1 p2 A h0 n0 v U'.heap L ∧ FrameEnd U o U' L room_1.cells room_1.slots) (s₁.setTop (entryFrame m #[(.int p1), (.int p2)] maxLocals))
  refine own_st (V := s₁.setTop (mkF m 0 #[.val (.int p1), .val (.int p2), .unset, .unset, .unset, .unset] [])) (fun t k => castTop (by first | (simp [entryFrame, mkF, argsToLocals, Value.category, maxLocals]; done) | rfl) k) ?_
  refine own_st (V := s₁.setTop (mkF m 1 #[.val (.int p1), .val (.int p2), .unset, .unset, .unset, .unset] [(.int p1)])) (fun t k => XS.iloadN X0.here hx rfl (hb hby at_0) rfl k) ?_
  refine own_st (V := s₁.setTop (mkF m 3 #[.val (.int p1), .val (.int p2), .unset, .unset, .unset, .unset] [(.int (2147483647 : Int32)), (.int p1)])) (fun t k => X0.ldcInt hx hown (mvT hZ (hw _ (List.mem_of_getElem? (i := 0) rfl))) (g := (mkF m 1 #[.val (.int p1), .val (.int p2), .unset, .unset, .unset, .unset] [(.int p1)])) rfl (hb hby at_1) t k) ?_
  refine own_st (V := s₁.setTop (mkF m 4 #[.val (.int p1), .val (.int p2), .unset, .unset, .unset, .unset] [(.int (p1 &&& (2147483647 : Int32)))])) (fun t k => XS.iand X0.here hx rfl (hb hby at_3) rfl k) ?_
  refine own_st (V := s₁.setTop (mkF m 6 #[.val (.int p1), .val (.int p2), .unset, .unset, .unset, .unset] [(.int (6 : Int32)), (.int (p1 &&& (2147483647 : Int32)))])) (fun t k => XS.bipush X0.here hx rfl (hb hby at_4) k) ?_
  refine own_st (V := s₁.setTop (mkF m 7 #[.val (.int p1), .val (.int p2), .unset, .unset, .unset, .unset] [(.int ((p1 &&& (2147483647 : Int32)) % (6 : Int32)))])) (fun t k => Jvm.RoadKit.iremM X0 hx rfl (hb hby at_6) rfl (by decide) k) ?_
  rw [hk]
  refine own_st (V := s₁.setTop (mkF m 8 #[.val (.int p1), .val (.int p2), .val (.int (5 : Int32)), .unset, .unset, .unset] [])) (fun t k => XS.istoreN X0.here hx rfl (hb hby at_7) rfl (l' := #[.val (.int p1), .val (.int p2), .val (.int (5 : Int32)), .unset, .unset, .unset]) rfl k) ?_
  refine own_st (V := s₁.setTop (mkF m 9 #[.val (.int p1), .val (.int p2), .val (.int (5 : Int32)), .unset, .unset, .unset] [(.int (5 : Int32))])) (fun t k => XS.iloadN X0.here hx rfl (hb hby at_8) rfl k) ?_
  obtain ⟨_, _, ⟨T76, L76, k76, n76⟩, -, X76, ⟨Lc76, hQ76, l76, y76, z76⟩, st76⟩ := Jvm.LawKit.callS X0 hx (y := (⟨"com/example/affirm_rows/affirmrows/rules/ComparisonHoldsPinLaw", "pick", "(I)Lcom/example/affirm_rows/affirmrows/rules/Comparison;"⟩ : MethodName)) hown (mvT hZ (hw _ (List.mem_of_getElem? (i := 1) rfl))) (mvT hZ (hw _ (List.mem_of_getElem? (i := 2) rfl))) (mvT hZ (hw _ (List.mem_of_getElem? (i := 3) rfl))) (mvT hZ (hw _ (List.mem_of_getElem? (i := 4) rfl))) (by decide) (backOf (W := 0) (own_pick5 l Z a0 hw [] A h0 n0 Z0 En ) hZ (hw _ (List.mem_of_getElem? (i := 4) rfl)) (hw _ (List.mem_of_getElem? (i := 3) rfl)) (by decide) (by decide)) (g := (mkF m 9 #[.val (.int p1), .val (.int p2), .val (.int (5 : Int32)), .unset, .unset, .unset] [(.int (5 : Int32))])) rfl (by rw [hml]; rfl) (argsL := [(.int (5 : Int32))]) (rest := []) (lenOf own_pd1 rfl) rfl (by show 2 * 0 + _ ≤ _; exact Nat.le_of_eq rfl) (hb hby at_9) (fun _ _ => ⟨rfl, e0, (by decide : 0 + 0 ≤ _), (by decide : 0 + 0 ≤ _)⟩)
  dsimp only [Pt.U, Pt.locs, Pt.cells, Pt.slots] at X76 l76 y76 z76 st76 hQ76
  subst l76 y76 z76
  obtain ⟨rfl, N76q, e76⟩ := hQ76
  have N76 := Fr.app N0 N76q
  refine own_st (V := T76.setTop (mkF m 12 #[.val (.int p1), .val (.int p2), .val (.int (5 : Int32)), .unset, .unset, .unset] [(.ref (A 5))])) (fun t k => st76 _ k) ?_
  refine own_st (V := T76.setTop (mkF m 13 #[.val (.int p1), .val (.int p2), .val (.int (5 : Int32)), .val (.ref (A 5)), .unset, .unset] [])) (fun t k => XS.astoreN X76.here hx rfl (hb hby at_12) rfl rfl (l' := #[.val (.int p1), .val (.int p2), .val (.int (5 : Int32)), .val (.ref (A 5)), .unset, .unset]) rfl k) ?_
  refine own_st (V := T76.setTop (mkF m 14 #[.val (.int p1), .val (.int p2), .val (.int (5 : Int32)), .val (.ref (A 5)), .unset, .unset] [(.int p2)])) (fun t k => XS.iloadN X76.here hx rfl (hb hby at_13) rfl k) ?_
  refine own_st (V := T76.setTop (mkF m 17 #[.val (.int p1), .val (.int p2), .val (.int (5 : Int32)), .val (.ref (A 5)), .unset, .unset] [])) (fun t k => XS.ifNo X76.here hx rfl (hb hby at_14) rfl ((if0 _ _).trans (tlt hs).2.1) k) ?_
  refine own_st (V := T76.setTop (mkF m 18 #[.val (.int p1), .val (.int p2), .val (.int (5 : Int32)), .val (.ref (A 5)), .unset, .unset] [(.int (0 : Int32))])) (fun t k => XS.iconst X76.here hx rfl (hb hby at_17) k) ?_
  refine own_st (V := T76.setTop (mkF m 30 #[.val (.int p1), .val (.int p2), .val (.int (5 : Int32)), .val (.ref (A 5)), .unset, .unset] [(.int (0 : Int32))])) (fun t k => XS.goto X76.here hx rfl (pc0 := 18) (pc' := 30) rfl (hb hby at_18) (by decide) (by decide) k) ?_
  refine own_st (V := T76.setTop (mkF m 32 #[.val (.int p1), .val (.int p2), .val (.int (5 : Int32)), .val (.ref (A 5)), .val (.int (0 : Int32)), .unset] [])) (fun t k => XS.istore X76.here hx rfl (hb hby at_30) rfl (l' := #[.val (.int p1), .val (.int p2), .val (.int (5 : Int32)), .val (.ref (A 5)), .val (.int (0 : Int32)), .unset]) rfl k) ?_
  refine own_st (V := T76.setTop (mkF m 33 #[.val (.int p1), .val (.int p2), .val (.int (5 : Int32)), .val (.ref (A 5)), .val (.int (0 : Int32)), .unset] [(.int (5 : Int32))])) (fun t k => XS.iloadN X76.here hx rfl (hb hby at_32) rfl k) ?_
  obtain ⟨_, _, ⟨T77, L77, k77, n77⟩, -, X77, ⟨Lc77, hQ77, l77, y77, z77⟩, st77⟩ := Jvm.LawKit.callS X76 hx (y := (⟨"com/example/affirm_rows/affirmrows/rules/ComparisonHoldsPinLaw", "admittedSigns", "(I)I"⟩ : MethodName)) hown (mvT hZ (hw _ (List.mem_of_getElem? (i := 8) rfl))) (mvT hZ (hw _ (List.mem_of_getElem? (i := 9) rfl))) (mvT hZ (hw _ (List.mem_of_getElem? (i := 3) rfl))) (mvT hZ (hw _ (List.mem_of_getElem? (i := 10) rfl))) (by decide) (backOf (W := 0) (own_ad5 l Z a0 hw [] A h0 n0 Z0 En ) hZ (hw _ (List.mem_of_getElem? (i := 10) rfl)) (hw _ (List.mem_of_getElem? (i := 3) rfl)) (by decide) (by decide)) (g := (mkF m 33 #[.val (.int p1), .val (.int p2), .val (.int (5 : Int32)), .val (.ref (A 5)), .val (.int (0 : Int32)), .unset] [(.int (5 : Int32))])) rfl (by rw [hml]; rfl) (argsL := [(.int (5 : Int32))]) (rest := []) (lenOf own_pd2 rfl) rfl (by show 2 * 0 + _ ≤ _; exact Nat.le_of_eq rfl) (hb hby at_33) (fun _ _ => ⟨rfl, e76, (by decide : 0 + 0 ≤ _), (by decide : 0 + 0 ≤ _)⟩)
  dsimp only [Pt.U, Pt.locs, Pt.cells, Pt.slots] at X77 l77 y77 z77 st77 hQ77
  subst l77 y77 z77
  obtain ⟨rfl, N77q, e77⟩ := hQ77
  have N77 := Fr.app N76 N77q
  refine own_st (V := T77.setTop (mkF m 36 #[.val (.int p1), .val (.int p2), .val (.int (5 : Int32)), .val (.ref (A 5)), .val (.int (0 : Int32)), .unset] [(.int (6 : Int32))])) (fun t k => st77 _ k) ?_
  refine own_st (V := T77.setTop (mkF m 38 #[.val (.int p1), .val (.int p2), .val (.int (5 : Int32)), .val (.ref (A 5)), .val (.int (0 : Int32)), .unset] [(.int (0 : Int32)), (.int (6 : Int32))])) (fun t k => XS.iload X77.here hx rfl (hb hby at_36) rfl k) ?_
  refine own_st (V := T77.setTop (mkF m 39 #[.val (.int p1), .val (.int p2), .val (.int (5 : Int32)), .val (.ref (A 5)), .val (.int (0 : Int32)), .unset] [(.int ((6 : Int32) >>> ((0 : Int32) &&& 31)))])) (fun t k => XS.ishr X77.here hx rfl (hb hby at_38) rfl k) ?_
  refine own_st (V := T77.setTop (mkF m 40 #[.val (.int p1), .val (.int p2), .val (.int (5 : Int32)), .val (.ref (A 5)), .val (.int (0 : Int32)), .unset] [(.int (1 : Int32)), (.int ((6 : Int32) >>> ((0 : Int32) &&& 31)))])) (fun t k => XS.iconst X77.here hx rfl (hb hby at_39) k) ?_
  refine own_st (V := T77.setTop (mkF m 41 #[.val (.int p1), .val (.int p2), .val (.int (5 : Int32)), .val (.ref (A 5)), .val (.int (0 : Int32)), .unset] [(.int (((6 : Int32) >>> ((0 : Int32) &&& 31)) &&& (1 : Int32)))])) (fun t k => XS.iand X77.here hx rfl (hb hby at_40) rfl k) ?_
  refine own_st (V := T77.setTop (mkF m 48 #[.val (.int p1), .val (.int p2), .val (.int (5 : Int32)), .val (.ref (A 5)), .val (.int (0 : Int32)), .unset] [])) (fun t k => XS.ifYes X77.here hx rfl (pc0 := 41) (pc' := 48) rfl (hb hby at_41) rfl ((if0 _ _).trans (teq (by decide +kernel : (((6 : Int32) >>> ((0 : Int32) &&& 31)) &&& (1 : Int32)) = (0 : Int32))).1) (by decide) (by decide) k) ?_
  refine own_st (V := T77.setTop (mkF m 49 #[.val (.int p1), .val (.int p2), .val (.int (5 : Int32)), .val (.ref (A 5)), .val (.int (0 : Int32)), .unset] [(.int (0 : Int32))])) (fun t k => XS.iconst X77.here hx rfl (hb hby at_48) k) ?_
  refine own_st (V := T77.setTop (mkF m 51 #[.val (.int p1), .val (.int p2), .val (.int (5 : Int32)), .val (.ref (A 5)), .val (.int (0 : Int32)), .val (.int (0 : Int32))] [])) (fun t k => XS.istore X77.here hx rfl (hb hby at_49) rfl (l' := #[.val (.int p1), .val (.int p2), .val (.int (5 : Int32)), .val (.ref (A 5)), .val (.int (0 : Int32)), .val (.int (0 : Int32))]) rfl k) ?_
  refine own_st (V := T77.setTop (mkF m 52 #[.val (.int p1), .val (.int p2), .val (.int (5 : Int32)), .val (.ref (A 5)), .val (.int (0 : Int32)), .val (.int (0 : Int32))] [(.ref (A 5))])) (fun t k => XS.aloadN X77.here hx rfl (hb hby at_51) rfl rfl k) ?_
  refine own_st (V := T77.setTop (mkF m 53 #[.val (.int p1), .val (.int p2), .val (.int (5 : Int32)), .val (.ref (A 5)), .val (.int (0 : Int32)), .val (.int (0 : Int32))] [(.int p2), (.ref (A 5))])) (fun t k => XS.iloadN X77.here hx rfl (hb hby at_52) rfl k) ?_
  obtain ⟨cq78, kq78, q78a, q78b, q78c⟩ := isOf hZ e77 (own_E En 5 (i := 5) (n := "GREATER_OR_EQUAL") rfl)
  obtain ⟨_, _, ⟨T78, L78, k78, n78⟩, -, X78, ⟨Lc78, hQ78, l78, y78, z78⟩, st78⟩ := X77.virtualBack hx (y := (⟨"com/example/affirm_rows/affirmrows/rules/Comparison", "holds", "(I)Z"⟩ : MethodName)) (z := (⟨"com/example/affirm_rows/affirmrows/rules/Comparison", "holds", "(I)Z"⟩ : MethodName)) hown (mvT hZ (hw _ (List.mem_of_getElem? (i := 11) rfl))) (mvT hZ (hw _ (List.mem_of_getElem? (i := 12) rfl))) (notFace_of_selects (args := #[]) (mvT hZ (hw _ (List.mem_of_getElem? (i := 14) rfl)))) (mvT hZ (hw _ (List.mem_of_getElem? (i := 14) rfl))) (mvT hZ (hw _ (List.mem_of_getElem? (i := 13) rfl))) (by decide) (backOf (W := 0) (own_ho5n l Z a0 hw [] p2 A h0 n0 Z0 En hs) hZ (hw _ (List.mem_of_getElem? (i := 15) rfl)) (hw _ (List.mem_of_getElem? (i := 6) rfl)) (by decide) (by decide)) q78a q78c (g := (mkF m 53 #[.val (.int p1), .val (.int p2), .val (.int (5 : Int32)), .val (.ref (A 5)), .val (.int (0 : Int32)), .val (.int (0 : Int32))] [(.int p2), (.ref (A 5))])) rfl (by rw [hml]; rfl) (Steps.refl _) (argsL := [(.int p2)]) (rest := []) (lenOf own_pd3 rfl) rfl (by show 2 * 0 + _ ≤ _; exact Nat.le_of_eq rfl) (hb hby at_53) (fun _ _ => ⟨rfl, e77, (by decide : 0 + 0 ≤ _), (by decide : 0 + 0 ≤ _)⟩)
  dsimp only [Pt.U, Pt.locs, Pt.cells, Pt.slots] at X78 l78 y78 z78 st78 hQ78
  subst l78 y78 z78
  obtain ⟨rfl, N78q, e78⟩ := hQ78
  have N78 := Fr.app N77 N78q
  refine own_st (V := T78.setTop (mkF m 56 #[.val (.int p1), .val (.int p2), .val (.int (5 : Int32)), .val (.ref (A 5)), .val (.int (0 : Int32)), .val (.int (0 : Int32))] [(.int (0 : Int32))])) (fun t k => st78.trans k) ?_
  refine own_st (V := T78.setTop (mkF m 58 #[.val (.int p1), .val (.int p2), .val (.int (5 : Int32)), .val (.ref (A 5)), .val (.int (0 : Int32)), .val (.int (0 : Int32))] [(.int (0 : Int32)), (.int (0 : Int32))])) (fun t k => XS.iload X78.here hx rfl (hb hby at_56) rfl k) ?_
  refine own_st (V := T78.setTop (mkF m 61 #[.val (.int p1), .val (.int p2), .val (.int (5 : Int32)), .val (.ref (A 5)), .val (.int (0 : Int32)), .val (.int (0 : Int32))] [])) (fun t k => XS.icmpNo X78.here hx rfl (hb hby at_58) rfl (teq (by decide : (0 : Int32) = (0 : Int32))).2 k) ?_
  refine own_st (V := T78.setTop (mkF m 62 #[.val (.int p1), .val (.int p2), .val (.int (5 : Int32)), .val (.ref (A 5)), .val (.int (0 : Int32)), .val (.int (0 : Int32))] [(.int (1 : Int32))])) (fun t k => XS.iconst X78.here hx rfl (hb hby at_61) k) ?_
  refine own_st (V := T78.setTop (mkF m 66 #[.val (.int p1), .val (.int p2), .val (.int (5 : Int32)), .val (.ref (A 5)), .val (.int (0 : Int32)), .val (.int (0 : Int32))] [(.int (1 : Int32))])) (fun t k => XS.goto X78.here hx rfl (pc0 := 62) (pc' := 66) rfl (hb hby at_62) (by decide) (by decide) k) ?_
  exact own_ret X78 hx hlk Bd.returns (by decide +kernel) (Or.inl ⟨rfl, by simp, _, rfl⟩) (hb hby at_66) (by decide) (by decide) (by show own_Q0 Z p1 p2 A h0 n0 _ T78.heap _; rw [e78]; exact ⟨rfl, N78⟩)
set_option maxRecDepth 65536 in
set_option maxHeartbeats 40000000 in
theorem own_law5z (l : Launch) (Z : State) (a0 : Array Value) (hw : ∀ d ∈ tables_1, d.before a0 Z = true) (ws : List Jvm.Cond) (p1 : Int32) (p2 : Int32) (A : Nat → Addr) (h0 : Heap) (n0 : Nat) (Z0 : n0 ≤ h0.size) (En : own_En Z h0 A) (hk : ((p1 &&& (2147483647 : Int32)) % (6 : Int32)) = (5 : Int32)) (hs : p2 = (0 : Int32)) :
    MetFree l x (head1 (Jvm.Cond.code x code maxLocals ret :: ws) room_1) (fun a U => a = #[(.int p1), (.int p2)] ∧ Z.Warmed39 U.vm ∧ U.heap = h0) (fun _ _ _ _ _ => True) (fun _ U o U' => ∃ v L, o = .returned v ∧ own_Q0 Z p1 p2 A h0 n0 v U'.heap L ∧ FrameEnd U o U' L room_1.cells room_1.slots) := by
  refine MetFree.of_bodySF (plainFor_of_name own_pn_com_example_affirm_rows_affirmrows_rules_ComparisonHoldsPinLaw) hisR ?_
  intro p e s m args below meth c s₁ Bd hml0 hP hK
  obtain ⟨rfl, hZ, hh⟩ := hP
  have hx := Bd.exec
  have hby := Bd.bytes
  have hml : c.maxLocals = 6 := hml0
  have hown : s.vm.findClass "com/example/affirm_rows/affirmrows/rules/ComparisonHoldsPinLaw" = some m.cls := findClass_of_methodNamed Bd.named
  have hnm := (name_of_methodNamed Bd.named Bd.method).1
  have hlk : meth.locks = false := BodyLoose.notSynchronized Bd
  have X0 : Stand p l e room_1 s m #[(.int p1), (.int p2)] below meth c s₁ [] 0 0 := Stand.of_body Bd
  have e0 : s₁.heap = h0 := by rw [← hh, Bd.state]; rfl
  have N0 := Fr.nil n0
  show own_Go p e below #[(.int p1), (.int p2)] s (fun _ U o U' => ∃ v L, o = .returned v ∧ own_Q0 Z p1 p2 A h0 n0 v U'.heap L ∧ FrameEnd U o U' L room_1.cells room_1.slots) (s₁.setTop (entryFrame m #[(.int p1), (.int p2)] maxLocals))
  refine own_st (V := s₁.setTop (mkF m 0 #[.val (.int p1), .val (.int p2), .unset, .unset, .unset, .unset] [])) (fun t k => castTop (by first | (simp [entryFrame, mkF, argsToLocals, Value.category, maxLocals]; done) | rfl) k) ?_
  refine own_st (V := s₁.setTop (mkF m 1 #[.val (.int p1), .val (.int p2), .unset, .unset, .unset, .unset] [(.int p1)])) (fun t k => XS.iloadN X0.here hx rfl (hb hby at_0) rfl k) ?_
  refine own_st (V := s₁.setTop (mkF m 3 #[.val (.int p1), .val (.int p2), .unset, .unset, .unset, .unset] [(.int (2147483647 : Int32)), (.int p1)])) (fun t k => X0.ldcInt hx hown (mvT hZ (hw _ (List.mem_of_getElem? (i := 0) rfl))) (g := (mkF m 1 #[.val (.int p1), .val (.int p2), .unset, .unset, .unset, .unset] [(.int p1)])) rfl (hb hby at_1) t k) ?_
  refine own_st (V := s₁.setTop (mkF m 4 #[.val (.int p1), .val (.int p2), .unset, .unset, .unset, .unset] [(.int (p1 &&& (2147483647 : Int32)))])) (fun t k => XS.iand X0.here hx rfl (hb hby at_3) rfl k) ?_
  refine own_st (V := s₁.setTop (mkF m 6 #[.val (.int p1), .val (.int p2), .unset, .unset, .unset, .unset] [(.int (6 : Int32)), (.int (p1 &&& (2147483647 : Int32)))])) (fun t k => XS.bipush X0.here hx rfl (hb hby at_4) k) ?_
  refine own_st (V := s₁.setTop (mkF m 7 #[.val (.int p1), .val (.int p2), .unset, .unset, .unset, .unset] [(.int ((p1 &&& (2147483647 : Int32)) % (6 : Int32)))])) (fun t k => Jvm.RoadKit.iremM X0 hx rfl (hb hby at_6) rfl (by decide) k) ?_
  rw [hk]
  refine own_st (V := s₁.setTop (mkF m 8 #[.val (.int p1), .val (.int p2), .val (.int (5 : Int32)), .unset, .unset, .unset] [])) (fun t k => XS.istoreN X0.here hx rfl (hb hby at_7) rfl (l' := #[.val (.int p1), .val (.int p2), .val (.int (5 : Int32)), .unset, .unset, .unset]) rfl k) ?_
  refine own_st (V := s₁.setTop (mkF m 9 #[.val (.int p1), .val (.int p2), .val (.int (5 : Int32)), .unset, .unset, .unset] [(.int (5 : Int32))])) (fun t k => XS.iloadN X0.here hx rfl (hb hby at_8) rfl k) ?_
  obtain ⟨_, _, ⟨T79, L79, k79, n79⟩, -, X79, ⟨Lc79, hQ79, l79, y79, z79⟩, st79⟩ := Jvm.LawKit.callS X0 hx (y := (⟨"com/example/affirm_rows/affirmrows/rules/ComparisonHoldsPinLaw", "pick", "(I)Lcom/example/affirm_rows/affirmrows/rules/Comparison;"⟩ : MethodName)) hown (mvT hZ (hw _ (List.mem_of_getElem? (i := 1) rfl))) (mvT hZ (hw _ (List.mem_of_getElem? (i := 2) rfl))) (mvT hZ (hw _ (List.mem_of_getElem? (i := 3) rfl))) (mvT hZ (hw _ (List.mem_of_getElem? (i := 4) rfl))) (by decide) (backOf (W := 0) (own_pick5 l Z a0 hw [] A h0 n0 Z0 En ) hZ (hw _ (List.mem_of_getElem? (i := 4) rfl)) (hw _ (List.mem_of_getElem? (i := 3) rfl)) (by decide) (by decide)) (g := (mkF m 9 #[.val (.int p1), .val (.int p2), .val (.int (5 : Int32)), .unset, .unset, .unset] [(.int (5 : Int32))])) rfl (by rw [hml]; rfl) (argsL := [(.int (5 : Int32))]) (rest := []) (lenOf own_pd1 rfl) rfl (by show 2 * 0 + _ ≤ _; exact Nat.le_of_eq rfl) (hb hby at_9) (fun _ _ => ⟨rfl, e0, (by decide : 0 + 0 ≤ _), (by decide : 0 + 0 ≤ _)⟩)
  dsimp only [Pt.U, Pt.locs, Pt.cells, Pt.slots] at X79 l79 y79 z79 st79 hQ79
  subst l79 y79 z79
  obtain ⟨rfl, N79q, e79⟩ := hQ79
  have N79 := Fr.app N0 N79q
  refine own_st (V := T79.setTop (mkF m 12 #[.val (.int p1), .val (.int p2), .val (.int (5 : Int32)), .unset, .unset, .unset] [(.ref (A 5))])) (fun t k => st79 _ k) ?_
  refine own_st (V := T79.setTop (mkF m 13 #[.val (.int p1), .val (.int p2), .val (.int (5 : Int32)), .val (.ref (A 5)), .unset, .unset] [])) (fun t k => XS.astoreN X79.here hx rfl (hb hby at_12) rfl rfl (l' := #[.val (.int p1), .val (.int p2), .val (.int (5 : Int32)), .val (.ref (A 5)), .unset, .unset]) rfl k) ?_
  refine own_st (V := T79.setTop (mkF m 14 #[.val (.int p1), .val (.int p2), .val (.int (5 : Int32)), .val (.ref (A 5)), .unset, .unset] [(.int p2)])) (fun t k => XS.iloadN X79.here hx rfl (hb hby at_13) rfl k) ?_
  refine own_st (V := T79.setTop (mkF m 21 #[.val (.int p1), .val (.int p2), .val (.int (5 : Int32)), .val (.ref (A 5)), .unset, .unset] [])) (fun t k => XS.ifYes X79.here hx rfl (pc0 := 14) (pc' := 21) rfl (hb hby at_14) rfl ((if0 _ _).trans (flt (own_z1 hs)).2.1) (by decide) (by decide) k) ?_
  refine own_st (V := T79.setTop (mkF m 22 #[.val (.int p1), .val (.int p2), .val (.int (5 : Int32)), .val (.ref (A 5)), .unset, .unset] [(.int p2)])) (fun t k => XS.iloadN X79.here hx rfl (hb hby at_21) rfl k) ?_
  refine own_st (V := T79.setTop (mkF m 25 #[.val (.int p1), .val (.int p2), .val (.int (5 : Int32)), .val (.ref (A 5)), .unset, .unset] [])) (fun t k => XS.ifNo X79.here hx rfl (hb hby at_22) rfl ((if0 _ _).trans (teq hs).2) k) ?_
  refine own_st (V := T79.setTop (mkF m 26 #[.val (.int p1), .val (.int p2), .val (.int (5 : Int32)), .val (.ref (A 5)), .unset, .unset] [(.int (1 : Int32))])) (fun t k => XS.iconst X79.here hx rfl (hb hby at_25) k) ?_
  refine own_st (V := T79.setTop (mkF m 30 #[.val (.int p1), .val (.int p2), .val (.int (5 : Int32)), .val (.ref (A 5)), .unset, .unset] [(.int (1 : Int32))])) (fun t k => XS.goto X79.here hx rfl (pc0 := 26) (pc' := 30) rfl (hb hby at_26) (by decide) (by decide) k) ?_
  refine own_st (V := T79.setTop (mkF m 32 #[.val (.int p1), .val (.int p2), .val (.int (5 : Int32)), .val (.ref (A 5)), .val (.int (1 : Int32)), .unset] [])) (fun t k => XS.istore X79.here hx rfl (hb hby at_30) rfl (l' := #[.val (.int p1), .val (.int p2), .val (.int (5 : Int32)), .val (.ref (A 5)), .val (.int (1 : Int32)), .unset]) rfl k) ?_
  refine own_st (V := T79.setTop (mkF m 33 #[.val (.int p1), .val (.int p2), .val (.int (5 : Int32)), .val (.ref (A 5)), .val (.int (1 : Int32)), .unset] [(.int (5 : Int32))])) (fun t k => XS.iloadN X79.here hx rfl (hb hby at_32) rfl k) ?_
  obtain ⟨_, _, ⟨T80, L80, k80, n80⟩, -, X80, ⟨Lc80, hQ80, l80, y80, z80⟩, st80⟩ := Jvm.LawKit.callS X79 hx (y := (⟨"com/example/affirm_rows/affirmrows/rules/ComparisonHoldsPinLaw", "admittedSigns", "(I)I"⟩ : MethodName)) hown (mvT hZ (hw _ (List.mem_of_getElem? (i := 8) rfl))) (mvT hZ (hw _ (List.mem_of_getElem? (i := 9) rfl))) (mvT hZ (hw _ (List.mem_of_getElem? (i := 3) rfl))) (mvT hZ (hw _ (List.mem_of_getElem? (i := 10) rfl))) (by decide) (backOf (W := 0) (own_ad5 l Z a0 hw [] A h0 n0 Z0 En ) hZ (hw _ (List.mem_of_getElem? (i := 10) rfl)) (hw _ (List.mem_of_getElem? (i := 3) rfl)) (by decide) (by decide)) (g := (mkF m 33 #[.val (.int p1), .val (.int p2), .val (.int (5 : Int32)), .val (.ref (A 5)), .val (.int (1 : Int32)), .unset] [(.int (5 : Int32))])) rfl (by rw [hml]; rfl) (argsL := [(.int (5 : Int32))]) (rest := []) (lenOf own_pd2 rfl) rfl (by show 2 * 0 + _ ≤ _; exact Nat.le_of_eq rfl) (hb hby at_33) (fun _ _ => ⟨rfl, e79, (by decide : 0 + 0 ≤ _), (by decide : 0 + 0 ≤ _)⟩)
  dsimp only [Pt.U, Pt.locs, Pt.cells, Pt.slots] at X80 l80 y80 z80 st80 hQ80
  subst l80 y80 z80
  obtain ⟨rfl, N80q, e80⟩ := hQ80
  have N80 := Fr.app N79 N80q
  refine own_st (V := T80.setTop (mkF m 36 #[.val (.int p1), .val (.int p2), .val (.int (5 : Int32)), .val (.ref (A 5)), .val (.int (1 : Int32)), .unset] [(.int (6 : Int32))])) (fun t k => st80 _ k) ?_
  refine own_st (V := T80.setTop (mkF m 38 #[.val (.int p1), .val (.int p2), .val (.int (5 : Int32)), .val (.ref (A 5)), .val (.int (1 : Int32)), .unset] [(.int (1 : Int32)), (.int (6 : Int32))])) (fun t k => XS.iload X80.here hx rfl (hb hby at_36) rfl k) ?_
  refine own_st (V := T80.setTop (mkF m 39 #[.val (.int p1), .val (.int p2), .val (.int (5 : Int32)), .val (.ref (A 5)), .val (.int (1 : Int32)), .unset] [(.int ((6 : Int32) >>> ((1 : Int32) &&& 31)))])) (fun t k => XS.ishr X80.here hx rfl (hb hby at_38) rfl k) ?_
  refine own_st (V := T80.setTop (mkF m 40 #[.val (.int p1), .val (.int p2), .val (.int (5 : Int32)), .val (.ref (A 5)), .val (.int (1 : Int32)), .unset] [(.int (1 : Int32)), (.int ((6 : Int32) >>> ((1 : Int32) &&& 31)))])) (fun t k => XS.iconst X80.here hx rfl (hb hby at_39) k) ?_
  refine own_st (V := T80.setTop (mkF m 41 #[.val (.int p1), .val (.int p2), .val (.int (5 : Int32)), .val (.ref (A 5)), .val (.int (1 : Int32)), .unset] [(.int (((6 : Int32) >>> ((1 : Int32) &&& 31)) &&& (1 : Int32)))])) (fun t k => XS.iand X80.here hx rfl (hb hby at_40) rfl k) ?_
  refine own_st (V := T80.setTop (mkF m 44 #[.val (.int p1), .val (.int p2), .val (.int (5 : Int32)), .val (.ref (A 5)), .val (.int (1 : Int32)), .unset] [])) (fun t k => XS.ifNo X80.here hx rfl (hb hby at_41) rfl ((if0 _ _).trans (feq (by decide +kernel : ¬ ((((6 : Int32) >>> ((1 : Int32) &&& 31)) &&& (1 : Int32)) = (0 : Int32)))).1) k) ?_
  refine own_st (V := T80.setTop (mkF m 45 #[.val (.int p1), .val (.int p2), .val (.int (5 : Int32)), .val (.ref (A 5)), .val (.int (1 : Int32)), .unset] [(.int (1 : Int32))])) (fun t k => XS.iconst X80.here hx rfl (hb hby at_44) k) ?_
  refine own_st (V := T80.setTop (mkF m 49 #[.val (.int p1), .val (.int p2), .val (.int (5 : Int32)), .val (.ref (A 5)), .val (.int (1 : Int32)), .unset] [(.int (1 : Int32))])) (fun t k => XS.goto X80.here hx rfl (pc0 := 45) (pc' := 49) rfl (hb hby at_45) (by decide) (by decide) k) ?_
  refine own_st (V := T80.setTop (mkF m 51 #[.val (.int p1), .val (.int p2), .val (.int (5 : Int32)), .val (.ref (A 5)), .val (.int (1 : Int32)), .val (.int (1 : Int32))] [])) (fun t k => XS.istore X80.here hx rfl (hb hby at_49) rfl (l' := #[.val (.int p1), .val (.int p2), .val (.int (5 : Int32)), .val (.ref (A 5)), .val (.int (1 : Int32)), .val (.int (1 : Int32))]) rfl k) ?_
  refine own_st (V := T80.setTop (mkF m 52 #[.val (.int p1), .val (.int p2), .val (.int (5 : Int32)), .val (.ref (A 5)), .val (.int (1 : Int32)), .val (.int (1 : Int32))] [(.ref (A 5))])) (fun t k => XS.aloadN X80.here hx rfl (hb hby at_51) rfl rfl k) ?_
  refine own_st (V := T80.setTop (mkF m 53 #[.val (.int p1), .val (.int p2), .val (.int (5 : Int32)), .val (.ref (A 5)), .val (.int (1 : Int32)), .val (.int (1 : Int32))] [(.int p2), (.ref (A 5))])) (fun t k => XS.iloadN X80.here hx rfl (hb hby at_52) rfl k) ?_
  obtain ⟨cq81, kq81, q81a, q81b, q81c⟩ := isOf hZ e80 (own_E En 5 (i := 5) (n := "GREATER_OR_EQUAL") rfl)
  obtain ⟨_, _, ⟨T81, L81, k81, n81⟩, -, X81, ⟨Lc81, hQ81, l81, y81, z81⟩, st81⟩ := X80.virtualBack hx (y := (⟨"com/example/affirm_rows/affirmrows/rules/Comparison", "holds", "(I)Z"⟩ : MethodName)) (z := (⟨"com/example/affirm_rows/affirmrows/rules/Comparison", "holds", "(I)Z"⟩ : MethodName)) hown (mvT hZ (hw _ (List.mem_of_getElem? (i := 11) rfl))) (mvT hZ (hw _ (List.mem_of_getElem? (i := 12) rfl))) (notFace_of_selects (args := #[]) (mvT hZ (hw _ (List.mem_of_getElem? (i := 14) rfl)))) (mvT hZ (hw _ (List.mem_of_getElem? (i := 14) rfl))) (mvT hZ (hw _ (List.mem_of_getElem? (i := 13) rfl))) (by decide) (backOf (W := 0) (own_ho5z l Z a0 hw [] p2 A h0 n0 Z0 En hs) hZ (hw _ (List.mem_of_getElem? (i := 15) rfl)) (hw _ (List.mem_of_getElem? (i := 6) rfl)) (by decide) (by decide)) q81a q81c (g := (mkF m 53 #[.val (.int p1), .val (.int p2), .val (.int (5 : Int32)), .val (.ref (A 5)), .val (.int (1 : Int32)), .val (.int (1 : Int32))] [(.int p2), (.ref (A 5))])) rfl (by rw [hml]; rfl) (Steps.refl _) (argsL := [(.int p2)]) (rest := []) (lenOf own_pd3 rfl) rfl (by show 2 * 0 + _ ≤ _; exact Nat.le_of_eq rfl) (hb hby at_53) (fun _ _ => ⟨rfl, e80, (by decide : 0 + 0 ≤ _), (by decide : 0 + 0 ≤ _)⟩)
  dsimp only [Pt.U, Pt.locs, Pt.cells, Pt.slots] at X81 l81 y81 z81 st81 hQ81
  subst l81 y81 z81
  obtain ⟨rfl, N81q, e81⟩ := hQ81
  have N81 := Fr.app N80 N81q
  refine own_st (V := T81.setTop (mkF m 56 #[.val (.int p1), .val (.int p2), .val (.int (5 : Int32)), .val (.ref (A 5)), .val (.int (1 : Int32)), .val (.int (1 : Int32))] [(.int (1 : Int32))])) (fun t k => st81.trans k) ?_
  refine own_st (V := T81.setTop (mkF m 58 #[.val (.int p1), .val (.int p2), .val (.int (5 : Int32)), .val (.ref (A 5)), .val (.int (1 : Int32)), .val (.int (1 : Int32))] [(.int (1 : Int32)), (.int (1 : Int32))])) (fun t k => XS.iload X81.here hx rfl (hb hby at_56) rfl k) ?_
  refine own_st (V := T81.setTop (mkF m 61 #[.val (.int p1), .val (.int p2), .val (.int (5 : Int32)), .val (.ref (A 5)), .val (.int (1 : Int32)), .val (.int (1 : Int32))] [])) (fun t k => XS.icmpNo X81.here hx rfl (hb hby at_58) rfl (teq (by decide : (1 : Int32) = (1 : Int32))).2 k) ?_
  refine own_st (V := T81.setTop (mkF m 62 #[.val (.int p1), .val (.int p2), .val (.int (5 : Int32)), .val (.ref (A 5)), .val (.int (1 : Int32)), .val (.int (1 : Int32))] [(.int (1 : Int32))])) (fun t k => XS.iconst X81.here hx rfl (hb hby at_61) k) ?_
  refine own_st (V := T81.setTop (mkF m 66 #[.val (.int p1), .val (.int p2), .val (.int (5 : Int32)), .val (.ref (A 5)), .val (.int (1 : Int32)), .val (.int (1 : Int32))] [(.int (1 : Int32))])) (fun t k => XS.goto X81.here hx rfl (pc0 := 62) (pc' := 66) rfl (hb hby at_62) (by decide) (by decide) k) ?_
  exact own_ret X81 hx hlk Bd.returns (by decide +kernel) (Or.inl ⟨rfl, by simp, _, rfl⟩) (hb hby at_66) (by decide) (by decide) (by show own_Q0 Z p1 p2 A h0 n0 _ T81.heap _; rw [e81]; exact ⟨rfl, N81⟩)
set_option maxRecDepth 65536 in
set_option maxHeartbeats 40000000 in
theorem own_law5p (l : Launch) (Z : State) (a0 : Array Value) (hw : ∀ d ∈ tables_1, d.before a0 Z = true) (ws : List Jvm.Cond) (p1 : Int32) (p2 : Int32) (A : Nat → Addr) (h0 : Heap) (n0 : Nat) (Z0 : n0 ≤ h0.size) (En : own_En Z h0 A) (hk : ((p1 &&& (2147483647 : Int32)) % (6 : Int32)) = (5 : Int32)) (hs : (0 : Int32) < p2) :
    MetFree l x (head1 (Jvm.Cond.code x code maxLocals ret :: ws) room_1) (fun a U => a = #[(.int p1), (.int p2)] ∧ Z.Warmed39 U.vm ∧ U.heap = h0) (fun _ _ _ _ _ => True) (fun _ U o U' => ∃ v L, o = .returned v ∧ own_Q0 Z p1 p2 A h0 n0 v U'.heap L ∧ FrameEnd U o U' L room_1.cells room_1.slots) := by
  refine MetFree.of_bodySF (plainFor_of_name own_pn_com_example_affirm_rows_affirmrows_rules_ComparisonHoldsPinLaw) hisR ?_
  intro p e s m args below meth c s₁ Bd hml0 hP hK
  obtain ⟨rfl, hZ, hh⟩ := hP
  have hx := Bd.exec
  have hby := Bd.bytes
  have hml : c.maxLocals = 6 := hml0
  have hown : s.vm.findClass "com/example/affirm_rows/affirmrows/rules/ComparisonHoldsPinLaw" = some m.cls := findClass_of_methodNamed Bd.named
  have hnm := (name_of_methodNamed Bd.named Bd.method).1
  have hlk : meth.locks = false := BodyLoose.notSynchronized Bd
  have X0 : Stand p l e room_1 s m #[(.int p1), (.int p2)] below meth c s₁ [] 0 0 := Stand.of_body Bd
  have e0 : s₁.heap = h0 := by rw [← hh, Bd.state]; rfl
  have N0 := Fr.nil n0
  show own_Go p e below #[(.int p1), (.int p2)] s (fun _ U o U' => ∃ v L, o = .returned v ∧ own_Q0 Z p1 p2 A h0 n0 v U'.heap L ∧ FrameEnd U o U' L room_1.cells room_1.slots) (s₁.setTop (entryFrame m #[(.int p1), (.int p2)] maxLocals))
  refine own_st (V := s₁.setTop (mkF m 0 #[.val (.int p1), .val (.int p2), .unset, .unset, .unset, .unset] [])) (fun t k => castTop (by first | (simp [entryFrame, mkF, argsToLocals, Value.category, maxLocals]; done) | rfl) k) ?_
  refine own_st (V := s₁.setTop (mkF m 1 #[.val (.int p1), .val (.int p2), .unset, .unset, .unset, .unset] [(.int p1)])) (fun t k => XS.iloadN X0.here hx rfl (hb hby at_0) rfl k) ?_
  refine own_st (V := s₁.setTop (mkF m 3 #[.val (.int p1), .val (.int p2), .unset, .unset, .unset, .unset] [(.int (2147483647 : Int32)), (.int p1)])) (fun t k => X0.ldcInt hx hown (mvT hZ (hw _ (List.mem_of_getElem? (i := 0) rfl))) (g := (mkF m 1 #[.val (.int p1), .val (.int p2), .unset, .unset, .unset, .unset] [(.int p1)])) rfl (hb hby at_1) t k) ?_
  refine own_st (V := s₁.setTop (mkF m 4 #[.val (.int p1), .val (.int p2), .unset, .unset, .unset, .unset] [(.int (p1 &&& (2147483647 : Int32)))])) (fun t k => XS.iand X0.here hx rfl (hb hby at_3) rfl k) ?_
  refine own_st (V := s₁.setTop (mkF m 6 #[.val (.int p1), .val (.int p2), .unset, .unset, .unset, .unset] [(.int (6 : Int32)), (.int (p1 &&& (2147483647 : Int32)))])) (fun t k => XS.bipush X0.here hx rfl (hb hby at_4) k) ?_
  refine own_st (V := s₁.setTop (mkF m 7 #[.val (.int p1), .val (.int p2), .unset, .unset, .unset, .unset] [(.int ((p1 &&& (2147483647 : Int32)) % (6 : Int32)))])) (fun t k => Jvm.RoadKit.iremM X0 hx rfl (hb hby at_6) rfl (by decide) k) ?_
  rw [hk]
  refine own_st (V := s₁.setTop (mkF m 8 #[.val (.int p1), .val (.int p2), .val (.int (5 : Int32)), .unset, .unset, .unset] [])) (fun t k => XS.istoreN X0.here hx rfl (hb hby at_7) rfl (l' := #[.val (.int p1), .val (.int p2), .val (.int (5 : Int32)), .unset, .unset, .unset]) rfl k) ?_
  refine own_st (V := s₁.setTop (mkF m 9 #[.val (.int p1), .val (.int p2), .val (.int (5 : Int32)), .unset, .unset, .unset] [(.int (5 : Int32))])) (fun t k => XS.iloadN X0.here hx rfl (hb hby at_8) rfl k) ?_
  obtain ⟨_, _, ⟨T82, L82, k82, n82⟩, -, X82, ⟨Lc82, hQ82, l82, y82, z82⟩, st82⟩ := Jvm.LawKit.callS X0 hx (y := (⟨"com/example/affirm_rows/affirmrows/rules/ComparisonHoldsPinLaw", "pick", "(I)Lcom/example/affirm_rows/affirmrows/rules/Comparison;"⟩ : MethodName)) hown (mvT hZ (hw _ (List.mem_of_getElem? (i := 1) rfl))) (mvT hZ (hw _ (List.mem_of_getElem? (i := 2) rfl))) (mvT hZ (hw _ (List.mem_of_getElem? (i := 3) rfl))) (mvT hZ (hw _ (List.mem_of_getElem? (i := 4) rfl))) (by decide) (backOf (W := 0) (own_pick5 l Z a0 hw [] A h0 n0 Z0 En ) hZ (hw _ (List.mem_of_getElem? (i := 4) rfl)) (hw _ (List.mem_of_getElem? (i := 3) rfl)) (by decide) (by decide)) (g := (mkF m 9 #[.val (.int p1), .val (.int p2), .val (.int (5 : Int32)), .unset, .unset, .unset] [(.int (5 : Int32))])) rfl (by rw [hml]; rfl) (argsL := [(.int (5 : Int32))]) (rest := []) (lenOf own_pd1 rfl) rfl (by show 2 * 0 + _ ≤ _; exact Nat.le_of_eq rfl) (hb hby at_9) (fun _ _ => ⟨rfl, e0, (by decide : 0 + 0 ≤ _), (by decide : 0 + 0 ≤ _)⟩)
  dsimp only [Pt.U, Pt.locs, Pt.cells, Pt.slots] at X82 l82 y82 z82 st82 hQ82
  subst l82 y82 z82
  obtain ⟨rfl, N82q, e82⟩ := hQ82
  have N82 := Fr.app N0 N82q
  refine own_st (V := T82.setTop (mkF m 12 #[.val (.int p1), .val (.int p2), .val (.int (5 : Int32)), .unset, .unset, .unset] [(.ref (A 5))])) (fun t k => st82 _ k) ?_
  refine own_st (V := T82.setTop (mkF m 13 #[.val (.int p1), .val (.int p2), .val (.int (5 : Int32)), .val (.ref (A 5)), .unset, .unset] [])) (fun t k => XS.astoreN X82.here hx rfl (hb hby at_12) rfl rfl (l' := #[.val (.int p1), .val (.int p2), .val (.int (5 : Int32)), .val (.ref (A 5)), .unset, .unset]) rfl k) ?_
  refine own_st (V := T82.setTop (mkF m 14 #[.val (.int p1), .val (.int p2), .val (.int (5 : Int32)), .val (.ref (A 5)), .unset, .unset] [(.int p2)])) (fun t k => XS.iloadN X82.here hx rfl (hb hby at_13) rfl k) ?_
  refine own_st (V := T82.setTop (mkF m 21 #[.val (.int p1), .val (.int p2), .val (.int (5 : Int32)), .val (.ref (A 5)), .unset, .unset] [])) (fun t k => XS.ifYes X82.here hx rfl (pc0 := 14) (pc' := 21) rfl (hb hby at_14) rfl ((if0 _ _).trans (flt (own_p1 hs)).2.1) (by decide) (by decide) k) ?_
  refine own_st (V := T82.setTop (mkF m 22 #[.val (.int p1), .val (.int p2), .val (.int (5 : Int32)), .val (.ref (A 5)), .unset, .unset] [(.int p2)])) (fun t k => XS.iloadN X82.here hx rfl (hb hby at_21) rfl k) ?_
  refine own_st (V := T82.setTop (mkF m 29 #[.val (.int p1), .val (.int p2), .val (.int (5 : Int32)), .val (.ref (A 5)), .unset, .unset] [])) (fun t k => XS.ifYes X82.here hx rfl (pc0 := 22) (pc' := 29) rfl (hb hby at_22) rfl ((if0 _ _).trans (feq (own_p2 hs)).2) (by decide) (by decide) k) ?_
  refine own_st (V := T82.setTop (mkF m 30 #[.val (.int p1), .val (.int p2), .val (.int (5 : Int32)), .val (.ref (A 5)), .unset, .unset] [(.int (2 : Int32))])) (fun t k => XS.iconst X82.here hx rfl (hb hby at_29) k) ?_
  refine own_st (V := T82.setTop (mkF m 32 #[.val (.int p1), .val (.int p2), .val (.int (5 : Int32)), .val (.ref (A 5)), .val (.int (2 : Int32)), .unset] [])) (fun t k => XS.istore X82.here hx rfl (hb hby at_30) rfl (l' := #[.val (.int p1), .val (.int p2), .val (.int (5 : Int32)), .val (.ref (A 5)), .val (.int (2 : Int32)), .unset]) rfl k) ?_
  refine own_st (V := T82.setTop (mkF m 33 #[.val (.int p1), .val (.int p2), .val (.int (5 : Int32)), .val (.ref (A 5)), .val (.int (2 : Int32)), .unset] [(.int (5 : Int32))])) (fun t k => XS.iloadN X82.here hx rfl (hb hby at_32) rfl k) ?_
  obtain ⟨_, _, ⟨T83, L83, k83, n83⟩, -, X83, ⟨Lc83, hQ83, l83, y83, z83⟩, st83⟩ := Jvm.LawKit.callS X82 hx (y := (⟨"com/example/affirm_rows/affirmrows/rules/ComparisonHoldsPinLaw", "admittedSigns", "(I)I"⟩ : MethodName)) hown (mvT hZ (hw _ (List.mem_of_getElem? (i := 8) rfl))) (mvT hZ (hw _ (List.mem_of_getElem? (i := 9) rfl))) (mvT hZ (hw _ (List.mem_of_getElem? (i := 3) rfl))) (mvT hZ (hw _ (List.mem_of_getElem? (i := 10) rfl))) (by decide) (backOf (W := 0) (own_ad5 l Z a0 hw [] A h0 n0 Z0 En ) hZ (hw _ (List.mem_of_getElem? (i := 10) rfl)) (hw _ (List.mem_of_getElem? (i := 3) rfl)) (by decide) (by decide)) (g := (mkF m 33 #[.val (.int p1), .val (.int p2), .val (.int (5 : Int32)), .val (.ref (A 5)), .val (.int (2 : Int32)), .unset] [(.int (5 : Int32))])) rfl (by rw [hml]; rfl) (argsL := [(.int (5 : Int32))]) (rest := []) (lenOf own_pd2 rfl) rfl (by show 2 * 0 + _ ≤ _; exact Nat.le_of_eq rfl) (hb hby at_33) (fun _ _ => ⟨rfl, e82, (by decide : 0 + 0 ≤ _), (by decide : 0 + 0 ≤ _)⟩)
  dsimp only [Pt.U, Pt.locs, Pt.cells, Pt.slots] at X83 l83 y83 z83 st83 hQ83
  subst l83 y83 z83
  obtain ⟨rfl, N83q, e83⟩ := hQ83
  have N83 := Fr.app N82 N83q
  refine own_st (V := T83.setTop (mkF m 36 #[.val (.int p1), .val (.int p2), .val (.int (5 : Int32)), .val (.ref (A 5)), .val (.int (2 : Int32)), .unset] [(.int (6 : Int32))])) (fun t k => st83 _ k) ?_
  refine own_st (V := T83.setTop (mkF m 38 #[.val (.int p1), .val (.int p2), .val (.int (5 : Int32)), .val (.ref (A 5)), .val (.int (2 : Int32)), .unset] [(.int (2 : Int32)), (.int (6 : Int32))])) (fun t k => XS.iload X83.here hx rfl (hb hby at_36) rfl k) ?_
  refine own_st (V := T83.setTop (mkF m 39 #[.val (.int p1), .val (.int p2), .val (.int (5 : Int32)), .val (.ref (A 5)), .val (.int (2 : Int32)), .unset] [(.int ((6 : Int32) >>> ((2 : Int32) &&& 31)))])) (fun t k => XS.ishr X83.here hx rfl (hb hby at_38) rfl k) ?_
  refine own_st (V := T83.setTop (mkF m 40 #[.val (.int p1), .val (.int p2), .val (.int (5 : Int32)), .val (.ref (A 5)), .val (.int (2 : Int32)), .unset] [(.int (1 : Int32)), (.int ((6 : Int32) >>> ((2 : Int32) &&& 31)))])) (fun t k => XS.iconst X83.here hx rfl (hb hby at_39) k) ?_
  refine own_st (V := T83.setTop (mkF m 41 #[.val (.int p1), .val (.int p2), .val (.int (5 : Int32)), .val (.ref (A 5)), .val (.int (2 : Int32)), .unset] [(.int (((6 : Int32) >>> ((2 : Int32) &&& 31)) &&& (1 : Int32)))])) (fun t k => XS.iand X83.here hx rfl (hb hby at_40) rfl k) ?_
  refine own_st (V := T83.setTop (mkF m 44 #[.val (.int p1), .val (.int p2), .val (.int (5 : Int32)), .val (.ref (A 5)), .val (.int (2 : Int32)), .unset] [])) (fun t k => XS.ifNo X83.here hx rfl (hb hby at_41) rfl ((if0 _ _).trans (feq (by decide +kernel : ¬ ((((6 : Int32) >>> ((2 : Int32) &&& 31)) &&& (1 : Int32)) = (0 : Int32)))).1) k) ?_
  refine own_st (V := T83.setTop (mkF m 45 #[.val (.int p1), .val (.int p2), .val (.int (5 : Int32)), .val (.ref (A 5)), .val (.int (2 : Int32)), .unset] [(.int (1 : Int32))])) (fun t k => XS.iconst X83.here hx rfl (hb hby at_44) k) ?_
  refine own_st (V := T83.setTop (mkF m 49 #[.val (.int p1), .val (.int p2), .val (.int (5 : Int32)), .val (.ref (A 5)), .val (.int (2 : Int32)), .unset] [(.int (1 : Int32))])) (fun t k => XS.goto X83.here hx rfl (pc0 := 45) (pc' := 49) rfl (hb hby at_45) (by decide) (by decide) k) ?_
  refine own_st (V := T83.setTop (mkF m 51 #[.val (.int p1), .val (.int p2), .val (.int (5 : Int32)), .val (.ref (A 5)), .val (.int (2 : Int32)), .val (.int (1 : Int32))] [])) (fun t k => XS.istore X83.here hx rfl (hb hby at_49) rfl (l' := #[.val (.int p1), .val (.int p2), .val (.int (5 : Int32)), .val (.ref (A 5)), .val (.int (2 : Int32)), .val (.int (1 : Int32))]) rfl k) ?_
  refine own_st (V := T83.setTop (mkF m 52 #[.val (.int p1), .val (.int p2), .val (.int (5 : Int32)), .val (.ref (A 5)), .val (.int (2 : Int32)), .val (.int (1 : Int32))] [(.ref (A 5))])) (fun t k => XS.aloadN X83.here hx rfl (hb hby at_51) rfl rfl k) ?_
  refine own_st (V := T83.setTop (mkF m 53 #[.val (.int p1), .val (.int p2), .val (.int (5 : Int32)), .val (.ref (A 5)), .val (.int (2 : Int32)), .val (.int (1 : Int32))] [(.int p2), (.ref (A 5))])) (fun t k => XS.iloadN X83.here hx rfl (hb hby at_52) rfl k) ?_
  obtain ⟨cq84, kq84, q84a, q84b, q84c⟩ := isOf hZ e83 (own_E En 5 (i := 5) (n := "GREATER_OR_EQUAL") rfl)
  obtain ⟨_, _, ⟨T84, L84, k84, n84⟩, -, X84, ⟨Lc84, hQ84, l84, y84, z84⟩, st84⟩ := X83.virtualBack hx (y := (⟨"com/example/affirm_rows/affirmrows/rules/Comparison", "holds", "(I)Z"⟩ : MethodName)) (z := (⟨"com/example/affirm_rows/affirmrows/rules/Comparison", "holds", "(I)Z"⟩ : MethodName)) hown (mvT hZ (hw _ (List.mem_of_getElem? (i := 11) rfl))) (mvT hZ (hw _ (List.mem_of_getElem? (i := 12) rfl))) (notFace_of_selects (args := #[]) (mvT hZ (hw _ (List.mem_of_getElem? (i := 14) rfl)))) (mvT hZ (hw _ (List.mem_of_getElem? (i := 14) rfl))) (mvT hZ (hw _ (List.mem_of_getElem? (i := 13) rfl))) (by decide) (backOf (W := 0) (own_ho5p l Z a0 hw [] p2 A h0 n0 Z0 En hs) hZ (hw _ (List.mem_of_getElem? (i := 15) rfl)) (hw _ (List.mem_of_getElem? (i := 6) rfl)) (by decide) (by decide)) q84a q84c (g := (mkF m 53 #[.val (.int p1), .val (.int p2), .val (.int (5 : Int32)), .val (.ref (A 5)), .val (.int (2 : Int32)), .val (.int (1 : Int32))] [(.int p2), (.ref (A 5))])) rfl (by rw [hml]; rfl) (Steps.refl _) (argsL := [(.int p2)]) (rest := []) (lenOf own_pd3 rfl) rfl (by show 2 * 0 + _ ≤ _; exact Nat.le_of_eq rfl) (hb hby at_53) (fun _ _ => ⟨rfl, e83, (by decide : 0 + 0 ≤ _), (by decide : 0 + 0 ≤ _)⟩)
  dsimp only [Pt.U, Pt.locs, Pt.cells, Pt.slots] at X84 l84 y84 z84 st84 hQ84
  subst l84 y84 z84
  obtain ⟨rfl, N84q, e84⟩ := hQ84
  have N84 := Fr.app N83 N84q
  refine own_st (V := T84.setTop (mkF m 56 #[.val (.int p1), .val (.int p2), .val (.int (5 : Int32)), .val (.ref (A 5)), .val (.int (2 : Int32)), .val (.int (1 : Int32))] [(.int (1 : Int32))])) (fun t k => st84.trans k) ?_
  refine own_st (V := T84.setTop (mkF m 58 #[.val (.int p1), .val (.int p2), .val (.int (5 : Int32)), .val (.ref (A 5)), .val (.int (2 : Int32)), .val (.int (1 : Int32))] [(.int (1 : Int32)), (.int (1 : Int32))])) (fun t k => XS.iload X84.here hx rfl (hb hby at_56) rfl k) ?_
  refine own_st (V := T84.setTop (mkF m 61 #[.val (.int p1), .val (.int p2), .val (.int (5 : Int32)), .val (.ref (A 5)), .val (.int (2 : Int32)), .val (.int (1 : Int32))] [])) (fun t k => XS.icmpNo X84.here hx rfl (hb hby at_58) rfl (teq (by decide : (1 : Int32) = (1 : Int32))).2 k) ?_
  refine own_st (V := T84.setTop (mkF m 62 #[.val (.int p1), .val (.int p2), .val (.int (5 : Int32)), .val (.ref (A 5)), .val (.int (2 : Int32)), .val (.int (1 : Int32))] [(.int (1 : Int32))])) (fun t k => XS.iconst X84.here hx rfl (hb hby at_61) k) ?_
  refine own_st (V := T84.setTop (mkF m 66 #[.val (.int p1), .val (.int p2), .val (.int (5 : Int32)), .val (.ref (A 5)), .val (.int (2 : Int32)), .val (.int (1 : Int32))] [(.int (1 : Int32))])) (fun t k => XS.goto X84.here hx rfl (pc0 := 62) (pc' := 66) rfl (hb hby at_62) (by decide) (by decide) k) ?_
  exact own_ret X84 hx hlk Bd.returns (by decide +kernel) (Or.inl ⟨rfl, by simp, _, rfl⟩) (hb hby at_66) (by decide) (by decide) (by show own_Q0 Z p1 p2 A h0 n0 _ T84.heap _; rw [e84]; exact ⟨rfl, N84⟩)
theorem own_law (l : Launch) (Z : State) (a0 : Array Value) (hw : ∀ d ∈ tables_1, d.before a0 Z = true) (ws : List Jvm.Cond) (p1 : Int32) (p2 : Int32) (A : Nat → Addr) (h0 : Heap) (n0 : Nat) (Z0 : n0 ≤ h0.size) (En : own_En Z h0 A) :
    MetFree l x (head1 (Jvm.Cond.code x code maxLocals ret :: ws) room_1) (fun a U => a = #[(.int p1), (.int p2)] ∧ Z.Warmed39 U.vm ∧ U.heap = h0) (fun _ _ _ _ _ => True) (fun _ U o U' => ∃ v L, o = .returned v ∧ own_Q0 Z p1 p2 A h0 n0 v U'.heap L ∧ FrameEnd U o U' L room_1.cells room_1.slots) := by
  rcases own_c p1 with h | h | h | h | h | h
  · rcases own_s3 p2 with hs | hs | hs
    · exact own_law0n l Z a0 hw ws p1 p2 A h0 n0 Z0 En h hs
    · exact own_law0z l Z a0 hw ws p1 p2 A h0 n0 Z0 En h hs
    · exact own_law0p l Z a0 hw ws p1 p2 A h0 n0 Z0 En h hs
  · rcases own_s3 p2 with hs | hs | hs
    · exact own_law1n l Z a0 hw ws p1 p2 A h0 n0 Z0 En h hs
    · exact own_law1z l Z a0 hw ws p1 p2 A h0 n0 Z0 En h hs
    · exact own_law1p l Z a0 hw ws p1 p2 A h0 n0 Z0 En h hs
  · rcases own_s3 p2 with hs | hs | hs
    · exact own_law2n l Z a0 hw ws p1 p2 A h0 n0 Z0 En h hs
    · exact own_law2z l Z a0 hw ws p1 p2 A h0 n0 Z0 En h hs
    · exact own_law2p l Z a0 hw ws p1 p2 A h0 n0 Z0 En h hs
  · rcases own_s3 p2 with hs | hs | hs
    · exact own_law3n l Z a0 hw ws p1 p2 A h0 n0 Z0 En h hs
    · exact own_law3z l Z a0 hw ws p1 p2 A h0 n0 Z0 En h hs
    · exact own_law3p l Z a0 hw ws p1 p2 A h0 n0 Z0 En h hs
  · rcases own_s3 p2 with hs | hs | hs
    · exact own_law4n l Z a0 hw ws p1 p2 A h0 n0 Z0 En h hs
    · exact own_law4z l Z a0 hw ws p1 p2 A h0 n0 Z0 En h hs
    · exact own_law4p l Z a0 hw ws p1 p2 A h0 n0 Z0 En h hs
  · rcases own_s3 p2 with hs | hs | hs
    · exact own_law5n l Z a0 hw ws p1 p2 A h0 n0 Z0 En h hs
    · exact own_law5z l Z a0 hw ws p1 p2 A h0 n0 Z0 En h hs
    · exact own_law5p l Z a0 hw ws p1 p2 A h0 n0 Z0 En h hs
set_option maxRecDepth 65536 in
set_option maxHeartbeats 40000000 in
theorem comes_1 {Post : Tables → Env → Array Value → State → Outcome → State → Prop} (hpost : ∀ tb e args s v u, (limb_1_1.after args s (.returned v) u = true ∧ limb_1_2.after args s (.returned v) u = true ∧ True) → FrameEnd s (.returned v) u (Jvm.fieldLocs frame_1_writes args s ++ Jvm.arrayLocs frame_1_arrays args s ++ Jvm.staticLocs frame_1_statics s) 0 0 → Post tb e args s (.returned v) u) :
    ArmFor flags0 classFile x code maxLocals ret World_1 tables_1 room_1 Calls_1 rest_1 Pre_1 Post := by
  intro l hfl _ _ p e ha hc hk s m args below hf hA hF happ hP
  obtain ⟨hcalls, hrest, hpre⟩ := hP
  obtain ⟨-, -, -, hnamed, -, -, -, hat⟩ := (Spec.applies_iff hf).mp happ
  obtain ⟨hg, hn⟩ := and_e (Cond.before_iff.mp (show (Jvm.Cond.and given_1 narrow_1).before args s = true from hpre))
  obtain ⟨g0, g1⟩ := and_e hg
  obtain ⟨ga0, gr0⟩ := and_e g1
  obtain ⟨w0, w1, rfl⟩ : ∃ w0 w1 : Value, args = #[w0, w1] := by
    have hs : args.size = 2 := by simpa [Cond.value, given_1] using g0
    obtain ⟨L⟩ := args
    match L, hs with
    | [w0, w1], _ => exact ⟨w0, w1, rfl⟩
  have hw := fun d (hd : d ∈ tables_1) => atoms_spec (ws := Jvm.Cond.code x code maxLocals ret :: tables_1) hat d (List.mem_cons_of_mem _ hd)
  have hfit : Fit s := fun {y c} hc i hi => by
    obtain ⟨ha, rfl⟩ := Array.getElem?_eq_some_iff.mp hc
    have q := List.all_eq_true.mp ((Array.all_eq_true_iff_forall_mem.mp hF) _ (Array.getElem_mem ha)) i (List.mem_range.mpr hi)
    simpa [Array.getElem?_eq_getElem hi] using q
  obtain ⟨i0, ei0⟩ := is_v ga0
  obtain rfl : w0 = (.int i0) := Option.some.inj ei0
  obtain ⟨i1, ei1⟩ := is_v gr0
  obtain rfl : w1 = (.int i1) := Option.some.inj ei1
  obtain ⟨nz0, nr0⟩ := and_e hn
  obtain ⟨nz1, nr1⟩ := and_e nr0
  obtain ⟨nz2, nr2⟩ := and_e nr1
  obtain ⟨nz3, nr3⟩ := and_e nr2
  obtain ⟨nz4, nr4⟩ := and_e nr3
  obtain ⟨nz5, nr5⟩ := and_e nr4
  obtain ⟨nz6, nr6⟩ := and_e nr5
  obtain ⟨nz7, nr7⟩ := and_e nr6
  obtain ⟨nz8, nr8⟩ := and_e nr7
  obtain ⟨nz9, nr9⟩ := and_e nr8
  obtain ⟨nz10, nr10⟩ := and_e nr9
  have nz11 := nr10
  obtain ⟨a0, S0, E0, v0⟩ := own_sta nz0 (hw _ (List.mem_of_getElem? (i := 6) rfl)) (hw _ (List.mem_of_getElem? (i := 7) rfl))
  obtain ⟨a1, S1, E1, v1⟩ := own_sta nz6 (hw _ (List.mem_of_getElem? (i := 6) rfl)) (hw _ (List.mem_of_getElem? (i := 30) rfl))
  obtain ⟨a2, S2, E2, v2⟩ := own_sta nz2 (hw _ (List.mem_of_getElem? (i := 6) rfl)) (hw _ (List.mem_of_getElem? (i := 26) rfl))
  obtain ⟨a3, S3, E3, v3⟩ := own_sta nz10 (hw _ (List.mem_of_getElem? (i := 6) rfl)) (hw _ (List.mem_of_getElem? (i := 34) rfl))
  obtain ⟨a4, S4, E4, v4⟩ := own_sta nz4 (hw _ (List.mem_of_getElem? (i := 6) rfl)) (hw _ (List.mem_of_getElem? (i := 28) rfl))
  obtain ⟨a5, S5, E5, v5⟩ := own_sta nz8 (hw _ (List.mem_of_getElem? (i := 6) rfl)) (hw _ (List.mem_of_getElem? (i := 32) rfl))
  let A : Nat → Addr := fun i => [a0, a1, a2, a3, a4, a5].getD i 0
  have En : own_En s s.heap A := by
    intro q hq
    simp only [own_cs, List.mem_cons, List.not_mem_nil, or_false] at hq
    rcases hq with rfl | rfl | rfl | rfl | rfl | rfl
    · exact ⟨S0, E0, own_fld v0 nz1⟩
    · exact ⟨S1, E1, own_fld v1 nz7⟩
    · exact ⟨S2, E2, own_fld v2 nz3⟩
    · exact ⟨S3, E3, own_fld v3 nz11⟩
    · exact ⟨S4, E4, own_fld v4 nz5⟩
    · exact ⟨S5, E5, own_fld v5 nz9⟩
  obtain ⟨n, o, h1, h2, h3, _, L, rfl, ⟨rfl, N⟩, hq⟩ := own_law l s _ hw tables_1 i0 i1 A s.heap s.heap.size (Nat.le_refl _) En p e ha hc hk s m _ below hf ((Spec.applies_iff_loose hf).mp happ).1 ⟨rfl, State.Warmed39.refl s, rfl⟩ trivial
  refine ⟨n, _, h1, h2, h3, hpost _ _ _ _ _ _ ⟨Cond.after_iff.mpr rfl, Cond.after_iff.mpr (eq_i res_at (Term.int_eval (1)) rfl), trivial⟩ ⟨hq.1, hq.2.1, (hq.2.2.sift fun y hy => Or.inr (N y hy)).mono (by decide) (by decide)⟩⟩
theorem main_1_1 : Claimed_1_1 := comes_1 fun _ _ _ _ _ _ h hF => ⟨h.1, hF⟩
theorem main_1_2 : Claimed_1_2 := comes_1 fun _ _ _ _ _ _ h hF => ⟨h.2.1, hF⟩
end Jvm.Pilot.@@N@@
namespace Jvm.Pilot.@@N@@
open Jvm Jvm.ClassFile Sem Op Lib Jvm.Free Jvm.Stand Jvm.Pilot.@@N@@.Jvm.D
/-! MADE BY PROGRAM (witnessworld.py) out of the Statement's table words and the real class files: 13 classes; the members and pool entries that the words name. The judged class is class 1, her method 3. -/
namespace start1
open Jvm.ClassFile
def u (s : String) : CpInfo := .utf8 (stringToUtf16 s)
/-- a pool by its gaps: so many unusable entries, then the entry; so many at the end -/
def gap : Nat → List CpInfo → List CpInfo
  | 0, r => r
  | n + 1, r => .unusable :: gap n r
def poolList (es : List (Nat × CpInfo)) (last : Nat) : List CpInfo := es.foldr (fun e r => gap e.1 (e.2 :: r)) (gap last [])
def pool (es : List (Nat × CpInfo)) (last : Nat) : Array CpInfo := ⟨poolList es last⟩
def fileOf (pool : Array CpInfo) (this : Nat) (attrs : Array Attribute := #[]) (ms : Array MethodInfo := #[]) (fl : Nat := 33) (sup : Nat := 0) (ifs : Array Nat := #[]) (fds : Array FieldInfo := #[]) : ClassFile where
  minorVersion := 0
  majorVersion := 65
  constantPool := pool
  accessFlags := fl
  thisClass := this
  superClass := sup
  interfaces := ifs
  fields := fds
  methods := ms
  attributes := attrs
def plain (name : String) (sup : Option ClassId) : Class where
  name := name
  kind := .ordinary
  loader := none
  accessFlags := 33
  super := sup
  interfaces := #[]
  cf := none
  fields := #[]
  methods := #[]
  instanceTypes := #[]
  staticTypes := #[]
  resolved := #[]
  callSites := []
  init := .initialized
  statics := none
  mirror := none

def pool0 : Array CpInfo := pool [(5, u "<init>"), (0, u "()V"), (1, .class_ 10), (1, u "java/lang/Object")] 113

def k0m0 : Method := { name := "<init>", desc := "()V", sig := { parameters := [], returnType := none }, accessFlags := 1, code := none }
/-- java/lang/Object -/
def k0 : Class := { plain "java/lang/Object" none with
  accessFlags := 33
  interfaces := #[]
  cf := some (fileOf pool0 8 #[] #[{ accessFlags := 1, nameIndex := 5, descriptorIndex := 6, attributes := #[] }] 33 0 #[] #[])
  fields := #[]
  methods := #[k0m0]
  instanceTypes := #[]
  staticTypes := #[]
  resolved := Array.replicate 124 none
  statics := none }

def pool1 : Array CpInfo := pool [(2, .class_ 4), (1, u "java/lang/Object"), (0, u "<init>"), (0, u "()V"), (0, .fieldref 8 9), (0, .class_ 10), (0, .nameAndType 11 12), (0, u "com/example/affirm_rows/affirmrows/rules/Comparison"), (0, u "EQUAL"), (0, u "Lcom/example/affirm_rows/affirmrows/rules/Comparison;"), (0, .fieldref 8 14), (0, .nameAndType 15 12), (0, u "NOT_EQUAL"), (0, .fieldref 8 17), (0, .nameAndType 18 12), (0, u "LESS"), (0, .fieldref 8 20), (0, .nameAndType 21 12), (0, u "LESS_OR_EQUAL"), (0, .fieldref 8 23), (0, .nameAndType 24 12), (0, u "GREATER"), (0, .fieldref 8 26), (0, .nameAndType 27 12), (0, u "GREATER_OR_EQUAL"), (0, .integer 2147483647), (0, .methodref 30 31), (0, .class_ 32), (0, .nameAndType 33 34), (0, u "com/example/affirm_rows/affirmrows/rules/ComparisonHoldsPinLaw"), (0, u "pick"), (0, u "(I)Lcom/example/affirm_rows/affirmrows/rules/Comparison;"), (0, .methodref 30 36), (0, .nameAndType 37 38), (0, u "admittedSigns"), (0, u "(I)I"), (0, .methodref 8 40), (0, .nameAndType 41 42), (0, u "holds"), (0, u "(I)Z"), (3, u "law"), (0, u "(II)Z")] 2

def k1m0 : Method := { name := "<init>", desc := "()V", sig := { parameters := [], returnType := none }, accessFlags := 2, code := none }
def k1c1 : Code := { maxStack := 2, maxLocals := 1, code := method_2_code, exceptionTable := #[], attributes := #[] }
def k1m1 : Method := { name := "pick", desc := "(I)Lcom/example/affirm_rows/affirmrows/rules/Comparison;", sig := { parameters := [.int], returnType := some (.object "com/example/affirm_rows/affirmrows/rules/Comparison") }, accessFlags := 10, code := some k1c1 }
def k1c2 : Code := { maxStack := 2, maxLocals := 1, code := method_3_code, exceptionTable := #[], attributes := #[] }
def k1m2 : Method := { name := "admittedSigns", desc := "(I)I", sig := { parameters := [.int], returnType := some .int }, accessFlags := 10, code := some k1c2 }
def k1c3 : Code := { maxStack := 2, maxLocals := 6, code := code, exceptionTable := #[], attributes := #[] }
def k1m3 : Method := { name := "law", desc := "(II)Z", sig := { parameters := [.int, .int], returnType := some .boolean }, accessFlags := 9, code := some k1c3 }
/-- com/example/affirm_rows/affirmrows/rules/ComparisonHoldsPinLaw -/
def k1 : Class := { plain "com/example/affirm_rows/affirmrows/rules/ComparisonHoldsPinLaw" (some 0) with
  accessFlags := 49
  interfaces := #[]
  cf := some (fileOf pool1 30 #[] #[{ accessFlags := 2, nameIndex := 5, descriptorIndex := 6, attributes := #[] }, { accessFlags := 10, nameIndex := 33, descriptorIndex := 34, attributes := #[] }, { accessFlags := 10, nameIndex := 37, descriptorIndex := 38, attributes := #[] }, { accessFlags := 9, nameIndex := 46, descriptorIndex := 47, attributes := #[] }] 49 2 #[] #[])
  fields := #[]
  methods := #[k1m0, k1m1, k1m2, k1m3]
  instanceTypes := #[]
  staticTypes := #[]
  resolved := Array.replicate 50 none
  statics := none }

def pool2 : Array CpInfo := pool [(1, .class_ 2), (0, u "java/lang/constant/Constable"), (0, .class_ 4), (0, u "java/lang/Object")] 6

/-- java/lang/constant/Constable -/
def k2 : Class := { plain "java/lang/constant/Constable" (some 0) with
  accessFlags := 1537
  interfaces := #[]
  cf := some (fileOf pool2 1 #[] #[] 1537 3 #[] #[])
  fields := #[]
  methods := #[]
  instanceTypes := #[]
  staticTypes := #[]
  resolved := Array.replicate 11 none
  statics := none }

def pool3 : Array CpInfo := pool [(1, .class_ 2), (0, u "java/lang/Comparable"), (0, .class_ 4), (0, u "java/lang/Object")] 7

/-- java/lang/Comparable -/
def k3 : Class := { plain "java/lang/Comparable" (some 0) with
  accessFlags := 1537
  interfaces := #[]
  cf := some (fileOf pool3 1 #[] #[] 1537 3 #[] #[])
  fields := #[]
  methods := #[]
  instanceTypes := #[]
  staticTypes := #[]
  resolved := Array.replicate 12 none
  statics := none }

def pool4 : Array CpInfo := pool [(1, .class_ 2), (0, u "java/io/Serializable"), (0, .class_ 4), (0, u "java/lang/Object")] 2

/-- java/io/Serializable -/
def k4 : Class := { plain "java/io/Serializable" (some 0) with
  accessFlags := 1537
  interfaces := #[]
  cf := some (fileOf pool4 1 #[] #[] 1537 3 #[] #[])
  fields := #[]
  methods := #[]
  instanceTypes := #[]
  staticTypes := #[]
  resolved := Array.replicate 7 none
  statics := none }

def pool5 : Array CpInfo := pool [(2, .class_ 4), (1, u "java/lang/Enum"), (0, u "name"), (0, u "Ljava/lang/String;"), (0, .fieldref 2 8), (0, .nameAndType 9 10), (0, u "ordinal"), (0, u "I"), (1, .class_ 14), (1, u "java/lang/Object"), (4, u "hash"), (86, .class_ 108), (1, u "java/lang/Enum$EnumDesc"), (2, .class_ 112), (0, u "java/lang/constant/Constable"), (0, .class_ 114), (0, u "java/lang/Comparable"), (0, .class_ 116), (0, u "java/io/Serializable"), (9, u "()I")] 77

def k5c0 : Code := { maxStack := 1, maxLocals := 1, code := jdk_37_method_2_code, exceptionTable := #[], attributes := #[] }
def k5m0 : Method := { name := "ordinal", desc := "()I", sig := { parameters := [], returnType := some .int }, accessFlags := 17, code := some k5c0 }
/-- java/lang/Enum -/
def k5 : Class := { plain "java/lang/Enum" (some 0) with
  accessFlags := 1057
  interfaces := #[2, 3, 4]
  cf := some (fileOf pool5 2 #[.nestMembers #[106]] #[{ accessFlags := 17, nameIndex := 9, descriptorIndex := 126, attributes := #[] }] 1057 12 #[111, 113, 115] #[{ accessFlags := 18, nameIndex := 5, descriptorIndex := 6, attributes := #[] }, { accessFlags := 18, nameIndex := 9, descriptorIndex := 10, attributes := #[] }, { accessFlags := 2, nameIndex := 19, descriptorIndex := 10, attributes := #[] }])
  fields := #[{ name := "name", type := (.object "java/lang/String"), accessFlags := 18, slot := 0, constantValue := 0 }, { name := "ordinal", type := .int, accessFlags := 18, slot := 1, constantValue := 0 }, { name := "hash", type := .int, accessFlags := 2, slot := 2, constantValue := 0 }]
  methods := #[k5m0]
  instanceTypes := #[(.object "java/lang/String"), .int, .int]
  staticTypes := #[]
  resolved := Array.replicate 204 none
  statics := none }

def pool6 : Array CpInfo := pool [(2, .class_ 4), (1, u "com/example/affirm_rows/affirmrows/rules/Keyword"), (18, .class_ 24), (0, u "java/lang/Object")] 5

/-- com/example/affirm_rows/affirmrows/rules/Keyword -/
def k6 : Class := { plain "com/example/affirm_rows/affirmrows/rules/Keyword" (some 0) with
  accessFlags := 1537
  interfaces := #[]
  cf := some (fileOf pool6 2 #[] #[] 1537 23 #[] #[])
  fields := #[]
  methods := #[]
  instanceTypes := #[]
  staticTypes := #[]
  resolved := Array.replicate 30 none
  statics := none }

def pool7 : Array CpInfo := pool [(1, .class_ 2), (0, u "com/example/affirm_rows/affirmrows/rules/Comparison"), (2, u "EQUAL"), (0, u "Lcom/example/affirm_rows/affirmrows/rules/Comparison;"), (2, u "NOT_EQUAL"), (2, u "LESS"), (2, u "LESS_OR_EQUAL"), (2, u "GREATER"), (2, u "GREATER_OR_EQUAL"), (2, u "$VALUES"), (0, u "[Lcom/example/affirm_rows/affirmrows/rules/Comparison;"), (6, .class_ 34), (1, u "java/lang/Enum"), (8, u "broken"), (0, u "Lcom/example/affirm_rows/affirmrows/messages/Outcome;"), (25, .methodref 1 71), (0, .nameAndType 72 73), (0, u "ordinal"), (0, u "()I"), (46, .class_ 121), (0, u "com/example/affirm_rows/affirmrows/rules/Keyword"), (10, u "holds"), (0, u "(I)Z")] 21

def k7c0 : Code := { maxStack := 4, maxLocals := 2, code := prog_45_method_6_code, exceptionTable := #[], attributes := #[] }
def k7m0 : Method := { name := "holds", desc := "(I)Z", sig := { parameters := [.int], returnType := some .boolean }, accessFlags := 1, code := some k7c0 }
/-- com/example/affirm_rows/affirmrows/rules/Comparison -/
def k7 : Class := { plain "com/example/affirm_rows/affirmrows/rules/Comparison" (some 5) with
  accessFlags := 16433
  interfaces := #[6]
  cf := some (fileOf pool7 1 #[] #[{ accessFlags := 1, nameIndex := 132, descriptorIndex := 133, attributes := #[] }] 16433 32 #[120] #[{ accessFlags := 16409, nameIndex := 5, descriptorIndex := 6, attributes := #[] }, { accessFlags := 16409, nameIndex := 9, descriptorIndex := 6, attributes := #[] }, { accessFlags := 16409, nameIndex := 12, descriptorIndex := 6, attributes := #[] }, { accessFlags := 16409, nameIndex := 15, descriptorIndex := 6, attributes := #[] }, { accessFlags := 16409, nameIndex := 18, descriptorIndex := 6, attributes := #[] }, { accessFlags := 16409, nameIndex := 21, descriptorIndex := 6, attributes := #[] }, { accessFlags := 18, nameIndex := 43, descriptorIndex := 44, attributes := #[] }, { accessFlags := 4122, nameIndex := 24, descriptorIndex := 25, attributes := #[] }])
  fields := #[{ name := "EQUAL", type := (.object "com/example/affirm_rows/affirmrows/rules/Comparison"), accessFlags := 16409, slot := 0, constantValue := 0 }, { name := "NOT_EQUAL", type := (.object "com/example/affirm_rows/affirmrows/rules/Comparison"), accessFlags := 16409, slot := 1, constantValue := 0 }, { name := "LESS", type := (.object "com/example/affirm_rows/affirmrows/rules/Comparison"), accessFlags := 16409, slot := 2, constantValue := 0 }, { name := "LESS_OR_EQUAL", type := (.object "com/example/affirm_rows/affirmrows/rules/Comparison"), accessFlags := 16409, slot := 3, constantValue := 0 }, { name := "GREATER", type := (.object "com/example/affirm_rows/affirmrows/rules/Comparison"), accessFlags := 16409, slot := 4, constantValue := 0 }, { name := "GREATER_OR_EQUAL", type := (.object "com/example/affirm_rows/affirmrows/rules/Comparison"), accessFlags := 16409, slot := 5, constantValue := 0 }, { name := "broken", type := (.object "com/example/affirm_rows/affirmrows/messages/Outcome"), accessFlags := 18, slot := 3, constantValue := 0 }, { name := "$VALUES", type := (.array (.object "com/example/affirm_rows/affirmrows/rules/Comparison")), accessFlags := 4122, slot := 6, constantValue := 0 }]
  methods := #[k7m0]
  instanceTypes := #[(.object "java/lang/String"), .int, .int, (.object "com/example/affirm_rows/affirmrows/messages/Outcome")]
  staticTypes := #[(.object "com/example/affirm_rows/affirmrows/rules/Comparison"), (.object "com/example/affirm_rows/affirmrows/rules/Comparison"), (.object "com/example/affirm_rows/affirmrows/rules/Comparison"), (.object "com/example/affirm_rows/affirmrows/rules/Comparison"), (.object "com/example/affirm_rows/affirmrows/rules/Comparison"), (.object "com/example/affirm_rows/affirmrows/rules/Comparison"), (.array (.object "com/example/affirm_rows/affirmrows/rules/Comparison"))]
  resolved := Array.replicate 155 none
  statics := some 0 }

def pool8 : Array CpInfo := pool [(1, u "java/lang/Cloneable"), (0, .class_ 1), (0, u "java/lang/Object"), (0, .class_ 3)] 3

/-- java/lang/Cloneable -/
def k8 : Class := { plain "java/lang/Cloneable" (some 0) with
  accessFlags := 1537
  interfaces := #[]
  cf := some (fileOf pool8 2 #[] #[] 1537 4 #[] #[])
  fields := #[]
  methods := #[]
  instanceTypes := #[]
  staticTypes := #[]
  resolved := Array.replicate 8 none
  statics := none }

/-- the primitive byte -/
def k9 : Class := { plain "byte" none with kind := .primitive 'B', accessFlags := 0x411 }
/-- [B -/
def k10 : Class := { plain "[B" (some 0) with kind := .array 9 .byte, interfaces := #[8, 4], accessFlags := 1041 }

/-- the primitive int -/
def k11 : Class := { plain "int" none with kind := .primitive 'I', accessFlags := 0x411 }
/-- [I -/
def k12 : Class := { plain "[I" (some 0) with kind := .array 11 .int, interfaces := #[8, 4], accessFlags := 1041 }

def heap : Heap := #[{ cls := 7, slots := #[.ref 1, .ref 2, .ref 3, .ref 4, .ref 5, .ref 6, .null], vm := .statics 7 },
  { cls := 7, slots := #[.null, .int 0, .int 0, .null], vm := .none },
  { cls := 7, slots := #[.null, .int 1, .int 0, .null], vm := .none },
  { cls := 7, slots := #[.null, .int 2, .int 0, .null], vm := .none },
  { cls := 7, slots := #[.null, .int 3, .int 0, .null], vm := .none },
  { cls := 7, slots := #[.null, .int 4, .int 0, .null], vm := .none },
  { cls := 7, slots := #[.null, .int 5, .int 0, .null], vm := .none }]
def classes : Array Class := #[k0, k1, k2, k3, k4, k5, k6, k7, k8, k9, k10, k11, k12]
def interned : List (Array UInt16 × Addr) := []
def slotsUsed : Nat := 31
def theMethod : MethodId := ⟨1, 3⟩
def args0 : Array Value := #[.int 5, .int 3]
def aboutOver (below : List Frame) : State where
  vm := { classes := classes, interned := interned.toArray }
  heap := heap
  slotsUsed := slotsUsed
  threads := #[{ frames := .invoking theMethod args0 :: below }]
def below0 : List Frame := [.native { method := ⟨0, 0⟩, args := #[] }]
def about1 : State := aboutOver below0
def p0 : Program := .bare "" "" ""
def e0 : Env := launch0.env 0 0 0
theorem w_frames : about1.frames = Frame.invoking theMethod args0 :: below0 := rfl
set_option maxRecDepth 65536 in
theorem w_args : argsFit about1.vm theMethod args0 = true := by decide +kernel
set_option maxRecDepth 65536 in
theorem w_heap : heapFits about1 = true := by decide +kernel
set_option maxRecDepth 65536 in
theorem w_runnable : about1.curStatus? = some .runnable := by decide +kernel
set_option maxRecDepth 65536 in
theorem w_alone : about1.alone = true := by decide +kernel
set_option maxRecDepth 65536 in
theorem w_named : about1.methodNamed? x = some theMethod := by decide +kernel
set_option maxRecDepth 65536 in
theorem w_hears : about1.hears theMethod below0 = true := by decide +kernel
set_option maxRecDepth 65536 in
theorem w_ripe : about1.ripe theMethod args0 below0 = true := by decide +kernel
theorem w_running : about1.status = .running := rfl
set_option maxRecDepth 65536 in
theorem w_room : about1.hasRoom e0.platform room_1 = true :=
  launch0.hasRoom_least _ room_1 (by decide +kernel) (by decide +kernel) (by decide +kernel) (by decide +kernel) (by decide +kernel) (by decide +kernel)
theorem allAtoms_all (ts : List Jvm.Cond) (a : Array Jvm.Value) (st : Jvm.State) : (allAtoms ts).before a st = ts.all (fun c => c.before a st) := by
  induction ts with
  | nil => rfl
  | cons c t ih =>
    show (Jvm.Cond.and c (allAtoms t)).before a st = _
    rw [Jvm.Cond.before_and, ih, List.all_cons]
def words1 : List Jvm.Cond := Jvm.Cond.code x code maxLocals ret :: tables_1
/-- a 'code' word, met by the world's own term for the bytes: nothing is compared byte by byte -/
theorem code_word {y : MethodName} {bytes : ByteArray} {mx : Nat} {rt : Option FieldType} {a : Array Value} {s : State} {m : MethodId} {meth : Method} {c : Code} (h1 : s.methodNamed? y = some m) (h2 : s.vm.method? m = some meth) (h3 : meth.code = some c) (h4 : c.code = bytes)
    (h5 : (c.maxLocals == mx && c.exceptionTable.isEmpty && decide (c.maxStack ≤ mostOperands) && decide (meth.sig.returnType = rt) && !meth.locks && decide (parseMethodDescriptor y.desc = some meth.sig)) = true) : (Jvm.Cond.code y bytes mx rt).before a s = true := by
  simp only [Bool.and_eq_true, beq_iff_eq, Bool.not_eq_true', decide_eq_true_eq] at h5
  obtain ⟨⟨⟨⟨⟨g1, g2⟩, g3⟩, g4⟩, g5⟩, g6⟩ := h5
  simp [Cond.before, Cond.holds, Cond.value, h1, h2, h3, h4, g1, g2, g3, g4, g5, g6]
def isCode : Jvm.Cond → Bool
  | .code _ _ _ _ => true
  | _ => false
theorem all_split {L : List Jvm.Cond} {P : Jvm.Cond → Bool} (h1 : L.all (fun c => isCode c || P c) = true) (h2 : ∀ c ∈ L.filter isCode, P c = true) : L.all P = true := by
  refine List.all_eq_true.mpr fun c hc => ?_
  have h := List.all_eq_true.mp h1 c hc
  rcases Bool.eq_false_or_eq_true (isCode c) with hi | hi
  · exact h2 c (List.mem_filter.mpr ⟨hc, hi⟩)
  · simpa [hi] using h
set_option maxRecDepth 65536 in
theorem w_c0 : (Jvm.Cond.code x code maxLocals ret).before args0 about1 = true := code_word (m := ⟨1, 3⟩) (meth := k1m3) (c := k1c3) (by decide +kernel) rfl rfl rfl (by decide +kernel)
set_option maxRecDepth 65536 in
theorem w_c1 : (Jvm.Cond.code ({ cls := "com/example/affirm_rows/affirmrows/rules/ComparisonHoldsPinLaw", name := "pick", desc := "(I)Lcom/example/affirm_rows/affirmrows/rules/Comparison;" } : Jvm.MethodName) method_2_code (1 : Nat) (Option.some (Jvm.ClassFile.FieldType.object "com/example/affirm_rows/affirmrows/rules/Comparison"))).before args0 about1 = true := code_word (m := ⟨1, 1⟩) (meth := k1m1) (c := k1c1) (by decide +kernel) rfl rfl rfl (by decide +kernel)
set_option maxRecDepth 65536 in
theorem w_c2 : (Jvm.Cond.code ({ cls := "com/example/affirm_rows/affirmrows/rules/ComparisonHoldsPinLaw", name := "admittedSigns", desc := "(I)I" } : Jvm.MethodName) method_3_code (1 : Nat) (Option.some Jvm.ClassFile.FieldType.int)).before args0 about1 = true := code_word (m := ⟨1, 2⟩) (meth := k1m2) (c := k1c2) (by decide +kernel) rfl rfl rfl (by decide +kernel)
set_option maxRecDepth 65536 in
theorem w_c3 : (Jvm.Cond.code ({ cls := "com/example/affirm_rows/affirmrows/rules/Comparison", name := "holds", desc := "(I)Z" } : Jvm.MethodName) prog_45_method_6_code (2 : Nat) (Option.some Jvm.ClassFile.FieldType.boolean)).before args0 about1 = true := code_word (m := ⟨7, 0⟩) (meth := k7m0) (c := k7c0) (by decide +kernel) rfl rfl rfl (by decide +kernel)
set_option maxRecDepth 65536 in
theorem w_c4 : (Jvm.Cond.code ({ cls := "java/lang/Enum", name := "ordinal", desc := "()I" } : Jvm.MethodName) jdk_37_method_2_code (1 : Nat) (Option.some Jvm.ClassFile.FieldType.int)).before args0 about1 = true := code_word (m := ⟨5, 0⟩) (meth := k5m0) (c := k5c0) (by decide +kernel) rfl rfl rfl (by decide +kernel)
def codes1 : List Jvm.Cond := [Jvm.Cond.code x code maxLocals ret, Jvm.Cond.code ({ cls := "com/example/affirm_rows/affirmrows/rules/ComparisonHoldsPinLaw", name := "pick", desc := "(I)Lcom/example/affirm_rows/affirmrows/rules/Comparison;" } : Jvm.MethodName) method_2_code (1 : Nat) (Option.some (Jvm.ClassFile.FieldType.object "com/example/affirm_rows/affirmrows/rules/Comparison")), Jvm.Cond.code ({ cls := "com/example/affirm_rows/affirmrows/rules/ComparisonHoldsPinLaw", name := "admittedSigns", desc := "(I)I" } : Jvm.MethodName) method_3_code (1 : Nat) (Option.some Jvm.ClassFile.FieldType.int), Jvm.Cond.code ({ cls := "com/example/affirm_rows/affirmrows/rules/Comparison", name := "holds", desc := "(I)Z" } : Jvm.MethodName) prog_45_method_6_code (2 : Nat) (Option.some Jvm.ClassFile.FieldType.boolean), Jvm.Cond.code ({ cls := "java/lang/Enum", name := "ordinal", desc := "()I" } : Jvm.MethodName) jdk_37_method_2_code (1 : Nat) (Option.some Jvm.ClassFile.FieldType.int)]
set_option maxRecDepth 65536 in
theorem codes_eq : words1.filter isCode = codes1 := rfl
theorem w_codes : ∀ c ∈ words1.filter isCode, c.before args0 about1 = true := by
  rw [codes_eq]
  intro c hc
  simp only [codes1, List.mem_cons, List.not_mem_nil, or_false] at hc
  rcases hc with rfl | rfl | rfl | rfl | rfl
  · exact w_c0
  · exact w_c1
  · exact w_c2
  · exact w_c3
  · exact w_c4
set_option maxRecDepth 65536 in
theorem w_t1 : (words1.take 24).all (fun c => isCode c || c.before args0 about1) = true := by decide +kernel
set_option maxRecDepth 65536 in
theorem w_t2 : (words1.drop 24).all (fun c => isCode c || c.before args0 about1) = true := by decide +kernel
theorem w_tables : (allAtoms (Jvm.Cond.code x code maxLocals ret :: tables_1)).before args0 about1 = true := by
  rw [allAtoms_all]
  show words1.all (fun c => c.before args0 about1) = true
  refine all_split ?_ w_codes
  rw [← List.take_append_drop 24 words1, List.all_append, w_t1, w_t2]
  rfl
set_option maxRecDepth 65536 in
theorem w_case : (Jvm.Cond.and given_1 narrow_1).before args0 about1 = true := by decide +kernel
theorem w_applies : (headSpec (Jvm.Cond.code x code maxLocals ret :: tables_1) room_1).applies x e0.platform about1 = true :=
  (Spec.applies_iff w_frames).mpr ⟨w_running, w_runnable, w_alone, w_named, w_hears, w_ripe, w_room, w_tables⟩
theorem atStart : AtStart classFile x code maxLocals ret World_1 tables_1 room_1 Calls_1 rest_1 Pre_1 launch0 p0 e0 about1 theMethod args0 below0 :=
  ⟨lists_1, trivial, launch0.admits_env _ _ _, launch0.least_env, fairChoices_fair.cas, fairChoices_fair.clock, w_frames, w_args, w_heap, w_applies, trivial, trivial, w_case⟩
end start1
theorem witness_1 : WitnessClaimed_1 := ⟨start1.p0, start1.e0, start1.about1, start1.theMethod, start1.args0, start1.below0, start1.atStart⟩
end Jvm.Pilot.@@N@@
