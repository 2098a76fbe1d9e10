import JvmDerived
import JvmDerived.Pilot.@@N@@Statement
import JvmDerived.Pilot.@@N@@Code
set_option linter.unusedVariables false
set_option linter.unusedSimpArgs false
namespace Jvm.RoadKit
open Sem ClassFile Op Lib Jvm.Stand Jvm.Free Jvm.LawKit
section Own
variable {p : Program} {l : Launch} {e : Env} {R : Room} {s : State} {m : MethodId} {args : Array Value} {below : List Frame} {meth : Method} {c : Code} {T : State} {locs : List Loc} {cells slots : Nat}
/-- the run from U comes to its end, and the end meets Q -/
def own_Go (p : Program) (e : Env) (below : List Frame) (args : Array Value) (s : State) (Q : Array Value → State → Outcome → State → Prop) (U : State) : Prop := ∃ s₂ o, Steps p.tables e below U s₂ ∧ s₂.status = .running ∧ Ended s₂ below o ∧ Q args s o s₂
theorem own_st {Q : Array Value → State → Outcome → State → Prop} {U V : State} (k : ∀ t, Steps p.tables e below V t → Steps p.tables e below U t) (h : own_Go p e below args s Q V) : own_Go p e below args s Q U := by
  obtain ⟨s2, o, h1, h2⟩ := h
  exact ⟨s2, o, k _ h1, h2⟩
theorem own_ret {Q : Option Value → Heap → List Loc → Prop} {rc rs : Nat} (X : Stand p l e R s m args below meth c T locs cells slots) (hx : p.tables.exec = Jvm.exec) {pc : Nat} {Ls : Array Slot} {w : Value} {t : FieldType} {i : Instr} {rest : List Value} (hlk : meth.locks = false) (hret : meth.sig.returnType = some t) (hn : narrow t w = w)
    (hi : (i = .ireturn ∧ (t = .int ∨ t = .boolean ∨ t = .byte ∨ t = .char ∨ t = .short) ∧ ∃ z, w = .int z) ∨ (i = .lreturn ∧ t = .long ∧ ∃ z, w = .long z) ∨ (i = .dreturn ∧ t = .double ∧ ∃ z, w = .double z) ∨ (i = .freturn ∧ t = .float ∧ ∃ z, w = .float z) ∨ (i = .areturn ∧ t.isReference = true ∧ w.isRef = true))
    (hd : decode c.code pc = .ok (i, 1)) (hc : cells ≤ rc) (hs : slots ≤ rs) (hQ : Q (some w) T.heap locs) :
    own_Go p e below args s (fun _ U o U' => ∃ v L, o = .returned v ∧ Q v U'.heap L ∧ FrameEnd U o U' L rc rs) (T.setTop (mkF m pc Ls (w :: rest))) := by
  obtain ⟨fs, hr, hrun, hended, hW, hsame⟩ := X.leave (v := some w) (fun h => by rw [hret] at h; cases h) hlk
  exact ⟨_, _, retOut X hx hret hn hi hd hr, hrun, hended, _, _, rfl, hQ, ⟨_, rfl⟩, hW, hsame.mono hc hs⟩
theorem own_ret0 {Q : Option Value → Heap → List Loc → Prop} {rc rs : Nat} (X : Stand p l e R s m args below meth c T locs cells slots) (hx : p.tables.exec = Jvm.exec) {pc : Nat} {Ls : Array Slot} (hlk : meth.locks = false) (hret : meth.sig.returnType = none)
    (hd : decode c.code pc = .ok (.return_, 1)) (hc : cells ≤ rc) (hs : slots ≤ rs) (hQ : Q none T.heap locs) :
    own_Go p e below args s (fun _ U o U' => ∃ v L, o = .returned v ∧ Q v U'.heap L ∧ FrameEnd U o U' L rc rs) (T.setTop (mkF m pc Ls [])) := by
  obtain ⟨fs, hr, hrun, hended, hW, hsame⟩ := X.leave (v := none) (fun _ => rfl) hlk
  exact ⟨_, _, X.returnOut hx hret hd hr, hrun, hended, _, _, rfl, hQ, ⟨_, rfl⟩, hW, hsame.mono hc hs⟩
/-- what the sheet says of a static that holds an object of its class -/
theorem own_sta {Z : State} {args : Array Value} {C n d K : String} (hx : (Jvm.Cond.exactly (.static C n d) K).value args Z none Z [] = some true) (wi : (Jvm.Cond.initialized C).before args Z = true) (wl : (Jvm.Cond.laysStatic C n d).before args Z = true) :
    ∃ a, Sta Z Z.heap C n d (.ref a) ∧ Exa Z Z.heap a K ∧ (Jvm.Term.static C n d).eval args Z none [] Z = some (.ref a) := by
  obtain ⟨a, ev⟩ := exa_v hx
  exact ⟨a, Sta.start ev (Or.inr ⟨wi, wl⟩), Exa.start ev hx, ev⟩
theorem own_eqi {Z : State} {args : Array Value} {t : Jvm.Term} {k : Int32} (h : (Jvm.Cond.eq t (.int k)).value args Z none Z [] = some true) : t.eval args Z none [] Z = some (.int k) := by
  cases hv : t.eval args Z none [] Z with
  | none => simp [Cond.value, Term.eval, hv] at h
  | some v => cases v <;> simp [Cond.value, Term.eval, hv] at h ⊢ <;> exact h
theorem own_fld {Z : State} {args : Array Value} {t : Jvm.Term} {C n d : String} {a : Addr} {k : Int32} (ev : t.eval args Z none [] Z = some (.ref a)) (h : (Jvm.Cond.eq (.field t C n d) (.int k)).value args Z none Z [] = some true) : Fld Z Z.heap a C n d (.int k) :=
  Fld.start ((fld_at ev).symm.trans (own_eqi h))
end Own
end Jvm.RoadKit
namespace Jvm.Pilot.@@N@@
open Jvm Jvm.ClassFile Sem Op Lib Jvm.Free Jvm.Stand Jvm.LawKit Jvm.RoadKit Bundle Jvm.Pilot.@@N@@.Jvm.D
def own_cs : List (Nat × String) := [(0, "EQUAL"), (1, "NOT_EQUAL"), (2, "LESS"), (3, "LESS_OR_EQUAL"), (4, "GREATER"), (5, "GREATER_OR_EQUAL")]
def own_En (Z : State) (h : Heap) (A : Nat → Addr) : Prop := ∀ q ∈ own_cs, Sta Z h "com/example/affirm_rows/affirmrows/rules/Comparison" q.2 "Lcom/example/affirm_rows/affirmrows/rules/Comparison;" (.ref (A q.1)) ∧ Exa Z h (A q.1) "com/example/affirm_rows/affirmrows/rules/Comparison" ∧ Fld Z h (A q.1) "java/lang/Enum" "ordinal" "I" (.int (Int32.ofNat q.1))
theorem own_S {Z : State} {h : Heap} {A : Nat → Addr} (En : own_En Z h A) (k : Nat) {i : Nat} {n : String} (q : own_cs[k]? = some (i, n)) : Sta Z h "com/example/affirm_rows/affirmrows/rules/Comparison" n "Lcom/example/affirm_rows/affirmrows/rules/Comparison;" (.ref (A i)) := (En _ (List.mem_of_getElem? q)).1
theorem own_E {Z : State} {h : Heap} {A : Nat → Addr} (En : own_En Z h A) (k : Nat) {i : Nat} {n : String} (q : own_cs[k]? = some (i, n)) : Exa Z h (A i) "com/example/affirm_rows/affirmrows/rules/Comparison" := (En _ (List.mem_of_getElem? q)).2.1
theorem own_O {Z : State} {h : Heap} {A : Nat → Addr} (En : own_En Z h A) (k : Nat) {i : Nat} {n : String} (q : own_cs[k]? = some (i, n)) : Fld Z h (A i) "java/lang/Enum" "ordinal" "I" (.int (Int32.ofNat i)) := (En _ (List.mem_of_getElem? q)).2.2
theorem own_ne {Z : State} {h : Heap} {A : Nat → Addr} (En : own_En Z h A) (k k' : Nat) {i j : Nat} {n n' : String} (q : own_cs[k]? = some (i, n)) (q' : own_cs[k']? = some (j, n')) (d : Int32.ofNat i ≠ Int32.ofNat j) : A i ≠ A j := (own_O En k q).ne (own_O En k' q') fun e => d (Value.int.inj e)
theorem own_En.ext {Z : State} {h h' : Heap} {A : Nat → Addr} (En : own_En Z h A) (E : Ext h h') : own_En Z h' A := fun q hq => by
  have r := En q hq
  exact ⟨r.1.ext E, r.2.1.ext E, r.2.2.ext E⟩
theorem own_En.wr {Z : State} {h h' : Heap} {A : Nat → Addr} {a : Addr} {sl : Nat} {v : Value} (En : own_En Z h A) (W : Wr h h' a sl v) (hne : ∀ q ∈ own_cs, A q.1 ≠ a) : own_En Z h' A := fun q hq => by
  have r := En q hq
  exact ⟨r.1.wr W, r.2.1.wr W, r.2.2.other W (Or.inl (hne q hq))⟩
theorem own_z1 {x : Int32} (h : x = (0 : Int32)) : ¬ (x < (0 : Int32)) := by subst h; decide
theorem own_z2 {x : Int32} (h : x = (0 : Int32)) : ¬ ((0 : Int32) < x) := by subst h; decide
theorem own_n1 {x : Int32} (h : x < (0 : Int32)) : ¬ (x = (0 : Int32)) := fun q => own_z1 q h
theorem own_p2 {x : Int32} (h : (0 : Int32) < x) : ¬ (x = (0 : Int32)) := fun q => own_z2 q h
theorem own_n2 {x : Int32} (h : x < (0 : Int32)) : ¬ ((0 : Int32) < x) := by rw [Int32.lt_iff_toInt_lt] at *; omega
theorem own_p1 {x : Int32} (h : (0 : Int32) < x) : ¬ (x < (0 : Int32)) := by rw [Int32.lt_iff_toInt_lt] at *; omega
theorem own_neg (x : Int32) : (x ||| (-2147483648 : Int32)) < (0 : Int32) := by
  have h := (c_orS x (-2147483648 : Int32)).2.2 (by decide)
  have e : (0 : Int32).toInt = 0 := by decide
  rw [Int32.lt_iff_toInt_lt, e]; exact h
theorem own_pos (x : Int32) : (0 : Int32) < ((x &&& (2147483647 : Int32)) ||| (1 : Int32)) := by
  have h1 := c_mask x 2147483647 31 (by decide) (by decide)
  have h := (c_or0 (x &&& (2147483647 : Int32)) (1 : Int32) (by omega) (by decide)).2
  have e : (0 : Int32).toInt = 0 := by decide
  have e1 : (1 : Int32).toInt = 1 := by decide
  rw [Int32.lt_iff_toInt_lt, e]; omega
def Q_own_ord0 (Z : State) (A : Nat → Addr) (h0 : Heap) (n0 : Nat) (v : Option Value) (h : Heap) (L : List Loc) : Prop := v = some (.int (0 : Int32)) ∧ Fr n0 L ∧ h = h0
theorem own_d3_0 : decode jdk_37_method_2_code 0 = .ok (.aload_n 0, 1) := by decide +kernel
theorem own_d3_1 : decode jdk_37_method_2_code 1 = .ok (.getfield 7, 3) := by decide +kernel
theorem own_d3_4 : decode jdk_37_method_2_code 4 = .ok (.ireturn, 1) := by decide +kernel
theorem own_pn_java_lang_Enum : plainName "java/lang/Enum" = true := by first | (simp [plainName, overriddenIn]; done) | decide +kernel
set_option maxRecDepth 65536 in
set_option maxHeartbeats 40000000 in
theorem own_ord0 (l : Launch) (Z : State) (a0 : Array Value) (hw : ∀ d ∈ tables_1, d.before a0 Z = true) (ws : List Jvm.Cond) (A : Nat → Addr) (h0 : Heap) (n0 : Nat) (Z0 : n0 ≤ h0.size) (En : own_En Z h0 A) :
    MetFree l (⟨"java/lang/Enum", "ordinal", "()I"⟩ : MethodName) (head1 (Jvm.Cond.code (⟨"java/lang/Enum", "ordinal", "()I"⟩ : MethodName) jdk_37_method_2_code 1 (some .int) :: ws) ({ frames := 0, cells := 0, slots := 0, locals := 0 } : Room)) (fun a U => a = #[(.ref (A 0))] ∧ Z.Warmed39 U.vm ∧ U.heap = h0) (fun _ _ _ _ _ => True) (fun _ U o U' => ∃ v L, o = .returned v ∧ Q_own_ord0 Z A h0 n0 v U'.heap L ∧ FrameEnd U o U' L ({ frames := 0, cells := 0, slots := 0, locals := 0 } : Room).cells ({ frames := 0, cells := 0, slots := 0, locals := 0 } : Room).slots) := by
  refine MetFree.of_bodySF (plainFor_of_name own_pn_java_lang_Enum) hisR ?_
  intro p e s m args below meth c s₁ Bd hml0 hP hK
  obtain ⟨rfl, hZ, hh⟩ := hP
  have hx := Bd.exec
  have hby := Bd.bytes
  have hml : c.maxLocals = 1 := hml0
  have hown : s.vm.findClass "java/lang/Enum" = some m.cls := findClass_of_methodNamed Bd.named
  have hnm := (name_of_methodNamed Bd.named Bd.method).1
  have hlk : meth.locks = false := BodyLoose.notSynchronized Bd
  have X0 : Stand p l e ({ frames := 0, cells := 0, slots := 0, locals := 0 } : Room) s m #[(.ref (A 0))] below meth c s₁ [] 0 0 := Stand.of_body Bd
  have e0 : s₁.heap = h0 := by rw [← hh, Bd.state]; rfl
  have N0 := Fr.nil n0
  show own_Go p e below #[(.ref (A 0))] s (fun _ U o U' => ∃ v L, o = .returned v ∧ Q_own_ord0 Z A h0 n0 v U'.heap L ∧ FrameEnd U o U' L ({ frames := 0, cells := 0, slots := 0, locals := 0 } : Room).cells ({ frames := 0, cells := 0, slots := 0, locals := 0 } : Room).slots) (s₁.setTop (entryFrame m #[(.ref (A 0))] 1))
  refine own_st (V := s₁.setTop (mkF m 0 #[.val (.ref (A 0))] [])) (fun t k => castTop (by first | (simp [entryFrame, mkF, argsToLocals, Value.category]; done) | rfl) k) ?_
  refine own_st (V := s₁.setTop (mkF m 1 #[.val (.ref (A 0))] [(.ref (A 0))])) (fun t k => XS.aloadN X0.here hx rfl (hb hby own_d3_0) rfl rfl k) ?_
  obtain ⟨T1, X1, e1, st1⟩ := getF X0 hx hZ hown (host := "") (Or.inl (hw _ (List.mem_of_getElem? (i := 36) rfl))) Via.refl e0 (own_O En 0 (i := 0) (n := "EQUAL") rfl) (g := (mkF m 1 #[.val (.ref (A 0))] [(.ref (A 0))])) rfl rfl (hb hby own_d3_1)
  refine own_st (V := T1.setTop (mkF m 4 #[.val (.ref (A 0))] [(.int (0 : Int32))])) (fun t k => st1 _ k) ?_
  exact own_ret X1 hx hlk Bd.returns rfl (Or.inl ⟨rfl, by simp, _, rfl⟩) (hb hby own_d3_4) (by decide) (by decide) (by show Q_own_ord0 Z A h0 n0 _ T1.heap _; rw [e1]; exact ⟨rfl, N0, rfl⟩)
def Q_own_no0 (Z : State) (A : Nat → Addr) (h0 : Heap) (n0 : Nat) (v : Option Value) (h : Heap) (L : List Loc) : Prop := v = some (.int (0 : Int32)) ∧ Fr n0 L ∧ h = h0
theorem own_d1_0 : decode prog_45_method_4_code 0 = .ok (.aload_n 0, 1) := by decide +kernel
theorem own_d1_1 : decode prog_45_method_4_code 1 = .ok (.getstatic 3, 3) := by decide +kernel
theorem own_d1_4 : decode prog_45_method_4_code 4 = .ok (.if_acmp .eq 14, 3) := by decide +kernel
theorem own_d1_18 : decode prog_45_method_4_code 18 = .ok (.iconst 0, 1) := by decide +kernel
theorem own_d1_19 : decode prog_45_method_4_code 19 = .ok (.ireturn, 1) := by decide +kernel
theorem own_pn_com_example_affirm_rows_affirmrows_rules_Comparison : plainName "com/example/affirm_rows/affirmrows/rules/Comparison" = true := by first | (simp [plainName, overriddenIn]; done) | decide +kernel
set_option maxRecDepth 65536 in
set_option maxHeartbeats 40000000 in
theorem own_no0 (l : Launch) (Z : State) (a0 : Array Value) (hw : ∀ d ∈ tables_1, d.before a0 Z = true) (ws : List Jvm.Cond) (A : Nat → Addr) (h0 : Heap) (n0 : Nat) (Z0 : n0 ≤ h0.size) (En : own_En Z h0 A) :
    MetFree l (⟨"com/example/affirm_rows/affirmrows/rules/Comparison", "needsOrder", "()Z"⟩ : MethodName) (head1 (Jvm.Cond.code (⟨"com/example/affirm_rows/affirmrows/rules/Comparison", "needsOrder", "()Z"⟩ : MethodName) prog_45_method_4_code 1 (some .boolean) :: ws) ({ frames := 0, cells := 0, slots := 0, locals := 0 } : Room)) (fun a U => a = #[(.ref (A 0))] ∧ Z.Warmed39 U.vm ∧ U.heap = h0) (fun _ _ _ _ _ => True) (fun _ U o U' => ∃ v L, o = .returned v ∧ Q_own_no0 Z A h0 n0 v U'.heap L ∧ FrameEnd U o U' L ({ frames := 0, cells := 0, slots := 0, locals := 0 } : Room).cells ({ frames := 0, cells := 0, slots := 0, locals := 0 } : Room).slots) := by
  refine MetFree.of_bodySF (plainFor_of_name own_pn_com_example_affirm_rows_affirmrows_rules_Comparison) hisR ?_
  intro p e s m args below meth c s₁ Bd hml0 hP hK
  obtain ⟨rfl, hZ, hh⟩ := hP
  have hx := Bd.exec
  have hby := Bd.bytes
  have hml : c.maxLocals = 1 := hml0
  have hown : s.vm.findClass "com/example/affirm_rows/affirmrows/rules/Comparison" = some m.cls := findClass_of_methodNamed Bd.named
  have hnm := (name_of_methodNamed Bd.named Bd.method).1
  have hlk : meth.locks = false := BodyLoose.notSynchronized Bd
  have X0 : Stand p l e ({ frames := 0, cells := 0, slots := 0, locals := 0 } : Room) s m #[(.ref (A 0))] below meth c s₁ [] 0 0 := Stand.of_body Bd
  have e0 : s₁.heap = h0 := by rw [← hh, Bd.state]; rfl
  have N0 := Fr.nil n0
  show own_Go p e below #[(.ref (A 0))] s (fun _ U o U' => ∃ v L, o = .returned v ∧ Q_own_no0 Z A h0 n0 v U'.heap L ∧ FrameEnd U o U' L ({ frames := 0, cells := 0, slots := 0, locals := 0 } : Room).cells ({ frames := 0, cells := 0, slots := 0, locals := 0 } : Room).slots) (s₁.setTop (entryFrame m #[(.ref (A 0))] 1))
  refine own_st (V := s₁.setTop (mkF m 0 #[.val (.ref (A 0))] [])) (fun t k => castTop (by first | (simp [entryFrame, mkF, argsToLocals, Value.category]; done) | rfl) k) ?_
  refine own_st (V := s₁.setTop (mkF m 1 #[.val (.ref (A 0))] [(.ref (A 0))])) (fun t k => XS.aloadN X0.here hx rfl (hb hby own_d1_0) rfl rfl k) ?_
  obtain ⟨T2, X2, e2, st2⟩ := getS2 X0 hx hZ hown (host := "") (Or.inl (hw _ (List.mem_of_getElem? (i := 23) rfl))) Via.refl e0 (own_S En 0 (i := 0) (n := "EQUAL") rfl) (g := (mkF m 1 #[.val (.ref (A 0))] [(.ref (A 0))])) rfl (hb hby own_d1_1)
  refine own_st (V := T2.setTop (mkF m 4 #[.val (.ref (A 0))] [(.ref (A 0)), (.ref (A 0))])) (fun t k => st2 _ k) ?_
  refine own_st (V := T2.setTop (mkF m 18 #[.val (.ref (A 0))] [])) (fun t k => Jvm.RoadKit.acmp (g := (mkF m 4 #[.val (.ref (A 0))] [(.ref (A 0)), (.ref (A 0))])) X2 hx rfl rfl rfl (pc0 := 4) (pc' := 18) (same := true) rfl (hb hby own_d1_4) rfl (decide_eq_true rfl) (by decide) (by decide) k) ?_
  refine own_st (V := T2.setTop (mkF m 19 #[.val (.ref (A 0))] [(.int (0 : Int32))])) (fun t k => XS.iconst X2.here hx rfl (hb hby own_d1_18) k) ?_
  exact own_ret X2 hx hlk Bd.returns (by decide +kernel) (Or.inl ⟨rfl, by simp, _, rfl⟩) (hb hby own_d1_19) (by decide) (by decide) (by show Q_own_no0 Z A h0 n0 _ T2.heap _; rw [e2]; exact ⟨rfl, N0, rfl⟩)
def Q_own_ho0n (Z : State) (q1 : Int32) (A : Nat → Addr) (h0 : Heap) (n0 : Nat) (v : Option Value) (h : Heap) (L : List Loc) : Prop := v = some (.int (0 : Int32)) ∧ Fr n0 L ∧ h = h0
theorem own_d2_0 : decode prog_45_method_6_code 0 = .ok (.aload_n 0, 1) := by decide +kernel
theorem own_d2_1 : decode prog_45_method_6_code 1 = .ok (.invokevirtual 70, 3) := by decide +kernel
theorem own_pd0 : parseMethodDescriptor "()I" = some ⟨[], some .int⟩ := by decide +kernel
theorem own_d2_4 : decode prog_45_method_6_code 4 = .ok (.tableswitch 40 0 5 #[50, 62, 74, 86, 98, 110], 40) := by decide +kernel
theorem own_d2_54 : decode prog_45_method_6_code 54 = .ok (.iload_n 1, 1) := by decide +kernel
theorem own_d2_55 : decode prog_45_method_6_code 55 = .ok (.ifCond .ne 7, 3) := by decide +kernel
theorem own_d2_62 : decode prog_45_method_6_code 62 = .ok (.iconst 0, 1) := by decide +kernel
theorem own_d2_63 : decode prog_45_method_6_code 63 = .ok (.goto 60, 3) := by decide +kernel
theorem own_d2_123 : decode prog_45_method_6_code 123 = .ok (.ireturn, 1) := by decide +kernel
set_option maxRecDepth 65536 in
set_option maxHeartbeats 40000000 in
theorem own_ho0n (l : Launch) (Z : State) (a0 : Array Value) (hw : ∀ d ∈ tables_1, d.before a0 Z = true) (ws : List Jvm.Cond) (q1 : Int32) (A : Nat → Addr) (h0 : Heap) (n0 : Nat) (Z0 : n0 ≤ h0.size) (En : own_En Z h0 A) (hs : q1 < (0 : Int32)) :
    MetFree l (⟨"com/example/affirm_rows/affirmrows/rules/Comparison", "holds", "(I)Z"⟩ : MethodName) (head1 (Jvm.Cond.code (⟨"com/example/affirm_rows/affirmrows/rules/Comparison", "holds", "(I)Z"⟩ : MethodName) prog_45_method_6_code 2 (some .boolean) :: ws) ({ frames := 1, cells := 0, slots := 0, locals := 12 } : Room)) (fun a U => a = #[(.ref (A 0)), (.int q1)] ∧ Z.Warmed39 U.vm ∧ U.heap = h0) (fun _ _ _ _ _ => True) (fun _ U o U' => ∃ v L, o = .returned v ∧ Q_own_ho0n Z q1 A h0 n0 v U'.heap L ∧ FrameEnd U o U' L ({ frames := 1, cells := 0, slots := 0, locals := 12 } : Room).cells ({ frames := 1, cells := 0, slots := 0, locals := 12 } : Room).slots) := by
  refine MetFree.of_bodySF (plainFor_of_name own_pn_com_example_affirm_rows_affirmrows_rules_Comparison) hisR ?_
  intro p e s m args below meth c s₁ Bd hml0 hP hK
  obtain ⟨rfl, hZ, hh⟩ := hP
  have hx := Bd.exec
  have hby := Bd.bytes
  have hml : c.maxLocals = 2 := hml0
  have hown : s.vm.findClass "com/example/affirm_rows/affirmrows/rules/Comparison" = some m.cls := findClass_of_methodNamed Bd.named
  have hnm := (name_of_methodNamed Bd.named Bd.method).1
  have hlk : meth.locks = false := BodyLoose.notSynchronized Bd
  have X0 : Stand p l e ({ frames := 1, cells := 0, slots := 0, locals := 12 } : Room) s m #[(.ref (A 0)), (.int q1)] below meth c s₁ [] 0 0 := Stand.of_body Bd
  have e0 : s₁.heap = h0 := by rw [← hh, Bd.state]; rfl
  have N0 := Fr.nil n0
  show own_Go p e below #[(.ref (A 0)), (.int q1)] s (fun _ U o U' => ∃ v L, o = .returned v ∧ Q_own_ho0n Z q1 A h0 n0 v U'.heap L ∧ FrameEnd U o U' L ({ frames := 1, cells := 0, slots := 0, locals := 12 } : Room).cells ({ frames := 1, cells := 0, slots := 0, locals := 12 } : Room).slots) (s₁.setTop (entryFrame m #[(.ref (A 0)), (.int q1)] 2))
  refine own_st (V := s₁.setTop (mkF m 0 #[.val (.ref (A 0)), .val (.int q1)] [])) (fun t k => castTop (by first | (simp [entryFrame, mkF, argsToLocals, Value.category]; done) | rfl) k) ?_
  refine own_st (V := s₁.setTop (mkF m 1 #[.val (.ref (A 0)), .val (.int q1)] [(.ref (A 0))])) (fun t k => XS.aloadN X0.here hx rfl (hb hby own_d2_0) rfl rfl k) ?_
  obtain ⟨cq3, kq3, q3a, q3b, q3c⟩ := isOf hZ e0 (own_E En 0 (i := 0) (n := "EQUAL") rfl)
  obtain ⟨_, _, ⟨T3, L3, k3, n3⟩, -, X3, ⟨Lc3, hQ3, l3, y3, z3⟩, st3⟩ := X0.virtualBackUp hx (x := (⟨"com/example/affirm_rows/affirmrows/rules/Comparison", "ordinal", "()I"⟩ : MethodName)) (y := (⟨"java/lang/Enum", "ordinal", "()I"⟩ : MethodName)) hown (mvT hZ (hw _ (List.mem_of_getElem? (i := 29) rfl))) (mvT hZ (hw _ (List.mem_of_getElem? (i := 30) rfl))) (mvT hZ (hw _ (List.mem_of_getElem? (i := 31) rfl))) (by decide) (mvT hZ (hw _ (List.mem_of_getElem? (i := 33) rfl))) (mvT hZ (hw _ (List.mem_of_getElem? (i := 32) rfl))) (backOf (W := 0) (own_ord0 l Z a0 hw [] A h0 n0 Z0 En ) hZ (hw _ (List.mem_of_getElem? (i := 35) rfl)) (hw _ (List.mem_of_getElem? (i := 34) rfl)) (by decide) (by decide)) q3a q3c (g := (mkF m 1 #[.val (.ref (A 0)), .val (.int q1)] [(.ref (A 0))])) rfl (by rw [hml]; rfl) (Steps.refl _) (argsL := []) (rest := []) (lenOf own_pd0 rfl) rfl (by show 2 * 0 + _ ≤ _; exact Nat.le_of_eq rfl) (hb hby own_d2_1) (fun _ _ => ⟨rfl, e0, (by decide : 0 + 0 ≤ _), (by decide : 0 + 0 ≤ _)⟩)
  dsimp only [Pt.U, Pt.locs, Pt.cells, Pt.slots] at X3 l3 y3 z3 st3 hQ3
  subst l3 y3 z3
  obtain ⟨rfl, N3q, e3⟩ := hQ3
  have N3 := Fr.app N0 N3q
  refine own_st (V := T3.setTop (mkF m 4 #[.val (.ref (A 0)), .val (.int q1)] [(.int (0 : Int32))])) (fun t k => st3.trans k) ?_
  refine own_st (V := T3.setTop (mkF m 54 #[.val (.ref (A 0)), .val (.int q1)] [])) (fun t k => XS.tswIn X3.here hx rfl (pc0 := 4) (pc' := 54) rfl (hb hby own_d2_4) rfl (by decide) (o := 50) rfl (by decide) rfl k) ?_
  refine own_st (V := T3.setTop (mkF m 55 #[.val (.ref (A 0)), .val (.int q1)] [(.int q1)])) (fun t k => XS.iloadN X3.here hx rfl (hb hby own_d2_54) rfl k) ?_
  refine own_st (V := T3.setTop (mkF m 62 #[.val (.ref (A 0)), .val (.int q1)] [])) (fun t k => XS.ifYes X3.here hx rfl (pc0 := 55) (pc' := 62) rfl (hb hby own_d2_55) rfl ((if0 _ _).trans (feq (own_n1 hs)).2) (by decide) (by decide) k) ?_
  refine own_st (V := T3.setTop (mkF m 63 #[.val (.ref (A 0)), .val (.int q1)] [(.int (0 : Int32))])) (fun t k => XS.iconst X3.here hx rfl (hb hby own_d2_62) k) ?_
  refine own_st (V := T3.setTop (mkF m 123 #[.val (.ref (A 0)), .val (.int q1)] [(.int (0 : Int32))])) (fun t k => XS.goto X3.here hx rfl (pc0 := 63) (pc' := 123) rfl (hb hby own_d2_63) (by decide) (by decide) k) ?_
  exact own_ret X3 hx hlk Bd.returns (by decide +kernel) (Or.inl ⟨rfl, by simp, _, rfl⟩) (hb hby own_d2_123) (by decide) (by decide) (by show Q_own_ho0n Z q1 A h0 n0 _ T3.heap _; rw [e3]; exact ⟨rfl, N3, rfl⟩)
def Q_own_ho0p (Z : State) (q1 : Int32) (A : Nat → Addr) (h0 : Heap) (n0 : Nat) (v : Option Value) (h : Heap) (L : List Loc) : Prop := v = some (.int (0 : Int32)) ∧ Fr n0 L ∧ h = h0
set_option maxRecDepth 65536 in
set_option maxHeartbeats 40000000 in
theorem own_ho0p (l : Launch) (Z : State) (a0 : Array Value) (hw : ∀ d ∈ tables_1, d.before a0 Z = true) (ws : List Jvm.Cond) (q1 : Int32) (A : Nat → Addr) (h0 : Heap) (n0 : Nat) (Z0 : n0 ≤ h0.size) (En : own_En Z h0 A) (hs : (0 : Int32) < q1) :
    MetFree l (⟨"com/example/affirm_rows/affirmrows/rules/Comparison", "holds", "(I)Z"⟩ : MethodName) (head1 (Jvm.Cond.code (⟨"com/example/affirm_rows/affirmrows/rules/Comparison", "holds", "(I)Z"⟩ : MethodName) prog_45_method_6_code 2 (some .boolean) :: ws) ({ frames := 1, cells := 0, slots := 0, locals := 12 } : Room)) (fun a U => a = #[(.ref (A 0)), (.int q1)] ∧ Z.Warmed39 U.vm ∧ U.heap = h0) (fun _ _ _ _ _ => True) (fun _ U o U' => ∃ v L, o = .returned v ∧ Q_own_ho0p Z q1 A h0 n0 v U'.heap L ∧ FrameEnd U o U' L ({ frames := 1, cells := 0, slots := 0, locals := 12 } : Room).cells ({ frames := 1, cells := 0, slots := 0, locals := 12 } : Room).slots) := by
  refine MetFree.of_bodySF (plainFor_of_name own_pn_com_example_affirm_rows_affirmrows_rules_Comparison) hisR ?_
  intro p e s m args below meth c s₁ Bd hml0 hP hK
  obtain ⟨rfl, hZ, hh⟩ := hP
  have hx := Bd.exec
  have hby := Bd.bytes
  have hml : c.maxLocals = 2 := hml0
  have hown : s.vm.findClass "com/example/affirm_rows/affirmrows/rules/Comparison" = some m.cls := findClass_of_methodNamed Bd.named
  have hnm := (name_of_methodNamed Bd.named Bd.method).1
  have hlk : meth.locks = false := BodyLoose.notSynchronized Bd
  have X0 : Stand p l e ({ frames := 1, cells := 0, slots := 0, locals := 12 } : Room) s m #[(.ref (A 0)), (.int q1)] below meth c s₁ [] 0 0 := Stand.of_body Bd
  have e0 : s₁.heap = h0 := by rw [← hh, Bd.state]; rfl
  have N0 := Fr.nil n0
  show own_Go p e below #[(.ref (A 0)), (.int q1)] s (fun _ U o U' => ∃ v L, o = .returned v ∧ Q_own_ho0p Z q1 A h0 n0 v U'.heap L ∧ FrameEnd U o U' L ({ frames := 1, cells := 0, slots := 0, locals := 12 } : Room).cells ({ frames := 1, cells := 0, slots := 0, locals := 12 } : Room).slots) (s₁.setTop (entryFrame m #[(.ref (A 0)), (.int q1)] 2))
  refine own_st (V := s₁.setTop (mkF m 0 #[.val (.ref (A 0)), .val (.int q1)] [])) (fun t k => castTop (by first | (simp [entryFrame, mkF, argsToLocals, Value.category]; done) | rfl) k) ?_
  refine own_st (V := s₁.setTop (mkF m 1 #[.val (.ref (A 0)), .val (.int q1)] [(.ref (A 0))])) (fun t k => XS.aloadN X0.here hx rfl (hb hby own_d2_0) rfl rfl k) ?_
  obtain ⟨cq4, kq4, q4a, q4b, q4c⟩ := isOf hZ e0 (own_E En 0 (i := 0) (n := "EQUAL") rfl)
  obtain ⟨_, _, ⟨T4, L4, k4, n4⟩, -, X4, ⟨Lc4, hQ4, l4, y4, z4⟩, st4⟩ := X0.virtualBackUp hx (x := (⟨"com/example/affirm_rows/affirmrows/rules/Comparison", "ordinal", "()I"⟩ : MethodName)) (y := (⟨"java/lang/Enum", "ordinal", "()I"⟩ : MethodName)) hown (mvT hZ (hw _ (List.mem_of_getElem? (i := 29) rfl))) (mvT hZ (hw _ (List.mem_of_getElem? (i := 30) rfl))) (mvT hZ (hw _ (List.mem_of_getElem? (i := 31) rfl))) (by decide) (mvT hZ (hw _ (List.mem_of_getElem? (i := 33) rfl))) (mvT hZ (hw _ (List.mem_of_getElem? (i := 32) rfl))) (backOf (W := 0) (own_ord0 l Z a0 hw [] A h0 n0 Z0 En ) hZ (hw _ (List.mem_of_getElem? (i := 35) rfl)) (hw _ (List.mem_of_getElem? (i := 34) rfl)) (by decide) (by decide)) q4a q4c (g := (mkF m 1 #[.val (.ref (A 0)), .val (.int q1)] [(.ref (A 0))])) rfl (by rw [hml]; rfl) (Steps.refl _) (argsL := []) (rest := []) (lenOf own_pd0 rfl) rfl (by show 2 * 0 + _ ≤ _; exact Nat.le_of_eq rfl) (hb hby own_d2_1) (fun _ _ => ⟨rfl, e0, (by decide : 0 + 0 ≤ _), (by decide : 0 + 0 ≤ _)⟩)
  dsimp only [Pt.U, Pt.locs, Pt.cells, Pt.slots] at X4 l4 y4 z4 st4 hQ4
  subst l4 y4 z4
  obtain ⟨rfl, N4q, e4⟩ := hQ4
  have N4 := Fr.app N0 N4q
  refine own_st (V := T4.setTop (mkF m 4 #[.val (.ref (A 0)), .val (.int q1)] [(.int (0 : Int32))])) (fun t k => st4.trans k) ?_
  refine own_st (V := T4.setTop (mkF m 54 #[.val (.ref (A 0)), .val (.int q1)] [])) (fun t k => XS.tswIn X4.here hx rfl (pc0 := 4) (pc' := 54) rfl (hb hby own_d2_4) rfl (by decide) (o := 50) rfl (by decide) rfl k) ?_
  refine own_st (V := T4.setTop (mkF m 55 #[.val (.ref (A 0)), .val (.int q1)] [(.int q1)])) (fun t k => XS.iloadN X4.here hx rfl (hb hby own_d2_54) rfl k) ?_
  refine own_st (V := T4.setTop (mkF m 62 #[.val (.ref (A 0)), .val (.int q1)] [])) (fun t k => XS.ifYes X4.here hx rfl (pc0 := 55) (pc' := 62) rfl (hb hby own_d2_55) rfl ((if0 _ _).trans (feq (own_p2 hs)).2) (by decide) (by decide) k) ?_
  refine own_st (V := T4.setTop (mkF m 63 #[.val (.ref (A 0)), .val (.int q1)] [(.int (0 : Int32))])) (fun t k => XS.iconst X4.here hx rfl (hb hby own_d2_62) k) ?_
  refine own_st (V := T4.setTop (mkF m 123 #[.val (.ref (A 0)), .val (.int q1)] [(.int (0 : Int32))])) (fun t k => XS.goto X4.here hx rfl (pc0 := 63) (pc' := 123) rfl (hb hby own_d2_63) (by decide) (by decide) k) ?_
  exact own_ret X4 hx hlk Bd.returns (by decide +kernel) (Or.inl ⟨rfl, by simp, _, rfl⟩) (hb hby own_d2_123) (by decide) (by decide) (by show Q_own_ho0p Z q1 A h0 n0 _ T4.heap _; rw [e4]; exact ⟨rfl, N4, rfl⟩)
def Q_own_ord1 (Z : State) (A : Nat → Addr) (h0 : Heap) (n0 : Nat) (v : Option Value) (h : Heap) (L : List Loc) : Prop := v = some (.int (1 : Int32)) ∧ Fr n0 L ∧ h = h0
set_option maxRecDepth 65536 in
set_option maxHeartbeats 40000000 in
theorem own_ord1 (l : Launch) (Z : State) (a0 : Array Value) (hw : ∀ d ∈ tables_1, d.before a0 Z = true) (ws : List Jvm.Cond) (A : Nat → Addr) (h0 : Heap) (n0 : Nat) (Z0 : n0 ≤ h0.size) (En : own_En Z h0 A) :
    MetFree l (⟨"java/lang/Enum", "ordinal", "()I"⟩ : MethodName) (head1 (Jvm.Cond.code (⟨"java/lang/Enum", "ordinal", "()I"⟩ : MethodName) jdk_37_method_2_code 1 (some .int) :: ws) ({ frames := 0, cells := 0, slots := 0, locals := 0 } : Room)) (fun a U => a = #[(.ref (A 1))] ∧ Z.Warmed39 U.vm ∧ U.heap = h0) (fun _ _ _ _ _ => True) (fun _ U o U' => ∃ v L, o = .returned v ∧ Q_own_ord1 Z A h0 n0 v U'.heap L ∧ FrameEnd U o U' L ({ frames := 0, cells := 0, slots := 0, locals := 0 } : Room).cells ({ frames := 0, cells := 0, slots := 0, locals := 0 } : Room).slots) := by
  refine MetFree.of_bodySF (plainFor_of_name own_pn_java_lang_Enum) hisR ?_
  intro p e s m args below meth c s₁ Bd hml0 hP hK
  obtain ⟨rfl, hZ, hh⟩ := hP
  have hx := Bd.exec
  have hby := Bd.bytes
  have hml : c.maxLocals = 1 := hml0
  have hown : s.vm.findClass "java/lang/Enum" = some m.cls := findClass_of_methodNamed Bd.named
  have hnm := (name_of_methodNamed Bd.named Bd.method).1
  have hlk : meth.locks = false := BodyLoose.notSynchronized Bd
  have X0 : Stand p l e ({ frames := 0, cells := 0, slots := 0, locals := 0 } : Room) s m #[(.ref (A 1))] below meth c s₁ [] 0 0 := Stand.of_body Bd
  have e0 : s₁.heap = h0 := by rw [← hh, Bd.state]; rfl
  have N0 := Fr.nil n0
  show own_Go p e below #[(.ref (A 1))] s (fun _ U o U' => ∃ v L, o = .returned v ∧ Q_own_ord1 Z A h0 n0 v U'.heap L ∧ FrameEnd U o U' L ({ frames := 0, cells := 0, slots := 0, locals := 0 } : Room).cells ({ frames := 0, cells := 0, slots := 0, locals := 0 } : Room).slots) (s₁.setTop (entryFrame m #[(.ref (A 1))] 1))
  refine own_st (V := s₁.setTop (mkF m 0 #[.val (.ref (A 1))] [])) (fun t k => castTop (by first | (simp [entryFrame, mkF, argsToLocals, Value.category]; done) | rfl) k) ?_
  refine own_st (V := s₁.setTop (mkF m 1 #[.val (.ref (A 1))] [(.ref (A 1))])) (fun t k => XS.aloadN X0.here hx rfl (hb hby own_d3_0) rfl rfl k) ?_
  obtain ⟨T5, X5, e5, st5⟩ := getF X0 hx hZ hown (host := "") (Or.inl (hw _ (List.mem_of_getElem? (i := 36) rfl))) Via.refl e0 (own_O En 1 (i := 1) (n := "NOT_EQUAL") rfl) (g := (mkF m 1 #[.val (.ref (A 1))] [(.ref (A 1))])) rfl rfl (hb hby own_d3_1)
  refine own_st (V := T5.setTop (mkF m 4 #[.val (.ref (A 1))] [(.int (1 : Int32))])) (fun t k => st5 _ k) ?_
  exact own_ret X5 hx hlk Bd.returns rfl (Or.inl ⟨rfl, by simp, _, rfl⟩) (hb hby own_d3_4) (by decide) (by decide) (by show Q_own_ord1 Z A h0 n0 _ T5.heap _; rw [e5]; exact ⟨rfl, N0, rfl⟩)
def Q_own_no1 (Z : State) (A : Nat → Addr) (h0 : Heap) (n0 : Nat) (v : Option Value) (h : Heap) (L : List Loc) : Prop := v = some (.int (0 : Int32)) ∧ Fr n0 L ∧ h = h0
theorem own_d1_7 : decode prog_45_method_4_code 7 = .ok (.aload_n 0, 1) := by decide +kernel
theorem own_d1_8 : decode prog_45_method_4_code 8 = .ok (.getstatic 7, 3) := by decide +kernel
theorem own_d1_11 : decode prog_45_method_4_code 11 = .ok (.if_acmp .eq 7, 3) := by decide +kernel
set_option maxRecDepth 65536 in
set_option maxHeartbeats 40000000 in
theorem own_no1 (l : Launch) (Z : State) (a0 : Array Value) (hw : ∀ d ∈ tables_1, d.before a0 Z = true) (ws : List Jvm.Cond) (A : Nat → Addr) (h0 : Heap) (n0 : Nat) (Z0 : n0 ≤ h0.size) (En : own_En Z h0 A) :
    MetFree l (⟨"com/example/affirm_rows/affirmrows/rules/Comparison", "needsOrder", "()Z"⟩ : MethodName) (head1 (Jvm.Cond.code (⟨"com/example/affirm_rows/affirmrows/rules/Comparison", "needsOrder", "()Z"⟩ : MethodName) prog_45_method_4_code 1 (some .boolean) :: ws) ({ frames := 0, cells := 0, slots := 0, locals := 0 } : Room)) (fun a U => a = #[(.ref (A 1))] ∧ Z.Warmed39 U.vm ∧ U.heap = h0) (fun _ _ _ _ _ => True) (fun _ U o U' => ∃ v L, o = .returned v ∧ Q_own_no1 Z A h0 n0 v U'.heap L ∧ FrameEnd U o U' L ({ frames := 0, cells := 0, slots := 0, locals := 0 } : Room).cells ({ frames := 0, cells := 0, slots := 0, locals := 0 } : Room).slots) := by
  refine MetFree.of_bodySF (plainFor_of_name own_pn_com_example_affirm_rows_affirmrows_rules_Comparison) hisR ?_
  intro p e s m args below meth c s₁ Bd hml0 hP hK
  obtain ⟨rfl, hZ, hh⟩ := hP
  have hx := Bd.exec
  have hby := Bd.bytes
  have hml : c.maxLocals = 1 := hml0
  have hown : s.vm.findClass "com/example/affirm_rows/affirmrows/rules/Comparison" = some m.cls := findClass_of_methodNamed Bd.named
  have hnm := (name_of_methodNamed Bd.named Bd.method).1
  have hlk : meth.locks = false := BodyLoose.notSynchronized Bd
  have X0 : Stand p l e ({ frames := 0, cells := 0, slots := 0, locals := 0 } : Room) s m #[(.ref (A 1))] below meth c s₁ [] 0 0 := Stand.of_body Bd
  have e0 : s₁.heap = h0 := by rw [← hh, Bd.state]; rfl
  have N0 := Fr.nil n0
  show own_Go p e below #[(.ref (A 1))] s (fun _ U o U' => ∃ v L, o = .returned v ∧ Q_own_no1 Z A h0 n0 v U'.heap L ∧ FrameEnd U o U' L ({ frames := 0, cells := 0, slots := 0, locals := 0 } : Room).cells ({ frames := 0, cells := 0, slots := 0, locals := 0 } : Room).slots) (s₁.setTop (entryFrame m #[(.ref (A 1))] 1))
  refine own_st (V := s₁.setTop (mkF m 0 #[.val (.ref (A 1))] [])) (fun t k => castTop (by first | (simp [entryFrame, mkF, argsToLocals, Value.category]; done) | rfl) k) ?_
  refine own_st (V := s₁.setTop (mkF m 1 #[.val (.ref (A 1))] [(.ref (A 1))])) (fun t k => XS.aloadN X0.here hx rfl (hb hby own_d1_0) rfl rfl k) ?_
  obtain ⟨T6, X6, e6, st6⟩ := getS2 X0 hx hZ hown (host := "") (Or.inl (hw _ (List.mem_of_getElem? (i := 23) rfl))) Via.refl e0 (own_S En 0 (i := 0) (n := "EQUAL") rfl) (g := (mkF m 1 #[.val (.ref (A 1))] [(.ref (A 1))])) rfl (hb hby own_d1_1)
  refine own_st (V := T6.setTop (mkF m 4 #[.val (.ref (A 1))] [(.ref (A 0)), (.ref (A 1))])) (fun t k => st6 _ k) ?_
  refine own_st (V := T6.setTop (mkF m 7 #[.val (.ref (A 1))] [])) (fun t k => Jvm.RoadKit.acmp (g := (mkF m 4 #[.val (.ref (A 1))] [(.ref (A 0)), (.ref (A 1))])) X6 hx rfl rfl rfl (pc0 := 4) (pc' := 7) (same := false) rfl (hb hby own_d1_4) rfl (decide_eq_false fun q => own_ne En 1 0 (i := 1) (n := "NOT_EQUAL") (j := 0) (n' := "EQUAL") rfl rfl (by decide) (Value.ref.inj q)) (by decide) (by decide) k) ?_
  refine own_st (V := T6.setTop (mkF m 8 #[.val (.ref (A 1))] [(.ref (A 1))])) (fun t k => XS.aloadN X6.here hx rfl (hb hby own_d1_7) rfl rfl k) ?_
  obtain ⟨T7, X7, e7, st7⟩ := getS2 X6 hx hZ hown (host := "") (Or.inl (hw _ (List.mem_of_getElem? (i := 38) rfl))) Via.refl e6 (own_S En 1 (i := 1) (n := "NOT_EQUAL") rfl) (g := (mkF m 8 #[.val (.ref (A 1))] [(.ref (A 1))])) rfl (hb hby own_d1_8)
  refine own_st (V := T7.setTop (mkF m 11 #[.val (.ref (A 1))] [(.ref (A 1)), (.ref (A 1))])) (fun t k => st7 _ k) ?_
  refine own_st (V := T7.setTop (mkF m 18 #[.val (.ref (A 1))] [])) (fun t k => Jvm.RoadKit.acmp (g := (mkF m 11 #[.val (.ref (A 1))] [(.ref (A 1)), (.ref (A 1))])) X7 hx rfl rfl rfl (pc0 := 11) (pc' := 18) (same := true) rfl (hb hby own_d1_11) rfl (decide_eq_true rfl) (by decide) (by decide) k) ?_
  refine own_st (V := T7.setTop (mkF m 19 #[.val (.ref (A 1))] [(.int (0 : Int32))])) (fun t k => XS.iconst X7.here hx rfl (hb hby own_d1_18) k) ?_
  exact own_ret X7 hx hlk Bd.returns (by decide +kernel) (Or.inl ⟨rfl, by simp, _, rfl⟩) (hb hby own_d1_19) (by decide) (by decide) (by show Q_own_no1 Z A h0 n0 _ T7.heap _; rw [e7]; exact ⟨rfl, N0, rfl⟩)
def Q_own_ho1n (Z : State) (q1 : Int32) (A : Nat → Addr) (h0 : Heap) (n0 : Nat) (v : Option Value) (h : Heap) (L : List Loc) : Prop := v = some (.int (1 : Int32)) ∧ Fr n0 L ∧ h = h0
theorem own_d2_66 : decode prog_45_method_6_code 66 = .ok (.iload_n 1, 1) := by decide +kernel
theorem own_d2_67 : decode prog_45_method_6_code 67 = .ok (.ifCond .eq 7, 3) := by decide +kernel
theorem own_d2_70 : decode prog_45_method_6_code 70 = .ok (.iconst 1, 1) := by decide +kernel
theorem own_d2_71 : decode prog_45_method_6_code 71 = .ok (.goto 52, 3) := by decide +kernel
set_option maxRecDepth 65536 in
set_option maxHeartbeats 40000000 in
theorem own_ho1n (l : Launch) (Z : State) (a0 : Array Value) (hw : ∀ d ∈ tables_1, d.before a0 Z = true) (ws : List Jvm.Cond) (q1 : Int32) (A : Nat → Addr) (h0 : Heap) (n0 : Nat) (Z0 : n0 ≤ h0.size) (En : own_En Z h0 A) (hs : q1 < (0 : Int32)) :
    MetFree l (⟨"com/example/affirm_rows/affirmrows/rules/Comparison", "holds", "(I)Z"⟩ : MethodName) (head1 (Jvm.Cond.code (⟨"com/example/affirm_rows/affirmrows/rules/Comparison", "holds", "(I)Z"⟩ : MethodName) prog_45_method_6_code 2 (some .boolean) :: ws) ({ frames := 1, cells := 0, slots := 0, locals := 12 } : Room)) (fun a U => a = #[(.ref (A 1)), (.int q1)] ∧ Z.Warmed39 U.vm ∧ U.heap = h0) (fun _ _ _ _ _ => True) (fun _ U o U' => ∃ v L, o = .returned v ∧ Q_own_ho1n Z q1 A h0 n0 v U'.heap L ∧ FrameEnd U o U' L ({ frames := 1, cells := 0, slots := 0, locals := 12 } : Room).cells ({ frames := 1, cells := 0, slots := 0, locals := 12 } : Room).slots) := by
  refine MetFree.of_bodySF (plainFor_of_name own_pn_com_example_affirm_rows_affirmrows_rules_Comparison) hisR ?_
  intro p e s m args below meth c s₁ Bd hml0 hP hK
  obtain ⟨rfl, hZ, hh⟩ := hP
  have hx := Bd.exec
  have hby := Bd.bytes
  have hml : c.maxLocals = 2 := hml0
  have hown : s.vm.findClass "com/example/affirm_rows/affirmrows/rules/Comparison" = some m.cls := findClass_of_methodNamed Bd.named
  have hnm := (name_of_methodNamed Bd.named Bd.method).1
  have hlk : meth.locks = false := BodyLoose.notSynchronized Bd
  have X0 : Stand p l e ({ frames := 1, cells := 0, slots := 0, locals := 12 } : Room) s m #[(.ref (A 1)), (.int q1)] below meth c s₁ [] 0 0 := Stand.of_body Bd
  have e0 : s₁.heap = h0 := by rw [← hh, Bd.state]; rfl
  have N0 := Fr.nil n0
  show own_Go p e below #[(.ref (A 1)), (.int q1)] s (fun _ U o U' => ∃ v L, o = .returned v ∧ Q_own_ho1n Z q1 A h0 n0 v U'.heap L ∧ FrameEnd U o U' L ({ frames := 1, cells := 0, slots := 0, locals := 12 } : Room).cells ({ frames := 1, cells := 0, slots := 0, locals := 12 } : Room).slots) (s₁.setTop (entryFrame m #[(.ref (A 1)), (.int q1)] 2))
  refine own_st (V := s₁.setTop (mkF m 0 #[.val (.ref (A 1)), .val (.int q1)] [])) (fun t k => castTop (by first | (simp [entryFrame, mkF, argsToLocals, Value.category]; done) | rfl) k) ?_
  refine own_st (V := s₁.setTop (mkF m 1 #[.val (.ref (A 1)), .val (.int q1)] [(.ref (A 1))])) (fun t k => XS.aloadN X0.here hx rfl (hb hby own_d2_0) rfl rfl k) ?_
  obtain ⟨cq8, kq8, q8a, q8b, q8c⟩ := isOf hZ e0 (own_E En 1 (i := 1) (n := "NOT_EQUAL") rfl)
  obtain ⟨_, _, ⟨T8, L8, k8, n8⟩, -, X8, ⟨Lc8, hQ8, l8, y8, z8⟩, st8⟩ := X0.virtualBackUp hx (x := (⟨"com/example/affirm_rows/affirmrows/rules/Comparison", "ordinal", "()I"⟩ : MethodName)) (y := (⟨"java/lang/Enum", "ordinal", "()I"⟩ : MethodName)) hown (mvT hZ (hw _ (List.mem_of_getElem? (i := 29) rfl))) (mvT hZ (hw _ (List.mem_of_getElem? (i := 30) rfl))) (mvT hZ (hw _ (List.mem_of_getElem? (i := 31) rfl))) (by decide) (mvT hZ (hw _ (List.mem_of_getElem? (i := 33) rfl))) (mvT hZ (hw _ (List.mem_of_getElem? (i := 32) rfl))) (backOf (W := 0) (own_ord1 l Z a0 hw [] A h0 n0 Z0 En ) hZ (hw _ (List.mem_of_getElem? (i := 35) rfl)) (hw _ (List.mem_of_getElem? (i := 34) rfl)) (by decide) (by decide)) q8a q8c (g := (mkF m 1 #[.val (.ref (A 1)), .val (.int q1)] [(.ref (A 1))])) rfl (by rw [hml]; rfl) (Steps.refl _) (argsL := []) (rest := []) (lenOf own_pd0 rfl) rfl (by show 2 * 0 + _ ≤ _; exact Nat.le_of_eq rfl) (hb hby own_d2_1) (fun _ _ => ⟨rfl, e0, (by decide : 0 + 0 ≤ _), (by decide : 0 + 0 ≤ _)⟩)
  dsimp only [Pt.U, Pt.locs, Pt.cells, Pt.slots] at X8 l8 y8 z8 st8 hQ8
  subst l8 y8 z8
  obtain ⟨rfl, N8q, e8⟩ := hQ8
  have N8 := Fr.app N0 N8q
  refine own_st (V := T8.setTop (mkF m 4 #[.val (.ref (A 1)), .val (.int q1)] [(.int (1 : Int32))])) (fun t k => st8.trans k) ?_
  refine own_st (V := T8.setTop (mkF m 66 #[.val (.ref (A 1)), .val (.int q1)] [])) (fun t k => XS.tswIn X8.here hx rfl (pc0 := 4) (pc' := 66) rfl (hb hby own_d2_4) rfl (by decide) (o := 62) rfl (by decide) rfl k) ?_
  refine own_st (V := T8.setTop (mkF m 67 #[.val (.ref (A 1)), .val (.int q1)] [(.int q1)])) (fun t k => XS.iloadN X8.here hx rfl (hb hby own_d2_66) rfl k) ?_
  refine own_st (V := T8.setTop (mkF m 70 #[.val (.ref (A 1)), .val (.int q1)] [])) (fun t k => XS.ifNo X8.here hx rfl (hb hby own_d2_67) rfl ((if0 _ _).trans (feq (own_n1 hs)).1) k) ?_
  refine own_st (V := T8.setTop (mkF m 71 #[.val (.ref (A 1)), .val (.int q1)] [(.int (1 : Int32))])) (fun t k => XS.iconst X8.here hx rfl (hb hby own_d2_70) k) ?_
  refine own_st (V := T8.setTop (mkF m 123 #[.val (.ref (A 1)), .val (.int q1)] [(.int (1 : Int32))])) (fun t k => XS.goto X8.here hx rfl (pc0 := 71) (pc' := 123) rfl (hb hby own_d2_71) (by decide) (by decide) k) ?_
  exact own_ret X8 hx hlk Bd.returns (by decide +kernel) (Or.inl ⟨rfl, by simp, _, rfl⟩) (hb hby own_d2_123) (by decide) (by decide) (by show Q_own_ho1n Z q1 A h0 n0 _ T8.heap _; rw [e8]; exact ⟨rfl, N8, rfl⟩)
def Q_own_ho1p (Z : State) (q1 : Int32) (A : Nat → Addr) (h0 : Heap) (n0 : Nat) (v : Option Value) (h : Heap) (L : List Loc) : Prop := v = some (.int (1 : Int32)) ∧ Fr n0 L ∧ h = h0
set_option maxRecDepth 65536 in
set_option maxHeartbeats 40000000 in
theorem own_ho1p (l : Launch) (Z : State) (a0 : Array Value) (hw : ∀ d ∈ tables_1, d.before a0 Z = true) (ws : List Jvm.Cond) (q1 : Int32) (A : Nat → Addr) (h0 : Heap) (n0 : Nat) (Z0 : n0 ≤ h0.size) (En : own_En Z h0 A) (hs : (0 : Int32) < q1) :
    MetFree l (⟨"com/example/affirm_rows/affirmrows/rules/Comparison", "holds", "(I)Z"⟩ : MethodName) (head1 (Jvm.Cond.code (⟨"com/example/affirm_rows/affirmrows/rules/Comparison", "holds", "(I)Z"⟩ : MethodName) prog_45_method_6_code 2 (some .boolean) :: ws) ({ frames := 1, cells := 0, slots := 0, locals := 12 } : Room)) (fun a U => a = #[(.ref (A 1)), (.int q1)] ∧ Z.Warmed39 U.vm ∧ U.heap = h0) (fun _ _ _ _ _ => True) (fun _ U o U' => ∃ v L, o = .returned v ∧ Q_own_ho1p Z q1 A h0 n0 v U'.heap L ∧ FrameEnd U o U' L ({ frames := 1, cells := 0, slots := 0, locals := 12 } : Room).cells ({ frames := 1, cells := 0, slots := 0, locals := 12 } : Room).slots) := by
  refine MetFree.of_bodySF (plainFor_of_name own_pn_com_example_affirm_rows_affirmrows_rules_Comparison) hisR ?_
  intro p e s m args below meth c s₁ Bd hml0 hP hK
  obtain ⟨rfl, hZ, hh⟩ := hP
  have hx := Bd.exec
  have hby := Bd.bytes
  have hml : c.maxLocals = 2 := hml0
  have hown : s.vm.findClass "com/example/affirm_rows/affirmrows/rules/Comparison" = some m.cls := findClass_of_methodNamed Bd.named
  have hnm := (name_of_methodNamed Bd.named Bd.method).1
  have hlk : meth.locks = false := BodyLoose.notSynchronized Bd
  have X0 : Stand p l e ({ frames := 1, cells := 0, slots := 0, locals := 12 } : Room) s m #[(.ref (A 1)), (.int q1)] below meth c s₁ [] 0 0 := Stand.of_body Bd
  have e0 : s₁.heap = h0 := by rw [← hh, Bd.state]; rfl
  have N0 := Fr.nil n0
  show own_Go p e below #[(.ref (A 1)), (.int q1)] s (fun _ U o U' => ∃ v L, o = .returned v ∧ Q_own_ho1p Z q1 A h0 n0 v U'.heap L ∧ FrameEnd U o U' L ({ frames := 1, cells := 0, slots := 0, locals := 12 } : Room).cells ({ frames := 1, cells := 0, slots := 0, locals := 12 } : Room).slots) (s₁.setTop (entryFrame m #[(.ref (A 1)), (.int q1)] 2))
  refine own_st (V := s₁.setTop (mkF m 0 #[.val (.ref (A 1)), .val (.int q1)] [])) (fun t k => castTop (by first | (simp [entryFrame, mkF, argsToLocals, Value.category]; done) | rfl) k) ?_
  refine own_st (V := s₁.setTop (mkF m 1 #[.val (.ref (A 1)), .val (.int q1)] [(.ref (A 1))])) (fun t k => XS.aloadN X0.here hx rfl (hb hby own_d2_0) rfl rfl k) ?_
  obtain ⟨cq9, kq9, q9a, q9b, q9c⟩ := isOf hZ e0 (own_E En 1 (i := 1) (n := "NOT_EQUAL") rfl)
  obtain ⟨_, _, ⟨T9, L9, k9, n9⟩, -, X9, ⟨Lc9, hQ9, l9, y9, z9⟩, st9⟩ := X0.virtualBackUp hx (x := (⟨"com/example/affirm_rows/affirmrows/rules/Comparison", "ordinal", "()I"⟩ : MethodName)) (y := (⟨"java/lang/Enum", "ordinal", "()I"⟩ : MethodName)) hown (mvT hZ (hw _ (List.mem_of_getElem? (i := 29) rfl))) (mvT hZ (hw _ (List.mem_of_getElem? (i := 30) rfl))) (mvT hZ (hw _ (List.mem_of_getElem? (i := 31) rfl))) (by decide) (mvT hZ (hw _ (List.mem_of_getElem? (i := 33) rfl))) (mvT hZ (hw _ (List.mem_of_getElem? (i := 32) rfl))) (backOf (W := 0) (own_ord1 l Z a0 hw [] A h0 n0 Z0 En ) hZ (hw _ (List.mem_of_getElem? (i := 35) rfl)) (hw _ (List.mem_of_getElem? (i := 34) rfl)) (by decide) (by decide)) q9a q9c (g := (mkF m 1 #[.val (.ref (A 1)), .val (.int q1)] [(.ref (A 1))])) rfl (by rw [hml]; rfl) (Steps.refl _) (argsL := []) (rest := []) (lenOf own_pd0 rfl) rfl (by show 2 * 0 + _ ≤ _; exact Nat.le_of_eq rfl) (hb hby own_d2_1) (fun _ _ => ⟨rfl, e0, (by decide : 0 + 0 ≤ _), (by decide : 0 + 0 ≤ _)⟩)
  dsimp only [Pt.U, Pt.locs, Pt.cells, Pt.slots] at X9 l9 y9 z9 st9 hQ9
  subst l9 y9 z9
  obtain ⟨rfl, N9q, e9⟩ := hQ9
  have N9 := Fr.app N0 N9q
  refine own_st (V := T9.setTop (mkF m 4 #[.val (.ref (A 1)), .val (.int q1)] [(.int (1 : Int32))])) (fun t k => st9.trans k) ?_
  refine own_st (V := T9.setTop (mkF m 66 #[.val (.ref (A 1)), .val (.int q1)] [])) (fun t k => XS.tswIn X9.here hx rfl (pc0 := 4) (pc' := 66) rfl (hb hby own_d2_4) rfl (by decide) (o := 62) rfl (by decide) rfl k) ?_
  refine own_st (V := T9.setTop (mkF m 67 #[.val (.ref (A 1)), .val (.int q1)] [(.int q1)])) (fun t k => XS.iloadN X9.here hx rfl (hb hby own_d2_66) rfl k) ?_
  refine own_st (V := T9.setTop (mkF m 70 #[.val (.ref (A 1)), .val (.int q1)] [])) (fun t k => XS.ifNo X9.here hx rfl (hb hby own_d2_67) rfl ((if0 _ _).trans (feq (own_p2 hs)).1) k) ?_
  refine own_st (V := T9.setTop (mkF m 71 #[.val (.ref (A 1)), .val (.int q1)] [(.int (1 : Int32))])) (fun t k => XS.iconst X9.here hx rfl (hb hby own_d2_70) k) ?_
  refine own_st (V := T9.setTop (mkF m 123 #[.val (.ref (A 1)), .val (.int q1)] [(.int (1 : Int32))])) (fun t k => XS.goto X9.here hx rfl (pc0 := 71) (pc' := 123) rfl (hb hby own_d2_71) (by decide) (by decide) k) ?_
  exact own_ret X9 hx hlk Bd.returns (by decide +kernel) (Or.inl ⟨rfl, by simp, _, rfl⟩) (hb hby own_d2_123) (by decide) (by decide) (by show Q_own_ho1p Z q1 A h0 n0 _ T9.heap _; rw [e9]; exact ⟨rfl, N9, rfl⟩)
def Q_own_ord2 (Z : State) (A : Nat → Addr) (h0 : Heap) (n0 : Nat) (v : Option Value) (h : Heap) (L : List Loc) : Prop := v = some (.int (2 : Int32)) ∧ Fr n0 L ∧ h = h0
set_option maxRecDepth 65536 in
set_option maxHeartbeats 40000000 in
theorem own_ord2 (l : Launch) (Z : State) (a0 : Array Value) (hw : ∀ d ∈ tables_1, d.before a0 Z = true) (ws : List Jvm.Cond) (A : Nat → Addr) (h0 : Heap) (n0 : Nat) (Z0 : n0 ≤ h0.size) (En : own_En Z h0 A) :
    MetFree l (⟨"java/lang/Enum", "ordinal", "()I"⟩ : MethodName) (head1 (Jvm.Cond.code (⟨"java/lang/Enum", "ordinal", "()I"⟩ : MethodName) jdk_37_method_2_code 1 (some .int) :: ws) ({ frames := 0, cells := 0, slots := 0, locals := 0 } : Room)) (fun a U => a = #[(.ref (A 2))] ∧ Z.Warmed39 U.vm ∧ U.heap = h0) (fun _ _ _ _ _ => True) (fun _ U o U' => ∃ v L, o = .returned v ∧ Q_own_ord2 Z A h0 n0 v U'.heap L ∧ FrameEnd U o U' L ({ frames := 0, cells := 0, slots := 0, locals := 0 } : Room).cells ({ frames := 0, cells := 0, slots := 0, locals := 0 } : Room).slots) := by
  refine MetFree.of_bodySF (plainFor_of_name own_pn_java_lang_Enum) hisR ?_
  intro p e s m args below meth c s₁ Bd hml0 hP hK
  obtain ⟨rfl, hZ, hh⟩ := hP
  have hx := Bd.exec
  have hby := Bd.bytes
  have hml : c.maxLocals = 1 := hml0
  have hown : s.vm.findClass "java/lang/Enum" = some m.cls := findClass_of_methodNamed Bd.named
  have hnm := (name_of_methodNamed Bd.named Bd.method).1
  have hlk : meth.locks = false := BodyLoose.notSynchronized Bd
  have X0 : Stand p l e ({ frames := 0, cells := 0, slots := 0, locals := 0 } : Room) s m #[(.ref (A 2))] below meth c s₁ [] 0 0 := Stand.of_body Bd
  have e0 : s₁.heap = h0 := by rw [← hh, Bd.state]; rfl
  have N0 := Fr.nil n0
  show own_Go p e below #[(.ref (A 2))] s (fun _ U o U' => ∃ v L, o = .returned v ∧ Q_own_ord2 Z A h0 n0 v U'.heap L ∧ FrameEnd U o U' L ({ frames := 0, cells := 0, slots := 0, locals := 0 } : Room).cells ({ frames := 0, cells := 0, slots := 0, locals := 0 } : Room).slots) (s₁.setTop (entryFrame m #[(.ref (A 2))] 1))
  refine own_st (V := s₁.setTop (mkF m 0 #[.val (.ref (A 2))] [])) (fun t k => castTop (by first | (simp [entryFrame, mkF, argsToLocals, Value.category]; done) | rfl) k) ?_
  refine own_st (V := s₁.setTop (mkF m 1 #[.val (.ref (A 2))] [(.ref (A 2))])) (fun t k => XS.aloadN X0.here hx rfl (hb hby own_d3_0) rfl rfl k) ?_
  obtain ⟨T10, X10, e10, st10⟩ := getF X0 hx hZ hown (host := "") (Or.inl (hw _ (List.mem_of_getElem? (i := 36) rfl))) Via.refl e0 (own_O En 2 (i := 2) (n := "LESS") rfl) (g := (mkF m 1 #[.val (.ref (A 2))] [(.ref (A 2))])) rfl rfl (hb hby own_d3_1)
  refine own_st (V := T10.setTop (mkF m 4 #[.val (.ref (A 2))] [(.int (2 : Int32))])) (fun t k => st10 _ k) ?_
  exact own_ret X10 hx hlk Bd.returns rfl (Or.inl ⟨rfl, by simp, _, rfl⟩) (hb hby own_d3_4) (by decide) (by decide) (by show Q_own_ord2 Z A h0 n0 _ T10.heap _; rw [e10]; exact ⟨rfl, N0, rfl⟩)
def Q_own_no2 (Z : State) (A : Nat → Addr) (h0 : Heap) (n0 : Nat) (v : Option Value) (h : Heap) (L : List Loc) : Prop := v = some (.int (1 : Int32)) ∧ Fr n0 L ∧ h = h0
theorem own_d1_14 : decode prog_45_method_4_code 14 = .ok (.iconst 1, 1) := by decide +kernel
theorem own_d1_15 : decode prog_45_method_4_code 15 = .ok (.goto 4, 3) := by decide +kernel
set_option maxRecDepth 65536 in
set_option maxHeartbeats 40000000 in
theorem own_no2 (l : Launch) (Z : State) (a0 : Array Value) (hw : ∀ d ∈ tables_1, d.before a0 Z = true) (ws : List Jvm.Cond) (A : Nat → Addr) (h0 : Heap) (n0 : Nat) (Z0 : n0 ≤ h0.size) (En : own_En Z h0 A) :
    MetFree l (⟨"com/example/affirm_rows/affirmrows/rules/Comparison", "needsOrder", "()Z"⟩ : MethodName) (head1 (Jvm.Cond.code (⟨"com/example/affirm_rows/affirmrows/rules/Comparison", "needsOrder", "()Z"⟩ : MethodName) prog_45_method_4_code 1 (some .boolean) :: ws) ({ frames := 0, cells := 0, slots := 0, locals := 0 } : Room)) (fun a U => a = #[(.ref (A 2))] ∧ Z.Warmed39 U.vm ∧ U.heap = h0) (fun _ _ _ _ _ => True) (fun _ U o U' => ∃ v L, o = .returned v ∧ Q_own_no2 Z A h0 n0 v U'.heap L ∧ FrameEnd U o U' L ({ frames := 0, cells := 0, slots := 0, locals := 0 } : Room).cells ({ frames := 0, cells := 0, slots := 0, locals := 0 } : Room).slots) := by
  refine MetFree.of_bodySF (plainFor_of_name own_pn_com_example_affirm_rows_affirmrows_rules_Comparison) hisR ?_
  intro p e s m args below meth c s₁ Bd hml0 hP hK
  obtain ⟨rfl, hZ, hh⟩ := hP
  have hx := Bd.exec
  have hby := Bd.bytes
  have hml : c.maxLocals = 1 := hml0
  have hown : s.vm.findClass "com/example/affirm_rows/affirmrows/rules/Comparison" = some m.cls := findClass_of_methodNamed Bd.named
  have hnm := (name_of_methodNamed Bd.named Bd.method).1
  have hlk : meth.locks = false := BodyLoose.notSynchronized Bd
  have X0 : Stand p l e ({ frames := 0, cells := 0, slots := 0, locals := 0 } : Room) s m #[(.ref (A 2))] below meth c s₁ [] 0 0 := Stand.of_body Bd
  have e0 : s₁.heap = h0 := by rw [← hh, Bd.state]; rfl
  have N0 := Fr.nil n0
  show own_Go p e below #[(.ref (A 2))] s (fun _ U o U' => ∃ v L, o = .returned v ∧ Q_own_no2 Z A h0 n0 v U'.heap L ∧ FrameEnd U o U' L ({ frames := 0, cells := 0, slots := 0, locals := 0 } : Room).cells ({ frames := 0, cells := 0, slots := 0, locals := 0 } : Room).slots) (s₁.setTop (entryFrame m #[(.ref (A 2))] 1))
  refine own_st (V := s₁.setTop (mkF m 0 #[.val (.ref (A 2))] [])) (fun t k => castTop (by first | (simp [entryFrame, mkF, argsToLocals, Value.category]; done) | rfl) k) ?_
  refine own_st (V := s₁.setTop (mkF m 1 #[.val (.ref (A 2))] [(.ref (A 2))])) (fun t k => XS.aloadN X0.here hx rfl (hb hby own_d1_0) rfl rfl k) ?_
  obtain ⟨T11, X11, e11, st11⟩ := getS2 X0 hx hZ hown (host := "") (Or.inl (hw _ (List.mem_of_getElem? (i := 23) rfl))) Via.refl e0 (own_S En 0 (i := 0) (n := "EQUAL") rfl) (g := (mkF m 1 #[.val (.ref (A 2))] [(.ref (A 2))])) rfl (hb hby own_d1_1)
  refine own_st (V := T11.setTop (mkF m 4 #[.val (.ref (A 2))] [(.ref (A 0)), (.ref (A 2))])) (fun t k => st11 _ k) ?_
  refine own_st (V := T11.setTop (mkF m 7 #[.val (.ref (A 2))] [])) (fun t k => Jvm.RoadKit.acmp (g := (mkF m 4 #[.val (.ref (A 2))] [(.ref (A 0)), (.ref (A 2))])) X11 hx rfl rfl rfl (pc0 := 4) (pc' := 7) (same := false) rfl (hb hby own_d1_4) rfl (decide_eq_false fun q => own_ne En 2 0 (i := 2) (n := "LESS") (j := 0) (n' := "EQUAL") rfl rfl (by decide) (Value.ref.inj q)) (by decide) (by decide) k) ?_
  refine own_st (V := T11.setTop (mkF m 8 #[.val (.ref (A 2))] [(.ref (A 2))])) (fun t k => XS.aloadN X11.here hx rfl (hb hby own_d1_7) rfl rfl k) ?_
  obtain ⟨T12, X12, e12, st12⟩ := getS2 X11 hx hZ hown (host := "") (Or.inl (hw _ (List.mem_of_getElem? (i := 38) rfl))) Via.refl e11 (own_S En 1 (i := 1) (n := "NOT_EQUAL") rfl) (g := (mkF m 8 #[.val (.ref (A 2))] [(.ref (A 2))])) rfl (hb hby own_d1_8)
  refine own_st (V := T12.setTop (mkF m 11 #[.val (.ref (A 2))] [(.ref (A 1)), (.ref (A 2))])) (fun t k => st12 _ k) ?_
  refine own_st (V := T12.setTop (mkF m 14 #[.val (.ref (A 2))] [])) (fun t k => Jvm.RoadKit.acmp (g := (mkF m 11 #[.val (.ref (A 2))] [(.ref (A 1)), (.ref (A 2))])) X12 hx rfl rfl rfl (pc0 := 11) (pc' := 14) (same := false) rfl (hb hby own_d1_11) rfl (decide_eq_false fun q => own_ne En 2 1 (i := 2) (n := "LESS") (j := 1) (n' := "NOT_EQUAL") rfl rfl (by decide) (Value.ref.inj q)) (by decide) (by decide) k) ?_
  refine own_st (V := T12.setTop (mkF m 15 #[.val (.ref (A 2))] [(.int (1 : Int32))])) (fun t k => XS.iconst X12.here hx rfl (hb hby own_d1_14) k) ?_
  refine own_st (V := T12.setTop (mkF m 19 #[.val (.ref (A 2))] [(.int (1 : Int32))])) (fun t k => XS.goto X12.here hx rfl (pc0 := 15) (pc' := 19) rfl (hb hby own_d1_15) (by decide) (by decide) k) ?_
  exact own_ret X12 hx hlk Bd.returns (by decide +kernel) (Or.inl ⟨rfl, by simp, _, rfl⟩) (hb hby own_d1_19) (by decide) (by decide) (by show Q_own_no2 Z A h0 n0 _ T12.heap _; rw [e12]; exact ⟨rfl, N0, rfl⟩)
def Q_own_ho2n (Z : State) (q1 : Int32) (A : Nat → Addr) (h0 : Heap) (n0 : Nat) (v : Option Value) (h : Heap) (L : List Loc) : Prop := v = some (.int (1 : Int32)) ∧ Fr n0 L ∧ h = h0
theorem own_d2_78 : decode prog_45_method_6_code 78 = .ok (.iload_n 1, 1) := by decide +kernel
theorem own_d2_79 : decode prog_45_method_6_code 79 = .ok (.ifCond .ge 7, 3) := by decide +kernel
theorem own_d2_82 : decode prog_45_method_6_code 82 = .ok (.iconst 1, 1) := by decide +kernel
theorem own_d2_83 : decode prog_45_method_6_code 83 = .ok (.goto 40, 3) := by decide +kernel
set_option maxRecDepth 65536 in
set_option maxHeartbeats 40000000 in
theorem own_ho2n (l : Launch) (Z : State) (a0 : Array Value) (hw : ∀ d ∈ tables_1, d.before a0 Z = true) (ws : List Jvm.Cond) (q1 : Int32) (A : Nat → Addr) (h0 : Heap) (n0 : Nat) (Z0 : n0 ≤ h0.size) (En : own_En Z h0 A) (hs : q1 < (0 : Int32)) :
    MetFree l (⟨"com/example/affirm_rows/affirmrows/rules/Comparison", "holds", "(I)Z"⟩ : MethodName) (head1 (Jvm.Cond.code (⟨"com/example/affirm_rows/affirmrows/rules/Comparison", "holds", "(I)Z"⟩ : MethodName) prog_45_method_6_code 2 (some .boolean) :: ws) ({ frames := 1, cells := 0, slots := 0, locals := 12 } : Room)) (fun a U => a = #[(.ref (A 2)), (.int q1)] ∧ Z.Warmed39 U.vm ∧ U.heap = h0) (fun _ _ _ _ _ => True) (fun _ U o U' => ∃ v L, o = .returned v ∧ Q_own_ho2n Z q1 A h0 n0 v U'.heap L ∧ FrameEnd U o U' L ({ frames := 1, cells := 0, slots := 0, locals := 12 } : Room).cells ({ frames := 1, cells := 0, slots := 0, locals := 12 } : Room).slots) := by
  refine MetFree.of_bodySF (plainFor_of_name own_pn_com_example_affirm_rows_affirmrows_rules_Comparison) hisR ?_
  intro p e s m args below meth c s₁ Bd hml0 hP hK
  obtain ⟨rfl, hZ, hh⟩ := hP
  have hx := Bd.exec
  have hby := Bd.bytes
  have hml : c.maxLocals = 2 := hml0
  have hown : s.vm.findClass "com/example/affirm_rows/affirmrows/rules/Comparison" = some m.cls := findClass_of_methodNamed Bd.named
  have hnm := (name_of_methodNamed Bd.named Bd.method).1
  have hlk : meth.locks = false := BodyLoose.notSynchronized Bd
  have X0 : Stand p l e ({ frames := 1, cells := 0, slots := 0, locals := 12 } : Room) s m #[(.ref (A 2)), (.int q1)] below meth c s₁ [] 0 0 := Stand.of_body Bd
  have e0 : s₁.heap = h0 := by rw [← hh, Bd.state]; rfl
  have N0 := Fr.nil n0
  show own_Go p e below #[(.ref (A 2)), (.int q1)] s (fun _ U o U' => ∃ v L, o = .returned v ∧ Q_own_ho2n Z q1 A h0 n0 v U'.heap L ∧ FrameEnd U o U' L ({ frames := 1, cells := 0, slots := 0, locals := 12 } : Room).cells ({ frames := 1, cells := 0, slots := 0, locals := 12 } : Room).slots) (s₁.setTop (entryFrame m #[(.ref (A 2)), (.int q1)] 2))
  refine own_st (V := s₁.setTop (mkF m 0 #[.val (.ref (A 2)), .val (.int q1)] [])) (fun t k => castTop (by first | (simp [entryFrame, mkF, argsToLocals, Value.category]; done) | rfl) k) ?_
  refine own_st (V := s₁.setTop (mkF m 1 #[.val (.ref (A 2)), .val (.int q1)] [(.ref (A 2))])) (fun t k => XS.aloadN X0.here hx rfl (hb hby own_d2_0) rfl rfl k) ?_
  obtain ⟨cq13, kq13, q13a, q13b, q13c⟩ := isOf hZ e0 (own_E En 2 (i := 2) (n := "LESS") rfl)
  obtain ⟨_, _, ⟨T13, L13, k13, n13⟩, -, X13, ⟨Lc13, hQ13, l13, y13, z13⟩, st13⟩ := X0.virtualBackUp hx (x := (⟨"com/example/affirm_rows/affirmrows/rules/Comparison", "ordinal", "()I"⟩ : MethodName)) (y := (⟨"java/lang/Enum", "ordinal", "()I"⟩ : MethodName)) hown (mvT hZ (hw _ (List.mem_of_getElem? (i := 29) rfl))) (mvT hZ (hw _ (List.mem_of_getElem? (i := 30) rfl))) (mvT hZ (hw _ (List.mem_of_getElem? (i := 31) rfl))) (by decide) (mvT hZ (hw _ (List.mem_of_getElem? (i := 33) rfl))) (mvT hZ (hw _ (List.mem_of_getElem? (i := 32) rfl))) (backOf (W := 0) (own_ord2 l Z a0 hw [] A h0 n0 Z0 En ) hZ (hw _ (List.mem_of_getElem? (i := 35) rfl)) (hw _ (List.mem_of_getElem? (i := 34) rfl)) (by decide) (by decide)) q13a q13c (g := (mkF m 1 #[.val (.ref (A 2)), .val (.int q1)] [(.ref (A 2))])) rfl (by rw [hml]; rfl) (Steps.refl _) (argsL := []) (rest := []) (lenOf own_pd0 rfl) rfl (by show 2 * 0 + _ ≤ _; exact Nat.le_of_eq rfl) (hb hby own_d2_1) (fun _ _ => ⟨rfl, e0, (by decide : 0 + 0 ≤ _), (by decide : 0 + 0 ≤ _)⟩)
  dsimp only [Pt.U, Pt.locs, Pt.cells, Pt.slots] at X13 l13 y13 z13 st13 hQ13
  subst l13 y13 z13
  obtain ⟨rfl, N13q, e13⟩ := hQ13
  have N13 := Fr.app N0 N13q
  refine own_st (V := T13.setTop (mkF m 4 #[.val (.ref (A 2)), .val (.int q1)] [(.int (2 : Int32))])) (fun t k => st13.trans k) ?_
  refine own_st (V := T13.setTop (mkF m 78 #[.val (.ref (A 2)), .val (.int q1)] [])) (fun t k => XS.tswIn X13.here hx rfl (pc0 := 4) (pc' := 78) rfl (hb hby own_d2_4) rfl (by decide) (o := 74) rfl (by decide) rfl k) ?_
  refine own_st (V := T13.setTop (mkF m 79 #[.val (.ref (A 2)), .val (.int q1)] [(.int q1)])) (fun t k => XS.iloadN X13.here hx rfl (hb hby own_d2_78) rfl k) ?_
  refine own_st (V := T13.setTop (mkF m 82 #[.val (.ref (A 2)), .val (.int q1)] [])) (fun t k => XS.ifNo X13.here hx rfl (hb hby own_d2_79) rfl ((if0 _ _).trans (tlt hs).2.1) k) ?_
  refine own_st (V := T13.setTop (mkF m 83 #[.val (.ref (A 2)), .val (.int q1)] [(.int (1 : Int32))])) (fun t k => XS.iconst X13.here hx rfl (hb hby own_d2_82) k) ?_
  refine own_st (V := T13.setTop (mkF m 123 #[.val (.ref (A 2)), .val (.int q1)] [(.int (1 : Int32))])) (fun t k => XS.goto X13.here hx rfl (pc0 := 83) (pc' := 123) rfl (hb hby own_d2_83) (by decide) (by decide) k) ?_
  exact own_ret X13 hx hlk Bd.returns (by decide +kernel) (Or.inl ⟨rfl, by simp, _, rfl⟩) (hb hby own_d2_123) (by decide) (by decide) (by show Q_own_ho2n Z q1 A h0 n0 _ T13.heap _; rw [e13]; exact ⟨rfl, N13, rfl⟩)
def Q_own_ho2p (Z : State) (q1 : Int32) (A : Nat → Addr) (h0 : Heap) (n0 : Nat) (v : Option Value) (h : Heap) (L : List Loc) : Prop := v = some (.int (0 : Int32)) ∧ Fr n0 L ∧ h = h0
theorem own_d2_86 : decode prog_45_method_6_code 86 = .ok (.iconst 0, 1) := by decide +kernel
theorem own_d2_87 : decode prog_45_method_6_code 87 = .ok (.goto 36, 3) := by decide +kernel
set_option maxRecDepth 65536 in
set_option maxHeartbeats 40000000 in
theorem own_ho2p (l : Launch) (Z : State) (a0 : Array Value) (hw : ∀ d ∈ tables_1, d.before a0 Z = true) (ws : List Jvm.Cond) (q1 : Int32) (A : Nat → Addr) (h0 : Heap) (n0 : Nat) (Z0 : n0 ≤ h0.size) (En : own_En Z h0 A) (hs : (0 : Int32) < q1) :
    MetFree l (⟨"com/example/affirm_rows/affirmrows/rules/Comparison", "holds", "(I)Z"⟩ : MethodName) (head1 (Jvm.Cond.code (⟨"com/example/affirm_rows/affirmrows/rules/Comparison", "holds", "(I)Z"⟩ : MethodName) prog_45_method_6_code 2 (some .boolean) :: ws) ({ frames := 1, cells := 0, slots := 0, locals := 12 } : Room)) (fun a U => a = #[(.ref (A 2)), (.int q1)] ∧ Z.Warmed39 U.vm ∧ U.heap = h0) (fun _ _ _ _ _ => True) (fun _ U o U' => ∃ v L, o = .returned v ∧ Q_own_ho2p Z q1 A h0 n0 v U'.heap L ∧ FrameEnd U o U' L ({ frames := 1, cells := 0, slots := 0, locals := 12 } : Room).cells ({ frames := 1, cells := 0, slots := 0, locals := 12 } : Room).slots) := by
  refine MetFree.of_bodySF (plainFor_of_name own_pn_com_example_affirm_rows_affirmrows_rules_Comparison) hisR ?_
  intro p e s m args below meth c s₁ Bd hml0 hP hK
  obtain ⟨rfl, hZ, hh⟩ := hP
  have hx := Bd.exec
  have hby := Bd.bytes
  have hml : c.maxLocals = 2 := hml0
  have hown : s.vm.findClass "com/example/affirm_rows/affirmrows/rules/Comparison" = some m.cls := findClass_of_methodNamed Bd.named
  have hnm := (name_of_methodNamed Bd.named Bd.method).1
  have hlk : meth.locks = false := BodyLoose.notSynchronized Bd
  have X0 : Stand p l e ({ frames := 1, cells := 0, slots := 0, locals := 12 } : Room) s m #[(.ref (A 2)), (.int q1)] below meth c s₁ [] 0 0 := Stand.of_body Bd
  have e0 : s₁.heap = h0 := by rw [← hh, Bd.state]; rfl
  have N0 := Fr.nil n0
  show own_Go p e below #[(.ref (A 2)), (.int q1)] s (fun _ U o U' => ∃ v L, o = .returned v ∧ Q_own_ho2p Z q1 A h0 n0 v U'.heap L ∧ FrameEnd U o U' L ({ frames := 1, cells := 0, slots := 0, locals := 12 } : Room).cells ({ frames := 1, cells := 0, slots := 0, locals := 12 } : Room).slots) (s₁.setTop (entryFrame m #[(.ref (A 2)), (.int q1)] 2))
  refine own_st (V := s₁.setTop (mkF m 0 #[.val (.ref (A 2)), .val (.int q1)] [])) (fun t k => castTop (by first | (simp [entryFrame, mkF, argsToLocals, Value.category]; done) | rfl) k) ?_
  refine own_st (V := s₁.setTop (mkF m 1 #[.val (.ref (A 2)), .val (.int q1)] [(.ref (A 2))])) (fun t k => XS.aloadN X0.here hx rfl (hb hby own_d2_0) rfl rfl k) ?_
  obtain ⟨cq14, kq14, q14a, q14b, q14c⟩ := isOf hZ e0 (own_E En 2 (i := 2) (n := "LESS") rfl)
  obtain ⟨_, _, ⟨T14, L14, k14, n14⟩, -, X14, ⟨Lc14, hQ14, l14, y14, z14⟩, st14⟩ := X0.virtualBackUp hx (x := (⟨"com/example/affirm_rows/affirmrows/rules/Comparison", "ordinal", "()I"⟩ : MethodName)) (y := (⟨"java/lang/Enum", "ordinal", "()I"⟩ : MethodName)) hown (mvT hZ (hw _ (List.mem_of_getElem? (i := 29) rfl))) (mvT hZ (hw _ (List.mem_of_getElem? (i := 30) rfl))) (mvT hZ (hw _ (List.mem_of_getElem? (i := 31) rfl))) (by decide) (mvT hZ (hw _ (List.mem_of_getElem? (i := 33) rfl))) (mvT hZ (hw _ (List.mem_of_getElem? (i := 32) rfl))) (backOf (W := 0) (own_ord2 l Z a0 hw [] A h0 n0 Z0 En ) hZ (hw _ (List.mem_of_getElem? (i := 35) rfl)) (hw _ (List.mem_of_getElem? (i := 34) rfl)) (by decide) (by decide)) q14a q14c (g := (mkF m 1 #[.val (.ref (A 2)), .val (.int q1)] [(.ref (A 2))])) rfl (by rw [hml]; rfl) (Steps.refl _) (argsL := []) (rest := []) (lenOf own_pd0 rfl) rfl (by show 2 * 0 + _ ≤ _; exact Nat.le_of_eq rfl) (hb hby own_d2_1) (fun _ _ => ⟨rfl, e0, (by decide : 0 + 0 ≤ _), (by decide : 0 + 0 ≤ _)⟩)
  dsimp only [Pt.U, Pt.locs, Pt.cells, Pt.slots] at X14 l14 y14 z14 st14 hQ14
  subst l14 y14 z14
  obtain ⟨rfl, N14q, e14⟩ := hQ14
  have N14 := Fr.app N0 N14q
  refine own_st (V := T14.setTop (mkF m 4 #[.val (.ref (A 2)), .val (.int q1)] [(.int (2 : Int32))])) (fun t k => st14.trans k) ?_
  refine own_st (V := T14.setTop (mkF m 78 #[.val (.ref (A 2)), .val (.int q1)] [])) (fun t k => XS.tswIn X14.here hx rfl (pc0 := 4) (pc' := 78) rfl (hb hby own_d2_4) rfl (by decide) (o := 74) rfl (by decide) rfl k) ?_
  refine own_st (V := T14.setTop (mkF m 79 #[.val (.ref (A 2)), .val (.int q1)] [(.int q1)])) (fun t k => XS.iloadN X14.here hx rfl (hb hby own_d2_78) rfl k) ?_
  refine own_st (V := T14.setTop (mkF m 86 #[.val (.ref (A 2)), .val (.int q1)] [])) (fun t k => XS.ifYes X14.here hx rfl (pc0 := 79) (pc' := 86) rfl (hb hby own_d2_79) rfl ((if0 _ _).trans (flt (own_p1 hs)).2.1) (by decide) (by decide) k) ?_
  refine own_st (V := T14.setTop (mkF m 87 #[.val (.ref (A 2)), .val (.int q1)] [(.int (0 : Int32))])) (fun t k => XS.iconst X14.here hx rfl (hb hby own_d2_86) k) ?_
  refine own_st (V := T14.setTop (mkF m 123 #[.val (.ref (A 2)), .val (.int q1)] [(.int (0 : Int32))])) (fun t k => XS.goto X14.here hx rfl (pc0 := 87) (pc' := 123) rfl (hb hby own_d2_87) (by decide) (by decide) k) ?_
  exact own_ret X14 hx hlk Bd.returns (by decide +kernel) (Or.inl ⟨rfl, by simp, _, rfl⟩) (hb hby own_d2_123) (by decide) (by decide) (by show Q_own_ho2p Z q1 A h0 n0 _ T14.heap _; rw [e14]; exact ⟨rfl, N14, rfl⟩)
def Q_own_ord3 (Z : State) (A : Nat → Addr) (h0 : Heap) (n0 : Nat) (v : Option Value) (h : Heap) (L : List Loc) : Prop := v = some (.int (3 : Int32)) ∧ Fr n0 L ∧ h = h0
set_option maxRecDepth 65536 in
set_option maxHeartbeats 40000000 in
theorem own_ord3 (l : Launch) (Z : State) (a0 : Array Value) (hw : ∀ d ∈ tables_1, d.before a0 Z = true) (ws : List Jvm.Cond) (A : Nat → Addr) (h0 : Heap) (n0 : Nat) (Z0 : n0 ≤ h0.size) (En : own_En Z h0 A) :
    MetFree l (⟨"java/lang/Enum", "ordinal", "()I"⟩ : MethodName) (head1 (Jvm.Cond.code (⟨"java/lang/Enum", "ordinal", "()I"⟩ : MethodName) jdk_37_method_2_code 1 (some .int) :: ws) ({ frames := 0, cells := 0, slots := 0, locals := 0 } : Room)) (fun a U => a = #[(.ref (A 3))] ∧ Z.Warmed39 U.vm ∧ U.heap = h0) (fun _ _ _ _ _ => True) (fun _ U o U' => ∃ v L, o = .returned v ∧ Q_own_ord3 Z A h0 n0 v U'.heap L ∧ FrameEnd U o U' L ({ frames := 0, cells := 0, slots := 0, locals := 0 } : Room).cells ({ frames := 0, cells := 0, slots := 0, locals := 0 } : Room).slots) := by
  refine MetFree.of_bodySF (plainFor_of_name own_pn_java_lang_Enum) hisR ?_
  intro p e s m args below meth c s₁ Bd hml0 hP hK
  obtain ⟨rfl, hZ, hh⟩ := hP
  have hx := Bd.exec
  have hby := Bd.bytes
  have hml : c.maxLocals = 1 := hml0
  have hown : s.vm.findClass "java/lang/Enum" = some m.cls := findClass_of_methodNamed Bd.named
  have hnm := (name_of_methodNamed Bd.named Bd.method).1
  have hlk : meth.locks = false := BodyLoose.notSynchronized Bd
  have X0 : Stand p l e ({ frames := 0, cells := 0, slots := 0, locals := 0 } : Room) s m #[(.ref (A 3))] below meth c s₁ [] 0 0 := Stand.of_body Bd
  have e0 : s₁.heap = h0 := by rw [← hh, Bd.state]; rfl
  have N0 := Fr.nil n0
  show own_Go p e below #[(.ref (A 3))] s (fun _ U o U' => ∃ v L, o = .returned v ∧ Q_own_ord3 Z A h0 n0 v U'.heap L ∧ FrameEnd U o U' L ({ frames := 0, cells := 0, slots := 0, locals := 0 } : Room).cells ({ frames := 0, cells := 0, slots := 0, locals := 0 } : Room).slots) (s₁.setTop (entryFrame m #[(.ref (A 3))] 1))
  refine own_st (V := s₁.setTop (mkF m 0 #[.val (.ref (A 3))] [])) (fun t k => castTop (by first | (simp [entryFrame, mkF, argsToLocals, Value.category]; done) | rfl) k) ?_
  refine own_st (V := s₁.setTop (mkF m 1 #[.val (.ref (A 3))] [(.ref (A 3))])) (fun t k => XS.aloadN X0.here hx rfl (hb hby own_d3_0) rfl rfl k) ?_
  obtain ⟨T15, X15, e15, st15⟩ := getF X0 hx hZ hown (host := "") (Or.inl (hw _ (List.mem_of_getElem? (i := 36) rfl))) Via.refl e0 (own_O En 3 (i := 3) (n := "LESS_OR_EQUAL") rfl) (g := (mkF m 1 #[.val (.ref (A 3))] [(.ref (A 3))])) rfl rfl (hb hby own_d3_1)
  refine own_st (V := T15.setTop (mkF m 4 #[.val (.ref (A 3))] [(.int (3 : Int32))])) (fun t k => st15 _ k) ?_
  exact own_ret X15 hx hlk Bd.returns rfl (Or.inl ⟨rfl, by simp, _, rfl⟩) (hb hby own_d3_4) (by decide) (by decide) (by show Q_own_ord3 Z A h0 n0 _ T15.heap _; rw [e15]; exact ⟨rfl, N0, rfl⟩)
def Q_own_no3 (Z : State) (A : Nat → Addr) (h0 : Heap) (n0 : Nat) (v : Option Value) (h : Heap) (L : List Loc) : Prop := v = some (.int (1 : Int32)) ∧ Fr n0 L ∧ h = h0
set_option maxRecDepth 65536 in
set_option maxHeartbeats 40000000 in
theorem own_no3 (l : Launch) (Z : State) (a0 : Array Value) (hw : ∀ d ∈ tables_1, d.before a0 Z = true) (ws : List Jvm.Cond) (A : Nat → Addr) (h0 : Heap) (n0 : Nat) (Z0 : n0 ≤ h0.size) (En : own_En Z h0 A) :
    MetFree l (⟨"com/example/affirm_rows/affirmrows/rules/Comparison", "needsOrder", "()Z"⟩ : MethodName) (head1 (Jvm.Cond.code (⟨"com/example/affirm_rows/affirmrows/rules/Comparison", "needsOrder", "()Z"⟩ : MethodName) prog_45_method_4_code 1 (some .boolean) :: ws) ({ frames := 0, cells := 0, slots := 0, locals := 0 } : Room)) (fun a U => a = #[(.ref (A 3))] ∧ Z.Warmed39 U.vm ∧ U.heap = h0) (fun _ _ _ _ _ => True) (fun _ U o U' => ∃ v L, o = .returned v ∧ Q_own_no3 Z A h0 n0 v U'.heap L ∧ FrameEnd U o U' L ({ frames := 0, cells := 0, slots := 0, locals := 0 } : Room).cells ({ frames := 0, cells := 0, slots := 0, locals := 0 } : Room).slots) := by
  refine MetFree.of_bodySF (plainFor_of_name own_pn_com_example_affirm_rows_affirmrows_rules_Comparison) hisR ?_
  intro p e s m args below meth c s₁ Bd hml0 hP hK
  obtain ⟨rfl, hZ, hh⟩ := hP
  have hx := Bd.exec
  have hby := Bd.bytes
  have hml : c.maxLocals = 1 := hml0
  have hown : s.vm.findClass "com/example/affirm_rows/affirmrows/rules/Comparison" = some m.cls := findClass_of_methodNamed Bd.named
  have hnm := (name_of_methodNamed Bd.named Bd.method).1
  have hlk : meth.locks = false := BodyLoose.notSynchronized Bd
  have X0 : Stand p l e ({ frames := 0, cells := 0, slots := 0, locals := 0 } : Room) s m #[(.ref (A 3))] below meth c s₁ [] 0 0 := Stand.of_body Bd
  have e0 : s₁.heap = h0 := by rw [← hh, Bd.state]; rfl
  have N0 := Fr.nil n0
  show own_Go p e below #[(.ref (A 3))] s (fun _ U o U' => ∃ v L, o = .returned v ∧ Q_own_no3 Z A h0 n0 v U'.heap L ∧ FrameEnd U o U' L ({ frames := 0, cells := 0, slots := 0, locals := 0 } : Room).cells ({ frames := 0, cells := 0, slots := 0, locals := 0 } : Room).slots) (s₁.setTop (entryFrame m #[(.ref (A 3))] 1))
  refine own_st (V := s₁.setTop (mkF m 0 #[.val (.ref (A 3))] [])) (fun t k => castTop (by first | (simp [entryFrame, mkF, argsToLocals, Value.category]; done) | rfl) k) ?_
  refine own_st (V := s₁.setTop (mkF m 1 #[.val (.ref (A 3))] [(.ref (A 3))])) (fun t k => XS.aloadN X0.here hx rfl (hb hby own_d1_0) rfl rfl k) ?_
  obtain ⟨T16, X16, e16, st16⟩ := getS2 X0 hx hZ hown (host := "") (Or.inl (hw _ (List.mem_of_getElem? (i := 23) rfl))) Via.refl e0 (own_S En 0 (i := 0) (n := "EQUAL") rfl) (g := (mkF m 1 #[.val (.ref (A 3))] [(.ref (A 3))])) rfl (hb hby own_d1_1)
  refine own_st (V := T16.setTop (mkF m 4 #[.val (.ref (A 3))] [(.ref (A 0)), (.ref (A 3))])) (fun t k => st16 _ k) ?_
  refine own_st (V := T16.setTop (mkF m 7 #[.val (.ref (A 3))] [])) (fun t k => Jvm.RoadKit.acmp (g := (mkF m 4 #[.val (.ref (A 3))] [(.ref (A 0)), (.ref (A 3))])) X16 hx rfl rfl rfl (pc0 := 4) (pc' := 7) (same := false) rfl (hb hby own_d1_4) rfl (decide_eq_false fun q => own_ne En 3 0 (i := 3) (n := "LESS_OR_EQUAL") (j := 0) (n' := "EQUAL") rfl rfl (by decide) (Value.ref.inj q)) (by decide) (by decide) k) ?_
  refine own_st (V := T16.setTop (mkF m 8 #[.val (.ref (A 3))] [(.ref (A 3))])) (fun t k => XS.aloadN X16.here hx rfl (hb hby own_d1_7) rfl rfl k) ?_
  obtain ⟨T17, X17, e17, st17⟩ := getS2 X16 hx hZ hown (host := "") (Or.inl (hw _ (List.mem_of_getElem? (i := 38) rfl))) Via.refl e16 (own_S En 1 (i := 1) (n := "NOT_EQUAL") rfl) (g := (mkF m 8 #[.val (.ref (A 3))] [(.ref (A 3))])) rfl (hb hby own_d1_8)
  refine own_st (V := T17.setTop (mkF m 11 #[.val (.ref (A 3))] [(.ref (A 1)), (.ref (A 3))])) (fun t k => st17 _ k) ?_
  refine own_st (V := T17.setTop (mkF m 14 #[.val (.ref (A 3))] [])) (fun t k => Jvm.RoadKit.acmp (g := (mkF m 11 #[.val (.ref (A 3))] [(.ref (A 1)), (.ref (A 3))])) X17 hx rfl rfl rfl (pc0 := 11) (pc' := 14) (same := false) rfl (hb hby own_d1_11) rfl (decide_eq_false fun q => own_ne En 3 1 (i := 3) (n := "LESS_OR_EQUAL") (j := 1) (n' := "NOT_EQUAL") rfl rfl (by decide) (Value.ref.inj q)) (by decide) (by decide) k) ?_
  refine own_st (V := T17.setTop (mkF m 15 #[.val (.ref (A 3))] [(.int (1 : Int32))])) (fun t k => XS.iconst X17.here hx rfl (hb hby own_d1_14) k) ?_
  refine own_st (V := T17.setTop (mkF m 19 #[.val (.ref (A 3))] [(.int (1 : Int32))])) (fun t k => XS.goto X17.here hx rfl (pc0 := 15) (pc' := 19) rfl (hb hby own_d1_15) (by decide) (by decide) k) ?_
  exact own_ret X17 hx hlk Bd.returns (by decide +kernel) (Or.inl ⟨rfl, by simp, _, rfl⟩) (hb hby own_d1_19) (by decide) (by decide) (by show Q_own_no3 Z A h0 n0 _ T17.heap _; rw [e17]; exact ⟨rfl, N0, rfl⟩)
def Q_own_ho3n (Z : State) (q1 : Int32) (A : Nat → Addr) (h0 : Heap) (n0 : Nat) (v : Option Value) (h : Heap) (L : List Loc) : Prop := v = some (.int (1 : Int32)) ∧ Fr n0 L ∧ h = h0
theorem own_d2_90 : decode prog_45_method_6_code 90 = .ok (.iload_n 1, 1) := by decide +kernel
theorem own_d2_91 : decode prog_45_method_6_code 91 = .ok (.ifCond .gt 7, 3) := by decide +kernel
theorem own_d2_94 : decode prog_45_method_6_code 94 = .ok (.iconst 1, 1) := by decide +kernel
theorem own_d2_95 : decode prog_45_method_6_code 95 = .ok (.goto 28, 3) := by decide +kernel
set_option maxRecDepth 65536 in
set_option maxHeartbeats 40000000 in
theorem own_ho3n (l : Launch) (Z : State) (a0 : Array Value) (hw : ∀ d ∈ tables_1, d.before a0 Z = true) (ws : List Jvm.Cond) (q1 : Int32) (A : Nat → Addr) (h0 : Heap) (n0 : Nat) (Z0 : n0 ≤ h0.size) (En : own_En Z h0 A) (hs : q1 < (0 : Int32)) :
    MetFree l (⟨"com/example/affirm_rows/affirmrows/rules/Comparison", "holds", "(I)Z"⟩ : MethodName) (head1 (Jvm.Cond.code (⟨"com/example/affirm_rows/affirmrows/rules/Comparison", "holds", "(I)Z"⟩ : MethodName) prog_45_method_6_code 2 (some .boolean) :: ws) ({ frames := 1, cells := 0, slots := 0, locals := 12 } : Room)) (fun a U => a = #[(.ref (A 3)), (.int q1)] ∧ Z.Warmed39 U.vm ∧ U.heap = h0) (fun _ _ _ _ _ => True) (fun _ U o U' => ∃ v L, o = .returned v ∧ Q_own_ho3n Z q1 A h0 n0 v U'.heap L ∧ FrameEnd U o U' L ({ frames := 1, cells := 0, slots := 0, locals := 12 } : Room).cells ({ frames := 1, cells := 0, slots := 0, locals := 12 } : Room).slots) := by
  refine MetFree.of_bodySF (plainFor_of_name own_pn_com_example_affirm_rows_affirmrows_rules_Comparison) hisR ?_
  intro p e s m args below meth c s₁ Bd hml0 hP hK
  obtain ⟨rfl, hZ, hh⟩ := hP
  have hx := Bd.exec
  have hby := Bd.bytes
  have hml : c.maxLocals = 2 := hml0
  have hown : s.vm.findClass "com/example/affirm_rows/affirmrows/rules/Comparison" = some m.cls := findClass_of_methodNamed Bd.named
  have hnm := (name_of_methodNamed Bd.named Bd.method).1
  have hlk : meth.locks = false := BodyLoose.notSynchronized Bd
  have X0 : Stand p l e ({ frames := 1, cells := 0, slots := 0, locals := 12 } : Room) s m #[(.ref (A 3)), (.int q1)] below meth c s₁ [] 0 0 := Stand.of_body Bd
  have e0 : s₁.heap = h0 := by rw [← hh, Bd.state]; rfl
  have N0 := Fr.nil n0
  show own_Go p e below #[(.ref (A 3)), (.int q1)] s (fun _ U o U' => ∃ v L, o = .returned v ∧ Q_own_ho3n Z q1 A h0 n0 v U'.heap L ∧ FrameEnd U o U' L ({ frames := 1, cells := 0, slots := 0, locals := 12 } : Room).cells ({ frames := 1, cells := 0, slots := 0, locals := 12 } : Room).slots) (s₁.setTop (entryFrame m #[(.ref (A 3)), (.int q1)] 2))
  refine own_st (V := s₁.setTop (mkF m 0 #[.val (.ref (A 3)), .val (.int q1)] [])) (fun t k => castTop (by first | (simp [entryFrame, mkF, argsToLocals, Value.category]; done) | rfl) k) ?_
  refine own_st (V := s₁.setTop (mkF m 1 #[.val (.ref (A 3)), .val (.int q1)] [(.ref (A 3))])) (fun t k => XS.aloadN X0.here hx rfl (hb hby own_d2_0) rfl rfl k) ?_
  obtain ⟨cq18, kq18, q18a, q18b, q18c⟩ := isOf hZ e0 (own_E En 3 (i := 3) (n := "LESS_OR_EQUAL") rfl)
  obtain ⟨_, _, ⟨T18, L18, k18, n18⟩, -, X18, ⟨Lc18, hQ18, l18, y18, z18⟩, st18⟩ := X0.virtualBackUp hx (x := (⟨"com/example/affirm_rows/affirmrows/rules/Comparison", "ordinal", "()I"⟩ : MethodName)) (y := (⟨"java/lang/Enum", "ordinal", "()I"⟩ : MethodName)) hown (mvT hZ (hw _ (List.mem_of_getElem? (i := 29) rfl))) (mvT hZ (hw _ (List.mem_of_getElem? (i := 30) rfl))) (mvT hZ (hw _ (List.mem_of_getElem? (i := 31) rfl))) (by decide) (mvT hZ (hw _ (List.mem_of_getElem? (i := 33) rfl))) (mvT hZ (hw _ (List.mem_of_getElem? (i := 32) rfl))) (backOf (W := 0) (own_ord3 l Z a0 hw [] A h0 n0 Z0 En ) hZ (hw _ (List.mem_of_getElem? (i := 35) rfl)) (hw _ (List.mem_of_getElem? (i := 34) rfl)) (by decide) (by decide)) q18a q18c (g := (mkF m 1 #[.val (.ref (A 3)), .val (.int q1)] [(.ref (A 3))])) rfl (by rw [hml]; rfl) (Steps.refl _) (argsL := []) (rest := []) (lenOf own_pd0 rfl) rfl (by show 2 * 0 + _ ≤ _; exact Nat.le_of_eq rfl) (hb hby own_d2_1) (fun _ _ => ⟨rfl, e0, (by decide : 0 + 0 ≤ _), (by decide : 0 + 0 ≤ _)⟩)
  dsimp only [Pt.U, Pt.locs, Pt.cells, Pt.slots] at X18 l18 y18 z18 st18 hQ18
  subst l18 y18 z18
  obtain ⟨rfl, N18q, e18⟩ := hQ18
  have N18 := Fr.app N0 N18q
  refine own_st (V := T18.setTop (mkF m 4 #[.val (.ref (A 3)), .val (.int q1)] [(.int (3 : Int32))])) (fun t k => st18.trans k) ?_
  refine own_st (V := T18.setTop (mkF m 90 #[.val (.ref (A 3)), .val (.int q1)] [])) (fun t k => XS.tswIn X18.here hx rfl (pc0 := 4) (pc' := 90) rfl (hb hby own_d2_4) rfl (by decide) (o := 86) rfl (by decide) rfl k) ?_
  refine own_st (V := T18.setTop (mkF m 91 #[.val (.ref (A 3)), .val (.int q1)] [(.int q1)])) (fun t k => XS.iloadN X18.here hx rfl (hb hby own_d2_90) rfl k) ?_
  refine own_st (V := T18.setTop (mkF m 94 #[.val (.ref (A 3)), .val (.int q1)] [])) (fun t k => XS.ifNo X18.here hx rfl (hb hby own_d2_91) rfl ((if0 _ _).trans (flt (own_n2 hs)).2.2.1) k) ?_
  refine own_st (V := T18.setTop (mkF m 95 #[.val (.ref (A 3)), .val (.int q1)] [(.int (1 : Int32))])) (fun t k => XS.iconst X18.here hx rfl (hb hby own_d2_94) k) ?_
  refine own_st (V := T18.setTop (mkF m 123 #[.val (.ref (A 3)), .val (.int q1)] [(.int (1 : Int32))])) (fun t k => XS.goto X18.here hx rfl (pc0 := 95) (pc' := 123) rfl (hb hby own_d2_95) (by decide) (by decide) k) ?_
  exact own_ret X18 hx hlk Bd.returns (by decide +kernel) (Or.inl ⟨rfl, by simp, _, rfl⟩) (hb hby own_d2_123) (by decide) (by decide) (by show Q_own_ho3n Z q1 A h0 n0 _ T18.heap _; rw [e18]; exact ⟨rfl, N18, rfl⟩)
def Q_own_ho3p (Z : State) (q1 : Int32) (A : Nat → Addr) (h0 : Heap) (n0 : Nat) (v : Option Value) (h : Heap) (L : List Loc) : Prop := v = some (.int (0 : Int32)) ∧ Fr n0 L ∧ h = h0
theorem own_d2_98 : decode prog_45_method_6_code 98 = .ok (.iconst 0, 1) := by decide +kernel
theorem own_d2_99 : decode prog_45_method_6_code 99 = .ok (.goto 24, 3) := by decide +kernel
set_option maxRecDepth 65536 in
set_option maxHeartbeats 40000000 in
theorem own_ho3p (l : Launch) (Z : State) (a0 : Array Value) (hw : ∀ d ∈ tables_1, d.before a0 Z = true) (ws : List Jvm.Cond) (q1 : Int32) (A : Nat → Addr) (h0 : Heap) (n0 : Nat) (Z0 : n0 ≤ h0.size) (En : own_En Z h0 A) (hs : (0 : Int32) < q1) :
    MetFree l (⟨"com/example/affirm_rows/affirmrows/rules/Comparison", "holds", "(I)Z"⟩ : MethodName) (head1 (Jvm.Cond.code (⟨"com/example/affirm_rows/affirmrows/rules/Comparison", "holds", "(I)Z"⟩ : MethodName) prog_45_method_6_code 2 (some .boolean) :: ws) ({ frames := 1, cells := 0, slots := 0, locals := 12 } : Room)) (fun a U => a = #[(.ref (A 3)), (.int q1)] ∧ Z.Warmed39 U.vm ∧ U.heap = h0) (fun _ _ _ _ _ => True) (fun _ U o U' => ∃ v L, o = .returned v ∧ Q_own_ho3p Z q1 A h0 n0 v U'.heap L ∧ FrameEnd U o U' L ({ frames := 1, cells := 0, slots := 0, locals := 12 } : Room).cells ({ frames := 1, cells := 0, slots := 0, locals := 12 } : Room).slots) := by
  refine MetFree.of_bodySF (plainFor_of_name own_pn_com_example_affirm_rows_affirmrows_rules_Comparison) hisR ?_
  intro p e s m args below meth c s₁ Bd hml0 hP hK
  obtain ⟨rfl, hZ, hh⟩ := hP
  have hx := Bd.exec
  have hby := Bd.bytes
  have hml : c.maxLocals = 2 := hml0
  have hown : s.vm.findClass "com/example/affirm_rows/affirmrows/rules/Comparison" = some m.cls := findClass_of_methodNamed Bd.named
  have hnm := (name_of_methodNamed Bd.named Bd.method).1
  have hlk : meth.locks = false := BodyLoose.notSynchronized Bd
  have X0 : Stand p l e ({ frames := 1, cells := 0, slots := 0, locals := 12 } : Room) s m #[(.ref (A 3)), (.int q1)] below meth c s₁ [] 0 0 := Stand.of_body Bd
  have e0 : s₁.heap = h0 := by rw [← hh, Bd.state]; rfl
  have N0 := Fr.nil n0
  show own_Go p e below #[(.ref (A 3)), (.int q1)] s (fun _ U o U' => ∃ v L, o = .returned v ∧ Q_own_ho3p Z q1 A h0 n0 v U'.heap L ∧ FrameEnd U o U' L ({ frames := 1, cells := 0, slots := 0, locals := 12 } : Room).cells ({ frames := 1, cells := 0, slots := 0, locals := 12 } : Room).slots) (s₁.setTop (entryFrame m #[(.ref (A 3)), (.int q1)] 2))
  refine own_st (V := s₁.setTop (mkF m 0 #[.val (.ref (A 3)), .val (.int q1)] [])) (fun t k => castTop (by first | (simp [entryFrame, mkF, argsToLocals, Value.category]; done) | rfl) k) ?_
  refine own_st (V := s₁.setTop (mkF m 1 #[.val (.ref (A 3)), .val (.int q1)] [(.ref (A 3))])) (fun t k => XS.aloadN X0.here hx rfl (hb hby own_d2_0) rfl rfl k) ?_
  obtain ⟨cq19, kq19, q19a, q19b, q19c⟩ := isOf hZ e0 (own_E En 3 (i := 3) (n := "LESS_OR_EQUAL") rfl)
  obtain ⟨_, _, ⟨T19, L19, k19, n19⟩, -, X19, ⟨Lc19, hQ19, l19, y19, z19⟩, st19⟩ := X0.virtualBackUp hx (x := (⟨"com/example/affirm_rows/affirmrows/rules/Comparison", "ordinal", "()I"⟩ : MethodName)) (y := (⟨"java/lang/Enum", "ordinal", "()I"⟩ : MethodName)) hown (mvT hZ (hw _ (List.mem_of_getElem? (i := 29) rfl))) (mvT hZ (hw _ (List.mem_of_getElem? (i := 30) rfl))) (mvT hZ (hw _ (List.mem_of_getElem? (i := 31) rfl))) (by decide) (mvT hZ (hw _ (List.mem_of_getElem? (i := 33) rfl))) (mvT hZ (hw _ (List.mem_of_getElem? (i := 32) rfl))) (backOf (W := 0) (own_ord3 l Z a0 hw [] A h0 n0 Z0 En ) hZ (hw _ (List.mem_of_getElem? (i := 35) rfl)) (hw _ (List.mem_of_getElem? (i := 34) rfl)) (by decide) (by decide)) q19a q19c (g := (mkF m 1 #[.val (.ref (A 3)), .val (.int q1)] [(.ref (A 3))])) rfl (by rw [hml]; rfl) (Steps.refl _) (argsL := []) (rest := []) (lenOf own_pd0 rfl) rfl (by show 2 * 0 + _ ≤ _; exact Nat.le_of_eq rfl) (hb hby own_d2_1) (fun _ _ => ⟨rfl, e0, (by decide : 0 + 0 ≤ _), (by decide : 0 + 0 ≤ _)⟩)
  dsimp only [Pt.U, Pt.locs, Pt.cells, Pt.slots] at X19 l19 y19 z19 st19 hQ19
  subst l19 y19 z19
  obtain ⟨rfl, N19q, e19⟩ := hQ19
  have N19 := Fr.app N0 N19q
  refine own_st (V := T19.setTop (mkF m 4 #[.val (.ref (A 3)), .val (.int q1)] [(.int (3 : Int32))])) (fun t k => st19.trans k) ?_
  refine own_st (V := T19.setTop (mkF m 90 #[.val (.ref (A 3)), .val (.int q1)] [])) (fun t k => XS.tswIn X19.here hx rfl (pc0 := 4) (pc' := 90) rfl (hb hby own_d2_4) rfl (by decide) (o := 86) rfl (by decide) rfl k) ?_
  refine own_st (V := T19.setTop (mkF m 91 #[.val (.ref (A 3)), .val (.int q1)] [(.int q1)])) (fun t k => XS.iloadN X19.here hx rfl (hb hby own_d2_90) rfl k) ?_
  refine own_st (V := T19.setTop (mkF m 98 #[.val (.ref (A 3)), .val (.int q1)] [])) (fun t k => XS.ifYes X19.here hx rfl (pc0 := 91) (pc' := 98) rfl (hb hby own_d2_91) rfl ((if0 _ _).trans (tlt hs).2.2.1) (by decide) (by decide) k) ?_
  refine own_st (V := T19.setTop (mkF m 99 #[.val (.ref (A 3)), .val (.int q1)] [(.int (0 : Int32))])) (fun t k => XS.iconst X19.here hx rfl (hb hby own_d2_98) k) ?_
  refine own_st (V := T19.setTop (mkF m 123 #[.val (.ref (A 3)), .val (.int q1)] [(.int (0 : Int32))])) (fun t k => XS.goto X19.here hx rfl (pc0 := 99) (pc' := 123) rfl (hb hby own_d2_99) (by decide) (by decide) k) ?_
  exact own_ret X19 hx hlk Bd.returns (by decide +kernel) (Or.inl ⟨rfl, by simp, _, rfl⟩) (hb hby own_d2_123) (by decide) (by decide) (by show Q_own_ho3p Z q1 A h0 n0 _ T19.heap _; rw [e19]; exact ⟨rfl, N19, rfl⟩)
def Q_own_ord4 (Z : State) (A : Nat → Addr) (h0 : Heap) (n0 : Nat) (v : Option Value) (h : Heap) (L : List Loc) : Prop := v = some (.int (4 : Int32)) ∧ Fr n0 L ∧ h = h0
set_option maxRecDepth 65536 in
set_option maxHeartbeats 40000000 in
theorem own_ord4 (l : Launch) (Z : State) (a0 : Array Value) (hw : ∀ d ∈ tables_1, d.before a0 Z = true) (ws : List Jvm.Cond) (A : Nat → Addr) (h0 : Heap) (n0 : Nat) (Z0 : n0 ≤ h0.size) (En : own_En Z h0 A) :
    MetFree l (⟨"java/lang/Enum", "ordinal", "()I"⟩ : MethodName) (head1 (Jvm.Cond.code (⟨"java/lang/Enum", "ordinal", "()I"⟩ : MethodName) jdk_37_method_2_code 1 (some .int) :: ws) ({ frames := 0, cells := 0, slots := 0, locals := 0 } : Room)) (fun a U => a = #[(.ref (A 4))] ∧ Z.Warmed39 U.vm ∧ U.heap = h0) (fun _ _ _ _ _ => True) (fun _ U o U' => ∃ v L, o = .returned v ∧ Q_own_ord4 Z A h0 n0 v U'.heap L ∧ FrameEnd U o U' L ({ frames := 0, cells := 0, slots := 0, locals := 0 } : Room).cells ({ frames := 0, cells := 0, slots := 0, locals := 0 } : Room).slots) := by
  refine MetFree.of_bodySF (plainFor_of_name own_pn_java_lang_Enum) hisR ?_
  intro p e s m args below meth c s₁ Bd hml0 hP hK
  obtain ⟨rfl, hZ, hh⟩ := hP
  have hx := Bd.exec
  have hby := Bd.bytes
  have hml : c.maxLocals = 1 := hml0
  have hown : s.vm.findClass "java/lang/Enum" = some m.cls := findClass_of_methodNamed Bd.named
  have hnm := (name_of_methodNamed Bd.named Bd.method).1
  have hlk : meth.locks = false := BodyLoose.notSynchronized Bd
  have X0 : Stand p l e ({ frames := 0, cells := 0, slots := 0, locals := 0 } : Room) s m #[(.ref (A 4))] below meth c s₁ [] 0 0 := Stand.of_body Bd
  have e0 : s₁.heap = h0 := by rw [← hh, Bd.state]; rfl
  have N0 := Fr.nil n0
  show own_Go p e below #[(.ref (A 4))] s (fun _ U o U' => ∃ v L, o = .returned v ∧ Q_own_ord4 Z A h0 n0 v U'.heap L ∧ FrameEnd U o U' L ({ frames := 0, cells := 0, slots := 0, locals := 0 } : Room).cells ({ frames := 0, cells := 0, slots := 0, locals := 0 } : Room).slots) (s₁.setTop (entryFrame m #[(.ref (A 4))] 1))
  refine own_st (V := s₁.setTop (mkF m 0 #[.val (.ref (A 4))] [])) (fun t k => castTop (by first | (simp [entryFrame, mkF, argsToLocals, Value.category]; done) | rfl) k) ?_
  refine own_st (V := s₁.setTop (mkF m 1 #[.val (.ref (A 4))] [(.ref (A 4))])) (fun t k => XS.aloadN X0.here hx rfl (hb hby own_d3_0) rfl rfl k) ?_
  obtain ⟨T20, X20, e20, st20⟩ := getF X0 hx hZ hown (host := "") (Or.inl (hw _ (List.mem_of_getElem? (i := 36) rfl))) Via.refl e0 (own_O En 4 (i := 4) (n := "GREATER") rfl) (g := (mkF m 1 #[.val (.ref (A 4))] [(.ref (A 4))])) rfl rfl (hb hby own_d3_1)
  refine own_st (V := T20.setTop (mkF m 4 #[.val (.ref (A 4))] [(.int (4 : Int32))])) (fun t k => st20 _ k) ?_
  exact own_ret X20 hx hlk Bd.returns rfl (Or.inl ⟨rfl, by simp, _, rfl⟩) (hb hby own_d3_4) (by decide) (by decide) (by show Q_own_ord4 Z A h0 n0 _ T20.heap _; rw [e20]; exact ⟨rfl, N0, rfl⟩)
def Q_own_no4 (Z : State) (A : Nat → Addr) (h0 : Heap) (n0 : Nat) (v : Option Value) (h : Heap) (L : List Loc) : Prop := v = some (.int (1 : Int32)) ∧ Fr n0 L ∧ h = h0
set_option maxRecDepth 65536 in
set_option maxHeartbeats 40000000 in
theorem own_no4 (l : Launch) (Z : State) (a0 : Array Value) (hw : ∀ d ∈ tables_1, d.before a0 Z = true) (ws : List Jvm.Cond) (A : Nat → Addr) (h0 : Heap) (n0 : Nat) (Z0 : n0 ≤ h0.size) (En : own_En Z h0 A) :
    MetFree l (⟨"com/example/affirm_rows/affirmrows/rules/Comparison", "needsOrder", "()Z"⟩ : MethodName) (head1 (Jvm.Cond.code (⟨"com/example/affirm_rows/affirmrows/rules/Comparison", "needsOrder", "()Z"⟩ : MethodName) prog_45_method_4_code 1 (some .boolean) :: ws) ({ frames := 0, cells := 0, slots := 0, locals := 0 } : Room)) (fun a U => a = #[(.ref (A 4))] ∧ Z.Warmed39 U.vm ∧ U.heap = h0) (fun _ _ _ _ _ => True) (fun _ U o U' => ∃ v L, o = .returned v ∧ Q_own_no4 Z A h0 n0 v U'.heap L ∧ FrameEnd U o U' L ({ frames := 0, cells := 0, slots := 0, locals := 0 } : Room).cells ({ frames := 0, cells := 0, slots := 0, locals := 0 } : Room).slots) := by
  refine MetFree.of_bodySF (plainFor_of_name own_pn_com_example_affirm_rows_affirmrows_rules_Comparison) hisR ?_
  intro p e s m args below meth c s₁ Bd hml0 hP hK
  obtain ⟨rfl, hZ, hh⟩ := hP
  have hx := Bd.exec
  have hby := Bd.bytes
  have hml : c.maxLocals = 1 := hml0
  have hown : s.vm.findClass "com/example/affirm_rows/affirmrows/rules/Comparison" = some m.cls := findClass_of_methodNamed Bd.named
  have hnm := (name_of_methodNamed Bd.named Bd.method).1
  have hlk : meth.locks = false := BodyLoose.notSynchronized Bd
  have X0 : Stand p l e ({ frames := 0, cells := 0, slots := 0, locals := 0 } : Room) s m #[(.ref (A 4))] below meth c s₁ [] 0 0 := Stand.of_body Bd
  have e0 : s₁.heap = h0 := by rw [← hh, Bd.state]; rfl
  have N0 := Fr.nil n0
  show own_Go p e below #[(.ref (A 4))] s (fun _ U o U' => ∃ v L, o = .returned v ∧ Q_own_no4 Z A h0 n0 v U'.heap L ∧ FrameEnd U o U' L ({ frames := 0, cells := 0, slots := 0, locals := 0 } : Room).cells ({ frames := 0, cells := 0, slots := 0, locals := 0 } : Room).slots) (s₁.setTop (entryFrame m #[(.ref (A 4))] 1))
  refine own_st (V := s₁.setTop (mkF m 0 #[.val (.ref (A 4))] [])) (fun t k => castTop (by first | (simp [entryFrame, mkF, argsToLocals, Value.category]; done) | rfl) k) ?_
  refine own_st (V := s₁.setTop (mkF m 1 #[.val (.ref (A 4))] [(.ref (A 4))])) (fun t k => XS.aloadN X0.here hx rfl (hb hby own_d1_0) rfl rfl k) ?_
  obtain ⟨T21, X21, e21, st21⟩ := getS2 X0 hx hZ hown (host := "") (Or.inl (hw _ (List.mem_of_getElem? (i := 23) rfl))) Via.refl e0 (own_S En 0 (i := 0) (n := "EQUAL") rfl) (g := (mkF m 1 #[.val (.ref (A 4))] [(.ref (A 4))])) rfl (hb hby own_d1_1)
  refine own_st (V := T21.setTop (mkF m 4 #[.val (.ref (A 4))] [(.ref (A 0)), (.ref (A 4))])) (fun t k => st21 _ k) ?_
  refine own_st (V := T21.setTop (mkF m 7 #[.val (.ref (A 4))] [])) (fun t k => Jvm.RoadKit.acmp (g := (mkF m 4 #[.val (.ref (A 4))] [(.ref (A 0)), (.ref (A 4))])) X21 hx rfl rfl rfl (pc0 := 4) (pc' := 7) (same := false) rfl (hb hby own_d1_4) rfl (decide_eq_false fun q => own_ne En 4 0 (i := 4) (n := "GREATER") (j := 0) (n' := "EQUAL") rfl rfl (by decide) (Value.ref.inj q)) (by decide) (by decide) k) ?_
  refine own_st (V := T21.setTop (mkF m 8 #[.val (.ref (A 4))] [(.ref (A 4))])) (fun t k => XS.aloadN X21.here hx rfl (hb hby own_d1_7) rfl rfl k) ?_
  obtain ⟨T22, X22, e22, st22⟩ := getS2 X21 hx hZ hown (host := "") (Or.inl (hw _ (List.mem_of_getElem? (i := 38) rfl))) Via.refl e21 (own_S En 1 (i := 1) (n := "NOT_EQUAL") rfl) (g := (mkF m 8 #[.val (.ref (A 4))] [(.ref (A 4))])) rfl (hb hby own_d1_8)
  refine own_st (V := T22.setTop (mkF m 11 #[.val (.ref (A 4))] [(.ref (A 1)), (.ref (A 4))])) (fun t k => st22 _ k) ?_
  refine own_st (V := T22.setTop (mkF m 14 #[.val (.ref (A 4))] [])) (fun t k => Jvm.RoadKit.acmp (g := (mkF m 11 #[.val (.ref (A 4))] [(.ref (A 1)), (.ref (A 4))])) X22 hx rfl rfl rfl (pc0 := 11) (pc' := 14) (same := false) rfl (hb hby own_d1_11) rfl (decide_eq_false fun q => own_ne En 4 1 (i := 4) (n := "GREATER") (j := 1) (n' := "NOT_EQUAL") rfl rfl (by decide) (Value.ref.inj q)) (by decide) (by decide) k) ?_
  refine own_st (V := T22.setTop (mkF m 15 #[.val (.ref (A 4))] [(.int (1 : Int32))])) (fun t k => XS.iconst X22.here hx rfl (hb hby own_d1_14) k) ?_
  refine own_st (V := T22.setTop (mkF m 19 #[.val (.ref (A 4))] [(.int (1 : Int32))])) (fun t k => XS.goto X22.here hx rfl (pc0 := 15) (pc' := 19) rfl (hb hby own_d1_15) (by decide) (by decide) k) ?_
  exact own_ret X22 hx hlk Bd.returns (by decide +kernel) (Or.inl ⟨rfl, by simp, _, rfl⟩) (hb hby own_d1_19) (by decide) (by decide) (by show Q_own_no4 Z A h0 n0 _ T22.heap _; rw [e22]; exact ⟨rfl, N0, rfl⟩)
def Q_own_ho4n (Z : State) (q1 : Int32) (A : Nat → Addr) (h0 : Heap) (n0 : Nat) (v : Option Value) (h : Heap) (L : List Loc) : Prop := v = some (.int (0 : Int32)) ∧ Fr n0 L ∧ h = h0
theorem own_d2_102 : decode prog_45_method_6_code 102 = .ok (.iload_n 1, 1) := by decide +kernel
theorem own_d2_103 : decode prog_45_method_6_code 103 = .ok (.ifCond .le 7, 3) := by decide +kernel
theorem own_d2_110 : decode prog_45_method_6_code 110 = .ok (.iconst 0, 1) := by decide +kernel
theorem own_d2_111 : decode prog_45_method_6_code 111 = .ok (.goto 12, 3) := by decide +kernel
set_option maxRecDepth 65536 in
set_option maxHeartbeats 40000000 in
theorem own_ho4n (l : Launch) (Z : State) (a0 : Array Value) (hw : ∀ d ∈ tables_1, d.before a0 Z = true) (ws : List Jvm.Cond) (q1 : Int32) (A : Nat → Addr) (h0 : Heap) (n0 : Nat) (Z0 : n0 ≤ h0.size) (En : own_En Z h0 A) (hs : q1 < (0 : Int32)) :
    MetFree l (⟨"com/example/affirm_rows/affirmrows/rules/Comparison", "holds", "(I)Z"⟩ : MethodName) (head1 (Jvm.Cond.code (⟨"com/example/affirm_rows/affirmrows/rules/Comparison", "holds", "(I)Z"⟩ : MethodName) prog_45_method_6_code 2 (some .boolean) :: ws) ({ frames := 1, cells := 0, slots := 0, locals := 12 } : Room)) (fun a U => a = #[(.ref (A 4)), (.int q1)] ∧ Z.Warmed39 U.vm ∧ U.heap = h0) (fun _ _ _ _ _ => True) (fun _ U o U' => ∃ v L, o = .returned v ∧ Q_own_ho4n Z q1 A h0 n0 v U'.heap L ∧ FrameEnd U o U' L ({ frames := 1, cells := 0, slots := 0, locals := 12 } : Room).cells ({ frames := 1, cells := 0, slots := 0, locals := 12 } : Room).slots) := by
  refine MetFree.of_bodySF (plainFor_of_name own_pn_com_example_affirm_rows_affirmrows_rules_Comparison) hisR ?_
  intro p e s m args below meth c s₁ Bd hml0 hP hK
  obtain ⟨rfl, hZ, hh⟩ := hP
  have hx := Bd.exec
  have hby := Bd.bytes
  have hml : c.maxLocals = 2 := hml0
  have hown : s.vm.findClass "com/example/affirm_rows/affirmrows/rules/Comparison" = some m.cls := findClass_of_methodNamed Bd.named
  have hnm := (name_of_methodNamed Bd.named Bd.method).1
  have hlk : meth.locks = false := BodyLoose.notSynchronized Bd
  have X0 : Stand p l e ({ frames := 1, cells := 0, slots := 0, locals := 12 } : Room) s m #[(.ref (A 4)), (.int q1)] below meth c s₁ [] 0 0 := Stand.of_body Bd
  have e0 : s₁.heap = h0 := by rw [← hh, Bd.state]; rfl
  have N0 := Fr.nil n0
  show own_Go p e below #[(.ref (A 4)), (.int q1)] s (fun _ U o U' => ∃ v L, o = .returned v ∧ Q_own_ho4n Z q1 A h0 n0 v U'.heap L ∧ FrameEnd U o U' L ({ frames := 1, cells := 0, slots := 0, locals := 12 } : Room).cells ({ frames := 1, cells := 0, slots := 0, locals := 12 } : Room).slots) (s₁.setTop (entryFrame m #[(.ref (A 4)), (.int q1)] 2))
  refine own_st (V := s₁.setTop (mkF m 0 #[.val (.ref (A 4)), .val (.int q1)] [])) (fun t k => castTop (by first | (simp [entryFrame, mkF, argsToLocals, Value.category]; done) | rfl) k) ?_
  refine own_st (V := s₁.setTop (mkF m 1 #[.val (.ref (A 4)), .val (.int q1)] [(.ref (A 4))])) (fun t k => XS.aloadN X0.here hx rfl (hb hby own_d2_0) rfl rfl k) ?_
  obtain ⟨cq23, kq23, q23a, q23b, q23c⟩ := isOf hZ e0 (own_E En 4 (i := 4) (n := "GREATER") rfl)
  obtain ⟨_, _, ⟨T23, L23, k23, n23⟩, -, X23, ⟨Lc23, hQ23, l23, y23, z23⟩, st23⟩ := X0.virtualBackUp hx (x := (⟨"com/example/affirm_rows/affirmrows/rules/Comparison", "ordinal", "()I"⟩ : MethodName)) (y := (⟨"java/lang/Enum", "ordinal", "()I"⟩ : MethodName)) hown (mvT hZ (hw _ (List.mem_of_getElem? (i := 29) rfl))) (mvT hZ (hw _ (List.mem_of_getElem? (i := 30) rfl))) (mvT hZ (hw _ (List.mem_of_getElem? (i := 31) rfl))) (by decide) (mvT hZ (hw _ (List.mem_of_getElem? (i := 33) rfl))) (mvT hZ (hw _ (List.mem_of_getElem? (i := 32) rfl))) (backOf (W := 0) (own_ord4 l Z a0 hw [] A h0 n0 Z0 En ) hZ (hw _ (List.mem_of_getElem? (i := 35) rfl)) (hw _ (List.mem_of_getElem? (i := 34) rfl)) (by decide) (by decide)) q23a q23c (g := (mkF m 1 #[.val (.ref (A 4)), .val (.int q1)] [(.ref (A 4))])) rfl (by rw [hml]; rfl) (Steps.refl _) (argsL := []) (rest := []) (lenOf own_pd0 rfl) rfl (by show 2 * 0 + _ ≤ _; exact Nat.le_of_eq rfl) (hb hby own_d2_1) (fun _ _ => ⟨rfl, e0, (by decide : 0 + 0 ≤ _), (by decide : 0 + 0 ≤ _)⟩)
  dsimp only [Pt.U, Pt.locs, Pt.cells, Pt.slots] at X23 l23 y23 z23 st23 hQ23
  subst l23 y23 z23
  obtain ⟨rfl, N23q, e23⟩ := hQ23
  have N23 := Fr.app N0 N23q
  refine own_st (V := T23.setTop (mkF m 4 #[.val (.ref (A 4)), .val (.int q1)] [(.int (4 : Int32))])) (fun t k => st23.trans k) ?_
  refine own_st (V := T23.setTop (mkF m 102 #[.val (.ref (A 4)), .val (.int q1)] [])) (fun t k => XS.tswIn X23.here hx rfl (pc0 := 4) (pc' := 102) rfl (hb hby own_d2_4) rfl (by decide) (o := 98) rfl (by decide) rfl k) ?_
  refine own_st (V := T23.setTop (mkF m 103 #[.val (.ref (A 4)), .val (.int q1)] [(.int q1)])) (fun t k => XS.iloadN X23.here hx rfl (hb hby own_d2_102) rfl k) ?_
  refine own_st (V := T23.setTop (mkF m 110 #[.val (.ref (A 4)), .val (.int q1)] [])) (fun t k => XS.ifYes X23.here hx rfl (pc0 := 103) (pc' := 110) rfl (hb hby own_d2_103) rfl ((if0 _ _).trans (flt (own_n2 hs)).2.2.2) (by decide) (by decide) k) ?_
  refine own_st (V := T23.setTop (mkF m 111 #[.val (.ref (A 4)), .val (.int q1)] [(.int (0 : Int32))])) (fun t k => XS.iconst X23.here hx rfl (hb hby own_d2_110) k) ?_
  refine own_st (V := T23.setTop (mkF m 123 #[.val (.ref (A 4)), .val (.int q1)] [(.int (0 : Int32))])) (fun t k => XS.goto X23.here hx rfl (pc0 := 111) (pc' := 123) rfl (hb hby own_d2_111) (by decide) (by decide) k) ?_
  exact own_ret X23 hx hlk Bd.returns (by decide +kernel) (Or.inl ⟨rfl, by simp, _, rfl⟩) (hb hby own_d2_123) (by decide) (by decide) (by show Q_own_ho4n Z q1 A h0 n0 _ T23.heap _; rw [e23]; exact ⟨rfl, N23, rfl⟩)
def Q_own_ho4p (Z : State) (q1 : Int32) (A : Nat → Addr) (h0 : Heap) (n0 : Nat) (v : Option Value) (h : Heap) (L : List Loc) : Prop := v = some (.int (1 : Int32)) ∧ Fr n0 L ∧ h = h0
theorem own_d2_106 : decode prog_45_method_6_code 106 = .ok (.iconst 1, 1) := by decide +kernel
theorem own_d2_107 : decode prog_45_method_6_code 107 = .ok (.goto 16, 3) := by decide +kernel
set_option maxRecDepth 65536 in
set_option maxHeartbeats 40000000 in
theorem own_ho4p (l : Launch) (Z : State) (a0 : Array Value) (hw : ∀ d ∈ tables_1, d.before a0 Z = true) (ws : List Jvm.Cond) (q1 : Int32) (A : Nat → Addr) (h0 : Heap) (n0 : Nat) (Z0 : n0 ≤ h0.size) (En : own_En Z h0 A) (hs : (0 : Int32) < q1) :
    MetFree l (⟨"com/example/affirm_rows/affirmrows/rules/Comparison", "holds", "(I)Z"⟩ : MethodName) (head1 (Jvm.Cond.code (⟨"com/example/affirm_rows/affirmrows/rules/Comparison", "holds", "(I)Z"⟩ : MethodName) prog_45_method_6_code 2 (some .boolean) :: ws) ({ frames := 1, cells := 0, slots := 0, locals := 12 } : Room)) (fun a U => a = #[(.ref (A 4)), (.int q1)] ∧ Z.Warmed39 U.vm ∧ U.heap = h0) (fun _ _ _ _ _ => True) (fun _ U o U' => ∃ v L, o = .returned v ∧ Q_own_ho4p Z q1 A h0 n0 v U'.heap L ∧ FrameEnd U o U' L ({ frames := 1, cells := 0, slots := 0, locals := 12 } : Room).cells ({ frames := 1, cells := 0, slots := 0, locals := 12 } : Room).slots) := by
  refine MetFree.of_bodySF (plainFor_of_name own_pn_com_example_affirm_rows_affirmrows_rules_Comparison) hisR ?_
  intro p e s m args below meth c s₁ Bd hml0 hP hK
  obtain ⟨rfl, hZ, hh⟩ := hP
  have hx := Bd.exec
  have hby := Bd.bytes
  have hml : c.maxLocals = 2 := hml0
  have hown : s.vm.findClass "com/example/affirm_rows/affirmrows/rules/Comparison" = some m.cls := findClass_of_methodNamed Bd.named
  have hnm := (name_of_methodNamed Bd.named Bd.method).1
  have hlk : meth.locks = false := BodyLoose.notSynchronized Bd
  have X0 : Stand p l e ({ frames := 1, cells := 0, slots := 0, locals := 12 } : Room) s m #[(.ref (A 4)), (.int q1)] below meth c s₁ [] 0 0 := Stand.of_body Bd
  have e0 : s₁.heap = h0 := by rw [← hh, Bd.state]; rfl
  have N0 := Fr.nil n0
  show own_Go p e below #[(.ref (A 4)), (.int q1)] s (fun _ U o U' => ∃ v L, o = .returned v ∧ Q_own_ho4p Z q1 A h0 n0 v U'.heap L ∧ FrameEnd U o U' L ({ frames := 1, cells := 0, slots := 0, locals := 12 } : Room).cells ({ frames := 1, cells := 0, slots := 0, locals := 12 } : Room).slots) (s₁.setTop (entryFrame m #[(.ref (A 4)), (.int q1)] 2))
  refine own_st (V := s₁.setTop (mkF m 0 #[.val (.ref (A 4)), .val (.int q1)] [])) (fun t k => castTop (by first | (simp [entryFrame, mkF, argsToLocals, Value.category]; done) | rfl) k) ?_
  refine own_st (V := s₁.setTop (mkF m 1 #[.val (.ref (A 4)), .val (.int q1)] [(.ref (A 4))])) (fun t k => XS.aloadN X0.here hx rfl (hb hby own_d2_0) rfl rfl k) ?_
  obtain ⟨cq24, kq24, q24a, q24b, q24c⟩ := isOf hZ e0 (own_E En 4 (i := 4) (n := "GREATER") rfl)
  obtain ⟨_, _, ⟨T24, L24, k24, n24⟩, -, X24, ⟨Lc24, hQ24, l24, y24, z24⟩, st24⟩ := X0.virtualBackUp hx (x := (⟨"com/example/affirm_rows/affirmrows/rules/Comparison", "ordinal", "()I"⟩ : MethodName)) (y := (⟨"java/lang/Enum", "ordinal", "()I"⟩ : MethodName)) hown (mvT hZ (hw _ (List.mem_of_getElem? (i := 29) rfl))) (mvT hZ (hw _ (List.mem_of_getElem? (i := 30) rfl))) (mvT hZ (hw _ (List.mem_of_getElem? (i := 31) rfl))) (by decide) (mvT hZ (hw _ (List.mem_of_getElem? (i := 33) rfl))) (mvT hZ (hw _ (List.mem_of_getElem? (i := 32) rfl))) (backOf (W := 0) (own_ord4 l Z a0 hw [] A h0 n0 Z0 En ) hZ (hw _ (List.mem_of_getElem? (i := 35) rfl)) (hw _ (List.mem_of_getElem? (i := 34) rfl)) (by decide) (by decide)) q24a q24c (g := (mkF m 1 #[.val (.ref (A 4)), .val (.int q1)] [(.ref (A 4))])) rfl (by rw [hml]; rfl) (Steps.refl _) (argsL := []) (rest := []) (lenOf own_pd0 rfl) rfl (by show 2 * 0 + _ ≤ _; exact Nat.le_of_eq rfl) (hb hby own_d2_1) (fun _ _ => ⟨rfl, e0, (by decide : 0 + 0 ≤ _), (by decide : 0 + 0 ≤ _)⟩)
  dsimp only [Pt.U, Pt.locs, Pt.cells, Pt.slots] at X24 l24 y24 z24 st24 hQ24
  subst l24 y24 z24
  obtain ⟨rfl, N24q, e24⟩ := hQ24
  have N24 := Fr.app N0 N24q
  refine own_st (V := T24.setTop (mkF m 4 #[.val (.ref (A 4)), .val (.int q1)] [(.int (4 : Int32))])) (fun t k => st24.trans k) ?_
  refine own_st (V := T24.setTop (mkF m 102 #[.val (.ref (A 4)), .val (.int q1)] [])) (fun t k => XS.tswIn X24.here hx rfl (pc0 := 4) (pc' := 102) rfl (hb hby own_d2_4) rfl (by decide) (o := 98) rfl (by decide) rfl k) ?_
  refine own_st (V := T24.setTop (mkF m 103 #[.val (.ref (A 4)), .val (.int q1)] [(.int q1)])) (fun t k => XS.iloadN X24.here hx rfl (hb hby own_d2_102) rfl k) ?_
  refine own_st (V := T24.setTop (mkF m 106 #[.val (.ref (A 4)), .val (.int q1)] [])) (fun t k => XS.ifNo X24.here hx rfl (hb hby own_d2_103) rfl ((if0 _ _).trans (tlt hs).2.2.2) k) ?_
  refine own_st (V := T24.setTop (mkF m 107 #[.val (.ref (A 4)), .val (.int q1)] [(.int (1 : Int32))])) (fun t k => XS.iconst X24.here hx rfl (hb hby own_d2_106) k) ?_
  refine own_st (V := T24.setTop (mkF m 123 #[.val (.ref (A 4)), .val (.int q1)] [(.int (1 : Int32))])) (fun t k => XS.goto X24.here hx rfl (pc0 := 107) (pc' := 123) rfl (hb hby own_d2_107) (by decide) (by decide) k) ?_
  exact own_ret X24 hx hlk Bd.returns (by decide +kernel) (Or.inl ⟨rfl, by simp, _, rfl⟩) (hb hby own_d2_123) (by decide) (by decide) (by show Q_own_ho4p Z q1 A h0 n0 _ T24.heap _; rw [e24]; exact ⟨rfl, N24, rfl⟩)
def Q_own_ord5 (Z : State) (A : Nat → Addr) (h0 : Heap) (n0 : Nat) (v : Option Value) (h : Heap) (L : List Loc) : Prop := v = some (.int (5 : Int32)) ∧ Fr n0 L ∧ h = h0
set_option maxRecDepth 65536 in
set_option maxHeartbeats 40000000 in
theorem own_ord5 (l : Launch) (Z : State) (a0 : Array Value) (hw : ∀ d ∈ tables_1, d.before a0 Z = true) (ws : List Jvm.Cond) (A : Nat → Addr) (h0 : Heap) (n0 : Nat) (Z0 : n0 ≤ h0.size) (En : own_En Z h0 A) :
    MetFree l (⟨"java/lang/Enum", "ordinal", "()I"⟩ : MethodName) (head1 (Jvm.Cond.code (⟨"java/lang/Enum", "ordinal", "()I"⟩ : MethodName) jdk_37_method_2_code 1 (some .int) :: ws) ({ frames := 0, cells := 0, slots := 0, locals := 0 } : Room)) (fun a U => a = #[(.ref (A 5))] ∧ Z.Warmed39 U.vm ∧ U.heap = h0) (fun _ _ _ _ _ => True) (fun _ U o U' => ∃ v L, o = .returned v ∧ Q_own_ord5 Z A h0 n0 v U'.heap L ∧ FrameEnd U o U' L ({ frames := 0, cells := 0, slots := 0, locals := 0 } : Room).cells ({ frames := 0, cells := 0, slots := 0, locals := 0 } : Room).slots) := by
  refine MetFree.of_bodySF (plainFor_of_name own_pn_java_lang_Enum) hisR ?_
  intro p e s m args below meth c s₁ Bd hml0 hP hK
  obtain ⟨rfl, hZ, hh⟩ := hP
  have hx := Bd.exec
  have hby := Bd.bytes
  have hml : c.maxLocals = 1 := hml0
  have hown : s.vm.findClass "java/lang/Enum" = some m.cls := findClass_of_methodNamed Bd.named
  have hnm := (name_of_methodNamed Bd.named Bd.method).1
  have hlk : meth.locks = false := BodyLoose.notSynchronized Bd
  have X0 : Stand p l e ({ frames := 0, cells := 0, slots := 0, locals := 0 } : Room) s m #[(.ref (A 5))] below meth c s₁ [] 0 0 := Stand.of_body Bd
  have e0 : s₁.heap = h0 := by rw [← hh, Bd.state]; rfl
  have N0 := Fr.nil n0
  show own_Go p e below #[(.ref (A 5))] s (fun _ U o U' => ∃ v L, o = .returned v ∧ Q_own_ord5 Z A h0 n0 v U'.heap L ∧ FrameEnd U o U' L ({ frames := 0, cells := 0, slots := 0, locals := 0 } : Room).cells ({ frames := 0, cells := 0, slots := 0, locals := 0 } : Room).slots) (s₁.setTop (entryFrame m #[(.ref (A 5))] 1))
  refine own_st (V := s₁.setTop (mkF m 0 #[.val (.ref (A 5))] [])) (fun t k => castTop (by first | (simp [entryFrame, mkF, argsToLocals, Value.category]; done) | rfl) k) ?_
  refine own_st (V := s₁.setTop (mkF m 1 #[.val (.ref (A 5))] [(.ref (A 5))])) (fun t k => XS.aloadN X0.here hx rfl (hb hby own_d3_0) rfl rfl k) ?_
  obtain ⟨T25, X25, e25, st25⟩ := getF X0 hx hZ hown (host := "") (Or.inl (hw _ (List.mem_of_getElem? (i := 36) rfl))) Via.refl e0 (own_O En 5 (i := 5) (n := "GREATER_OR_EQUAL") rfl) (g := (mkF m 1 #[.val (.ref (A 5))] [(.ref (A 5))])) rfl rfl (hb hby own_d3_1)
  refine own_st (V := T25.setTop (mkF m 4 #[.val (.ref (A 5))] [(.int (5 : Int32))])) (fun t k => st25 _ k) ?_
  exact own_ret X25 hx hlk Bd.returns rfl (Or.inl ⟨rfl, by simp, _, rfl⟩) (hb hby own_d3_4) (by decide) (by decide) (by show Q_own_ord5 Z A h0 n0 _ T25.heap _; rw [e25]; exact ⟨rfl, N0, rfl⟩)
def Q_own_no5 (Z : State) (A : Nat → Addr) (h0 : Heap) (n0 : Nat) (v : Option Value) (h : Heap) (L : List Loc) : Prop := v = some (.int (1 : Int32)) ∧ Fr n0 L ∧ h = h0
set_option maxRecDepth 65536 in
set_option maxHeartbeats 40000000 in
theorem own_no5 (l : Launch) (Z : State) (a0 : Array Value) (hw : ∀ d ∈ tables_1, d.before a0 Z = true) (ws : List Jvm.Cond) (A : Nat → Addr) (h0 : Heap) (n0 : Nat) (Z0 : n0 ≤ h0.size) (En : own_En Z h0 A) :
    MetFree l (⟨"com/example/affirm_rows/affirmrows/rules/Comparison", "needsOrder", "()Z"⟩ : MethodName) (head1 (Jvm.Cond.code (⟨"com/example/affirm_rows/affirmrows/rules/Comparison", "needsOrder", "()Z"⟩ : MethodName) prog_45_method_4_code 1 (some .boolean) :: ws) ({ frames := 0, cells := 0, slots := 0, locals := 0 } : Room)) (fun a U => a = #[(.ref (A 5))] ∧ Z.Warmed39 U.vm ∧ U.heap = h0) (fun _ _ _ _ _ => True) (fun _ U o U' => ∃ v L, o = .returned v ∧ Q_own_no5 Z A h0 n0 v U'.heap L ∧ FrameEnd U o U' L ({ frames := 0, cells := 0, slots := 0, locals := 0 } : Room).cells ({ frames := 0, cells := 0, slots := 0, locals := 0 } : Room).slots) := by
  refine MetFree.of_bodySF (plainFor_of_name own_pn_com_example_affirm_rows_affirmrows_rules_Comparison) hisR ?_
  intro p e s m args below meth c s₁ Bd hml0 hP hK
  obtain ⟨rfl, hZ, hh⟩ := hP
  have hx := Bd.exec
  have hby := Bd.bytes
  have hml : c.maxLocals = 1 := hml0
  have hown : s.vm.findClass "com/example/affirm_rows/affirmrows/rules/Comparison" = some m.cls := findClass_of_methodNamed Bd.named
  have hnm := (name_of_methodNamed Bd.named Bd.method).1
  have hlk : meth.locks = false := BodyLoose.notSynchronized Bd
  have X0 : Stand p l e ({ frames := 0, cells := 0, slots := 0, locals := 0 } : Room) s m #[(.ref (A 5))] below meth c s₁ [] 0 0 := Stand.of_body Bd
  have e0 : s₁.heap = h0 := by rw [← hh, Bd.state]; rfl
  have N0 := Fr.nil n0
  show own_Go p e below #[(.ref (A 5))] s (fun _ U o U' => ∃ v L, o = .returned v ∧ Q_own_no5 Z A h0 n0 v U'.heap L ∧ FrameEnd U o U' L ({ frames := 0, cells := 0, slots := 0, locals := 0 } : Room).cells ({ frames := 0, cells := 0, slots := 0, locals := 0 } : Room).slots) (s₁.setTop (entryFrame m #[(.ref (A 5))] 1))
  refine own_st (V := s₁.setTop (mkF m 0 #[.val (.ref (A 5))] [])) (fun t k => castTop (by first | (simp [entryFrame, mkF, argsToLocals, Value.category]; done) | rfl) k) ?_
  refine own_st (V := s₁.setTop (mkF m 1 #[.val (.ref (A 5))] [(.ref (A 5))])) (fun t k => XS.aloadN X0.here hx rfl (hb hby own_d1_0) rfl rfl k) ?_
  obtain ⟨T26, X26, e26, st26⟩ := getS2 X0 hx hZ hown (host := "") (Or.inl (hw _ (List.mem_of_getElem? (i := 23) rfl))) Via.refl e0 (own_S En 0 (i := 0) (n := "EQUAL") rfl) (g := (mkF m 1 #[.val (.ref (A 5))] [(.ref (A 5))])) rfl (hb hby own_d1_1)
  refine own_st (V := T26.setTop (mkF m 4 #[.val (.ref (A 5))] [(.ref (A 0)), (.ref (A 5))])) (fun t k => st26 _ k) ?_
  refine own_st (V := T26.setTop (mkF m 7 #[.val (.ref (A 5))] [])) (fun t k => Jvm.RoadKit.acmp (g := (mkF m 4 #[.val (.ref (A 5))] [(.ref (A 0)), (.ref (A 5))])) X26 hx rfl rfl rfl (pc0 := 4) (pc' := 7) (same := false) rfl (hb hby own_d1_4) rfl (decide_eq_false fun q => own_ne En 5 0 (i := 5) (n := "GREATER_OR_EQUAL") (j := 0) (n' := "EQUAL") rfl rfl (by decide) (Value.ref.inj q)) (by decide) (by decide) k) ?_
  refine own_st (V := T26.setTop (mkF m 8 #[.val (.ref (A 5))] [(.ref (A 5))])) (fun t k => XS.aloadN X26.here hx rfl (hb hby own_d1_7) rfl rfl k) ?_
  obtain ⟨T27, X27, e27, st27⟩ := getS2 X26 hx hZ hown (host := "") (Or.inl (hw _ (List.mem_of_getElem? (i := 38) rfl))) Via.refl e26 (own_S En 1 (i := 1) (n := "NOT_EQUAL") rfl) (g := (mkF m 8 #[.val (.ref (A 5))] [(.ref (A 5))])) rfl (hb hby own_d1_8)
  refine own_st (V := T27.setTop (mkF m 11 #[.val (.ref (A 5))] [(.ref (A 1)), (.ref (A 5))])) (fun t k => st27 _ k) ?_
  refine own_st (V := T27.setTop (mkF m 14 #[.val (.ref (A 5))] [])) (fun t k => Jvm.RoadKit.acmp (g := (mkF m 11 #[.val (.ref (A 5))] [(.ref (A 1)), (.ref (A 5))])) X27 hx rfl rfl rfl (pc0 := 11) (pc' := 14) (same := false) rfl (hb hby own_d1_11) rfl (decide_eq_false fun q => own_ne En 5 1 (i := 5) (n := "GREATER_OR_EQUAL") (j := 1) (n' := "NOT_EQUAL") rfl rfl (by decide) (Value.ref.inj q)) (by decide) (by decide) k) ?_
  refine own_st (V := T27.setTop (mkF m 15 #[.val (.ref (A 5))] [(.int (1 : Int32))])) (fun t k => XS.iconst X27.here hx rfl (hb hby own_d1_14) k) ?_
  refine own_st (V := T27.setTop (mkF m 19 #[.val (.ref (A 5))] [(.int (1 : Int32))])) (fun t k => XS.goto X27.here hx rfl (pc0 := 15) (pc' := 19) rfl (hb hby own_d1_15) (by decide) (by decide) k) ?_
  exact own_ret X27 hx hlk Bd.returns (by decide +kernel) (Or.inl ⟨rfl, by simp, _, rfl⟩) (hb hby own_d1_19) (by decide) (by decide) (by show Q_own_no5 Z A h0 n0 _ T27.heap _; rw [e27]; exact ⟨rfl, N0, rfl⟩)
def Q_own_ho5n (Z : State) (q1 : Int32) (A : Nat → Addr) (h0 : Heap) (n0 : Nat) (v : Option Value) (h : Heap) (L : List Loc) : Prop := v = some (.int (0 : Int32)) ∧ Fr n0 L ∧ h = h0
theorem own_d2_114 : decode prog_45_method_6_code 114 = .ok (.iload_n 1, 1) := by decide +kernel
theorem own_d2_115 : decode prog_45_method_6_code 115 = .ok (.ifCond .lt 7, 3) := by decide +kernel
theorem own_d2_122 : decode prog_45_method_6_code 122 = .ok (.iconst 0, 1) := by decide +kernel
set_option maxRecDepth 65536 in
set_option maxHeartbeats 40000000 in
theorem own_ho5n (l : Launch) (Z : State) (a0 : Array Value) (hw : ∀ d ∈ tables_1, d.before a0 Z = true) (ws : List Jvm.Cond) (q1 : Int32) (A : Nat → Addr) (h0 : Heap) (n0 : Nat) (Z0 : n0 ≤ h0.size) (En : own_En Z h0 A) (hs : q1 < (0 : Int32)) :
    MetFree l (⟨"com/example/affirm_rows/affirmrows/rules/Comparison", "holds", "(I)Z"⟩ : MethodName) (head1 (Jvm.Cond.code (⟨"com/example/affirm_rows/affirmrows/rules/Comparison", "holds", "(I)Z"⟩ : MethodName) prog_45_method_6_code 2 (some .boolean) :: ws) ({ frames := 1, cells := 0, slots := 0, locals := 12 } : Room)) (fun a U => a = #[(.ref (A 5)), (.int q1)] ∧ Z.Warmed39 U.vm ∧ U.heap = h0) (fun _ _ _ _ _ => True) (fun _ U o U' => ∃ v L, o = .returned v ∧ Q_own_ho5n Z q1 A h0 n0 v U'.heap L ∧ FrameEnd U o U' L ({ frames := 1, cells := 0, slots := 0, locals := 12 } : Room).cells ({ frames := 1, cells := 0, slots := 0, locals := 12 } : Room).slots) := by
  refine MetFree.of_bodySF (plainFor_of_name own_pn_com_example_affirm_rows_affirmrows_rules_Comparison) hisR ?_
  intro p e s m args below meth c s₁ Bd hml0 hP hK
  obtain ⟨rfl, hZ, hh⟩ := hP
  have hx := Bd.exec
  have hby := Bd.bytes
  have hml : c.maxLocals = 2 := hml0
  have hown : s.vm.findClass "com/example/affirm_rows/affirmrows/rules/Comparison" = some m.cls := findClass_of_methodNamed Bd.named
  have hnm := (name_of_methodNamed Bd.named Bd.method).1
  have hlk : meth.locks = false := BodyLoose.notSynchronized Bd
  have X0 : Stand p l e ({ frames := 1, cells := 0, slots := 0, locals := 12 } : Room) s m #[(.ref (A 5)), (.int q1)] below meth c s₁ [] 0 0 := Stand.of_body Bd
  have e0 : s₁.heap = h0 := by rw [← hh, Bd.state]; rfl
  have N0 := Fr.nil n0
  show own_Go p e below #[(.ref (A 5)), (.int q1)] s (fun _ U o U' => ∃ v L, o = .returned v ∧ Q_own_ho5n Z q1 A h0 n0 v U'.heap L ∧ FrameEnd U o U' L ({ frames := 1, cells := 0, slots := 0, locals := 12 } : Room).cells ({ frames := 1, cells := 0, slots := 0, locals := 12 } : Room).slots) (s₁.setTop (entryFrame m #[(.ref (A 5)), (.int q1)] 2))
  refine own_st (V := s₁.setTop (mkF m 0 #[.val (.ref (A 5)), .val (.int q1)] [])) (fun t k => castTop (by first | (simp [entryFrame, mkF, argsToLocals, Value.category]; done) | rfl) k) ?_
  refine own_st (V := s₁.setTop (mkF m 1 #[.val (.ref (A 5)), .val (.int q1)] [(.ref (A 5))])) (fun t k => XS.aloadN X0.here hx rfl (hb hby own_d2_0) rfl rfl k) ?_
  obtain ⟨cq28, kq28, q28a, q28b, q28c⟩ := isOf hZ e0 (own_E En 5 (i := 5) (n := "GREATER_OR_EQUAL") rfl)
  obtain ⟨_, _, ⟨T28, L28, k28, n28⟩, -, X28, ⟨Lc28, hQ28, l28, y28, z28⟩, st28⟩ := X0.virtualBackUp hx (x := (⟨"com/example/affirm_rows/affirmrows/rules/Comparison", "ordinal", "()I"⟩ : MethodName)) (y := (⟨"java/lang/Enum", "ordinal", "()I"⟩ : MethodName)) hown (mvT hZ (hw _ (List.mem_of_getElem? (i := 29) rfl))) (mvT hZ (hw _ (List.mem_of_getElem? (i := 30) rfl))) (mvT hZ (hw _ (List.mem_of_getElem? (i := 31) rfl))) (by decide) (mvT hZ (hw _ (List.mem_of_getElem? (i := 33) rfl))) (mvT hZ (hw _ (List.mem_of_getElem? (i := 32) rfl))) (backOf (W := 0) (own_ord5 l Z a0 hw [] A h0 n0 Z0 En ) hZ (hw _ (List.mem_of_getElem? (i := 35) rfl)) (hw _ (List.mem_of_getElem? (i := 34) rfl)) (by decide) (by decide)) q28a q28c (g := (mkF m 1 #[.val (.ref (A 5)), .val (.int q1)] [(.ref (A 5))])) rfl (by rw [hml]; rfl) (Steps.refl _) (argsL := []) (rest := []) (lenOf own_pd0 rfl) rfl (by show 2 * 0 + _ ≤ _; exact Nat.le_of_eq rfl) (hb hby own_d2_1) (fun _ _ => ⟨rfl, e0, (by decide : 0 + 0 ≤ _), (by decide : 0 + 0 ≤ _)⟩)
  dsimp only [Pt.U, Pt.locs, Pt.cells, Pt.slots] at X28 l28 y28 z28 st28 hQ28
  subst l28 y28 z28
  obtain ⟨rfl, N28q, e28⟩ := hQ28
  have N28 := Fr.app N0 N28q
  refine own_st (V := T28.setTop (mkF m 4 #[.val (.ref (A 5)), .val (.int q1)] [(.int (5 : Int32))])) (fun t k => st28.trans k) ?_
  refine own_st (V := T28.setTop (mkF m 114 #[.val (.ref (A 5)), .val (.int q1)] [])) (fun t k => XS.tswIn X28.here hx rfl (pc0 := 4) (pc' := 114) rfl (hb hby own_d2_4) rfl (by decide) (o := 110) rfl (by decide) rfl k) ?_
  refine own_st (V := T28.setTop (mkF m 115 #[.val (.ref (A 5)), .val (.int q1)] [(.int q1)])) (fun t k => XS.iloadN X28.here hx rfl (hb hby own_d2_114) rfl k) ?_
  refine own_st (V := T28.setTop (mkF m 122 #[.val (.ref (A 5)), .val (.int q1)] [])) (fun t k => XS.ifYes X28.here hx rfl (pc0 := 115) (pc' := 122) rfl (hb hby own_d2_115) rfl ((if0 _ _).trans (tlt hs).1) (by decide) (by decide) k) ?_
  refine own_st (V := T28.setTop (mkF m 123 #[.val (.ref (A 5)), .val (.int q1)] [(.int (0 : Int32))])) (fun t k => XS.iconst X28.here hx rfl (hb hby own_d2_122) k) ?_
  exact own_ret X28 hx hlk Bd.returns (by decide +kernel) (Or.inl ⟨rfl, by simp, _, rfl⟩) (hb hby own_d2_123) (by decide) (by decide) (by show Q_own_ho5n Z q1 A h0 n0 _ T28.heap _; rw [e28]; exact ⟨rfl, N28, rfl⟩)
def Q_own_ho5p (Z : State) (q1 : Int32) (A : Nat → Addr) (h0 : Heap) (n0 : Nat) (v : Option Value) (h : Heap) (L : List Loc) : Prop := v = some (.int (1 : Int32)) ∧ Fr n0 L ∧ h = h0
theorem own_d2_118 : decode prog_45_method_6_code 118 = .ok (.iconst 1, 1) := by decide +kernel
theorem own_d2_119 : decode prog_45_method_6_code 119 = .ok (.goto 4, 3) := by decide +kernel
set_option maxRecDepth 65536 in
set_option maxHeartbeats 40000000 in
theorem own_ho5p (l : Launch) (Z : State) (a0 : Array Value) (hw : ∀ d ∈ tables_1, d.before a0 Z = true) (ws : List Jvm.Cond) (q1 : Int32) (A : Nat → Addr) (h0 : Heap) (n0 : Nat) (Z0 : n0 ≤ h0.size) (En : own_En Z h0 A) (hs : (0 : Int32) < q1) :
    MetFree l (⟨"com/example/affirm_rows/affirmrows/rules/Comparison", "holds", "(I)Z"⟩ : MethodName) (head1 (Jvm.Cond.code (⟨"com/example/affirm_rows/affirmrows/rules/Comparison", "holds", "(I)Z"⟩ : MethodName) prog_45_method_6_code 2 (some .boolean) :: ws) ({ frames := 1, cells := 0, slots := 0, locals := 12 } : Room)) (fun a U => a = #[(.ref (A 5)), (.int q1)] ∧ Z.Warmed39 U.vm ∧ U.heap = h0) (fun _ _ _ _ _ => True) (fun _ U o U' => ∃ v L, o = .returned v ∧ Q_own_ho5p Z q1 A h0 n0 v U'.heap L ∧ FrameEnd U o U' L ({ frames := 1, cells := 0, slots := 0, locals := 12 } : Room).cells ({ frames := 1, cells := 0, slots := 0, locals := 12 } : Room).slots) := by
  refine MetFree.of_bodySF (plainFor_of_name own_pn_com_example_affirm_rows_affirmrows_rules_Comparison) hisR ?_
  intro p e s m args below meth c s₁ Bd hml0 hP hK
  obtain ⟨rfl, hZ, hh⟩ := hP
  have hx := Bd.exec
  have hby := Bd.bytes
  have hml : c.maxLocals = 2 := hml0
  have hown : s.vm.findClass "com/example/affirm_rows/affirmrows/rules/Comparison" = some m.cls := findClass_of_methodNamed Bd.named
  have hnm := (name_of_methodNamed Bd.named Bd.method).1
  have hlk : meth.locks = false := BodyLoose.notSynchronized Bd
  have X0 : Stand p l e ({ frames := 1, cells := 0, slots := 0, locals := 12 } : Room) s m #[(.ref (A 5)), (.int q1)] below meth c s₁ [] 0 0 := Stand.of_body Bd
  have e0 : s₁.heap = h0 := by rw [← hh, Bd.state]; rfl
  have N0 := Fr.nil n0
  show own_Go p e below #[(.ref (A 5)), (.int q1)] s (fun _ U o U' => ∃ v L, o = .returned v ∧ Q_own_ho5p Z q1 A h0 n0 v U'.heap L ∧ FrameEnd U o U' L ({ frames := 1, cells := 0, slots := 0, locals := 12 } : Room).cells ({ frames := 1, cells := 0, slots := 0, locals := 12 } : Room).slots) (s₁.setTop (entryFrame m #[(.ref (A 5)), (.int q1)] 2))
  refine own_st (V := s₁.setTop (mkF m 0 #[.val (.ref (A 5)), .val (.int q1)] [])) (fun t k => castTop (by first | (simp [entryFrame, mkF, argsToLocals, Value.category]; done) | rfl) k) ?_
  refine own_st (V := s₁.setTop (mkF m 1 #[.val (.ref (A 5)), .val (.int q1)] [(.ref (A 5))])) (fun t k => XS.aloadN X0.here hx rfl (hb hby own_d2_0) rfl rfl k) ?_
  obtain ⟨cq29, kq29, q29a, q29b, q29c⟩ := isOf hZ e0 (own_E En 5 (i := 5) (n := "GREATER_OR_EQUAL") rfl)
  obtain ⟨_, _, ⟨T29, L29, k29, n29⟩, -, X29, ⟨Lc29, hQ29, l29, y29, z29⟩, st29⟩ := X0.virtualBackUp hx (x := (⟨"com/example/affirm_rows/affirmrows/rules/Comparison", "ordinal", "()I"⟩ : MethodName)) (y := (⟨"java/lang/Enum", "ordinal", "()I"⟩ : MethodName)) hown (mvT hZ (hw _ (List.mem_of_getElem? (i := 29) rfl))) (mvT hZ (hw _ (List.mem_of_getElem? (i := 30) rfl))) (mvT hZ (hw _ (List.mem_of_getElem? (i := 31) rfl))) (by decide) (mvT hZ (hw _ (List.mem_of_getElem? (i := 33) rfl))) (mvT hZ (hw _ (List.mem_of_getElem? (i := 32) rfl))) (backOf (W := 0) (own_ord5 l Z a0 hw [] A h0 n0 Z0 En ) hZ (hw _ (List.mem_of_getElem? (i := 35) rfl)) (hw _ (List.mem_of_getElem? (i := 34) rfl)) (by decide) (by decide)) q29a q29c (g := (mkF m 1 #[.val (.ref (A 5)), .val (.int q1)] [(.ref (A 5))])) rfl (by rw [hml]; rfl) (Steps.refl _) (argsL := []) (rest := []) (lenOf own_pd0 rfl) rfl (by show 2 * 0 + _ ≤ _; exact Nat.le_of_eq rfl) (hb hby own_d2_1) (fun _ _ => ⟨rfl, e0, (by decide : 0 + 0 ≤ _), (by decide : 0 + 0 ≤ _)⟩)
  dsimp only [Pt.U, Pt.locs, Pt.cells, Pt.slots] at X29 l29 y29 z29 st29 hQ29
  subst l29 y29 z29
  obtain ⟨rfl, N29q, e29⟩ := hQ29
  have N29 := Fr.app N0 N29q
  refine own_st (V := T29.setTop (mkF m 4 #[.val (.ref (A 5)), .val (.int q1)] [(.int (5 : Int32))])) (fun t k => st29.trans k) ?_
  refine own_st (V := T29.setTop (mkF m 114 #[.val (.ref (A 5)), .val (.int q1)] [])) (fun t k => XS.tswIn X29.here hx rfl (pc0 := 4) (pc' := 114) rfl (hb hby own_d2_4) rfl (by decide) (o := 110) rfl (by decide) rfl k) ?_
  refine own_st (V := T29.setTop (mkF m 115 #[.val (.ref (A 5)), .val (.int q1)] [(.int q1)])) (fun t k => XS.iloadN X29.here hx rfl (hb hby own_d2_114) rfl k) ?_
  refine own_st (V := T29.setTop (mkF m 118 #[.val (.ref (A 5)), .val (.int q1)] [])) (fun t k => XS.ifNo X29.here hx rfl (hb hby own_d2_115) rfl ((if0 _ _).trans (flt (own_p1 hs)).1) k) ?_
  refine own_st (V := T29.setTop (mkF m 119 #[.val (.ref (A 5)), .val (.int q1)] [(.int (1 : Int32))])) (fun t k => XS.iconst X29.here hx rfl (hb hby own_d2_118) k) ?_
  refine own_st (V := T29.setTop (mkF m 123 #[.val (.ref (A 5)), .val (.int q1)] [(.int (1 : Int32))])) (fun t k => XS.goto X29.here hx rfl (pc0 := 119) (pc' := 123) rfl (hb hby own_d2_119) (by decide) (by decide) k) ?_
  exact own_ret X29 hx hlk Bd.returns (by decide +kernel) (Or.inl ⟨rfl, by simp, _, rfl⟩) (hb hby own_d2_123) (by decide) (by decide) (by show Q_own_ho5p Z q1 A h0 n0 _ T29.heap _; rw [e29]; exact ⟨rfl, N29, rfl⟩)
theorem own_c (x : Int32) : ((x &&& (2147483647 : Int32)) % (6 : Int32)) = (0 : Int32) ∨ ((x &&& (2147483647 : Int32)) % (6 : Int32)) = (1 : Int32) ∨ ((x &&& (2147483647 : Int32)) % (6 : Int32)) = (2 : Int32) ∨ ((x &&& (2147483647 : Int32)) % (6 : Int32)) = (3 : Int32) ∨ ((x &&& (2147483647 : Int32)) % (6 : Int32)) = (4 : Int32) ∨ ((x &&& (2147483647 : Int32)) % (6 : Int32)) = (5 : Int32) := by
  have h := c_mask x 2147483647 31 (by decide) (by decide)
  have q := (c_irem (x &&& (2147483647 : Int32)) (6 : Int32) 6 (by decide)).1 (by omega)
  have e : ∀ k : Int32, ((x &&& (2147483647 : Int32)) % (6 : Int32)).toInt = k.toInt → ((x &&& (2147483647 : Int32)) % (6 : Int32)) = k := fun k q => Int32.toInt_inj.mp q
  have b : ((x &&& (2147483647 : Int32)) % (6 : Int32)).toInt = 0 ∨ ((x &&& (2147483647 : Int32)) % (6 : Int32)).toInt = 1 ∨ ((x &&& (2147483647 : Int32)) % (6 : Int32)).toInt = 2 ∨ ((x &&& (2147483647 : Int32)) % (6 : Int32)).toInt = 3 ∨ ((x &&& (2147483647 : Int32)) % (6 : Int32)).toInt = 4 ∨ ((x &&& (2147483647 : Int32)) % (6 : Int32)).toInt = 5 := by omega
  rcases b with b | b | b | b | b | b
  · exact Or.inl (e 0 b)
  · exact Or.inr (Or.inl (e 1 b))
  · exact Or.inr (Or.inr (Or.inl (e 2 b)))
  · exact Or.inr (Or.inr (Or.inr (Or.inl (e 3 b))))
  · exact Or.inr (Or.inr (Or.inr (Or.inr (Or.inl (e 4 b)))))
  · exact Or.inr (Or.inr (Or.inr (Or.inr (Or.inr (e 5 b)))))
def own_Q0 (Z : State) (p1 : Int32) (p2 : Int32) (p3 : Int32) (A : Nat → Addr) (h0 : Heap) (n0 : Nat) (v : Option Value) (h : Heap) (L : List Loc) : Prop := v = some (.int (1 : Int32)) ∧ Fr n0 L
theorem own_pd1 : parseMethodDescriptor "()Z" = some ⟨[], some .boolean⟩ := by decide +kernel
theorem own_pd2 : parseMethodDescriptor "(I)Z" = some ⟨[.int], some .boolean⟩ := by decide +kernel
theorem own_pn_com_example_affirm_rows_affirmrows_rules_ComparisonNeedsOrderPinLaw : plainName "com/example/affirm_rows/affirmrows/rules/ComparisonNeedsOrderPinLaw" = true := by first | (simp [plainName, overriddenIn]; done) | decide +kernel
set_option maxRecDepth 65536 in
set_option maxHeartbeats 40000000 in
theorem own_law0 (l : Launch) (Z : State) (a0 : Array Value) (hw : ∀ d ∈ tables_1, d.before a0 Z = true) (ws : List Jvm.Cond) (p1 : Int32) (p2 : Int32) (p3 : Int32) (A : Nat → Addr) (h0 : Heap) (n0 : Nat) (Z0 : n0 ≤ h0.size) (En : own_En Z h0 A) :
    MetFree l x (head1 (Jvm.Cond.code x code maxLocals ret :: ws) room_1) (fun a U => a = #[(.int p1), (.int p2), (.int p3)] ∧ Z.Warmed39 U.vm ∧ U.heap = h0) (fun _ _ _ _ _ => True) (fun _ U o U' => ∃ v L, o = .returned v ∧ own_Q0 Z p1 p2 p3 A h0 n0 v U'.heap L ∧ FrameEnd U o U' L room_1.cells room_1.slots) := by
  refine MetFree.of_bodySF (plainFor_of_name own_pn_com_example_affirm_rows_affirmrows_rules_ComparisonNeedsOrderPinLaw) hisR ?_
  intro p e s m args below meth c s₁ Bd hml0 hP hK
  obtain ⟨rfl, hZ, hh⟩ := hP
  have hx := Bd.exec
  have hby := Bd.bytes
  have hml : c.maxLocals = 11 := hml0
  have hown : s.vm.findClass "com/example/affirm_rows/affirmrows/rules/ComparisonNeedsOrderPinLaw" = some m.cls := findClass_of_methodNamed Bd.named
  have hnm := (name_of_methodNamed Bd.named Bd.method).1
  have hlk : meth.locks = false := BodyLoose.notSynchronized Bd
  have X0 : Stand p l e room_1 s m #[(.int p1), (.int p2), (.int p3)] below meth c s₁ [] 0 0 := Stand.of_body Bd
  have e0 : s₁.heap = h0 := by rw [← hh, Bd.state]; rfl
  have N0 := Fr.nil n0
  show own_Go p e below #[(.int p1), (.int p2), (.int p3)] s (fun _ U o U' => ∃ v L, o = .returned v ∧ own_Q0 Z p1 p2 p3 A h0 n0 v U'.heap L ∧ FrameEnd U o U' L room_1.cells room_1.slots) (s₁.setTop (entryFrame m #[(.int p1), (.int p2), (.int p3)] maxLocals))
  refine own_st (V := s₁.setTop (mkF m 0 #[.val (.int p1), .val (.int p2), .val (.int p3), .unset, .unset, .unset, .unset, .unset, .unset, .unset, .unset] [])) (fun t k => castTop (by first | (simp [entryFrame, mkF, argsToLocals, Value.category, maxLocals]; done) | rfl) k) ?_
  refine own_st (V := s₁.setTop (mkF m 2 #[.val (.int p1), .val (.int p2), .val (.int p3), .unset, .unset, .unset, .unset, .unset, .unset, .unset, .unset] [(.int (6 : Int32))])) (fun t k => XS.bipush X0.here hx rfl (hb hby at_0) k) ?_
  obtain ⟨T30, h30, k30, X30, e30, E30, A30, O30, st30⟩ := newR X0 hx hZ hown (hw _ (List.mem_of_getElem? (i := 0) rfl)) (hw _ (List.mem_of_getElem? (i := 1) rfl)) e0 (g := (mkF m 2 #[.val (.int p1), .val (.int p2), .val (.int p3), .unset, .unset, .unset, .unset, .unset, .unset, .unset, .unset] [(.int (6 : Int32))])) rfl (hb hby at_2) rfl (by decide) (cap := 6) (by decide) (by decide) (by decide) (by decide)
  obtain ⟨b30, g30⟩ : ∃ z, z = h0.size := ⟨_, rfl⟩
  rw [← g30] at A30 st30
  have gb_b30 : n0 ≤ b30 := Nat.le_trans Z0 (Nat.le_of_eq g30.symm)
  have Z0_30 : n0 ≤ h30.size := Nat.le_trans Z0 E30.1
  have hne_b30 : ∀ q ∈ own_cs, A q.1 ≠ b30 := fun q hq => Nat.ne_of_lt (Nat.lt_of_lt_of_le (En q hq).2.1.lt (Nat.le_of_eq g30.symm))
  have En_30 := En.ext E30
  have V_b30 : Arv Z h30 b30 k30 (.object "com/example/affirm_rows/affirmrows/rules/Comparison") (6 : Int32) [.null, .null, .null, .null, .null, .null] .null := (Arv.new A30 (by decide)).pad (pad_rep [] .null 6)
  refine own_st (V := T30.setTop (mkF m 5 #[.val (.int p1), .val (.int p2), .val (.int p3), .unset, .unset, .unset, .unset, .unset, .unset, .unset, .unset] [(.ref b30)])) (fun t k => st30 _ k) ?_
  refine own_st (V := T30.setTop (mkF m 6 #[.val (.int p1), .val (.int p2), .val (.int p3), .unset, .unset, .unset, .unset, .unset, .unset, .unset, .unset] [(.ref b30), (.ref b30)])) (fun t k => XS.dup X30.here hx rfl (hb hby at_5) rfl rfl k) ?_
  refine own_st (V := T30.setTop (mkF m 7 #[.val (.int p1), .val (.int p2), .val (.int p3), .unset, .unset, .unset, .unset, .unset, .unset, .unset, .unset] [(.int (0 : Int32)), (.ref b30), (.ref b30)])) (fun t k => XS.iconst X30.here hx rfl (hb hby at_6) k) ?_
  obtain ⟨T31, X31, e31, st31⟩ := getS2 X30 hx hZ hown (host := "") (Or.inl (hw _ (List.mem_of_getElem? (i := 2) rfl))) Via.refl e30 (own_S En_30 0 (i := 0) (n := "EQUAL") rfl) (g := (mkF m 7 #[.val (.int p1), .val (.int p2), .val (.int p3), .unset, .unset, .unset, .unset, .unset, .unset, .unset, .unset] [(.int (0 : Int32)), (.ref b30), (.ref b30)])) rfl (hb hby at_7)
  refine own_st (V := T31.setTop (mkF m 10 #[.val (.int p1), .val (.int p2), .val (.int p3), .unset, .unset, .unset, .unset, .unset, .unset, .unset, .unset] [(.ref (A 0)), (.int (0 : Int32)), (.ref b30), (.ref b30)])) (fun t k => st31 _ k) ?_
  obtain ⟨cl32, Ar32, qk32, sz32, nn32, hs32, fs32⟩ := V_b30
  have hin32 : ¬ ((0 : Int32) < 0 ∨ cl32.slots.size ≤ ((0 : Int32)).toNatClampNeg) := inb_of sz32 ⟨by decide, by decide⟩
  obtain ⟨T32, h32, X32, e32, W32, st32⟩ := stR X31 hx hZ e31 Ar32 (j := (0 : Int32)) hin32 rfl (Sto.ofV Ar32 qk32 O30 (Ins.self (own_E En_30 0 (i := 0) (n := "EQUAL") rfl))) (g := (mkF m 10 #[.val (.int p1), .val (.int p2), .val (.int p3), .unset, .unset, .unset, .unset, .unset, .unset, .unset, .unset] [(.ref (A 0)), (.int (0 : Int32)), (.ref b30), (.ref b30)])) rfl rfl (hb hby at_10)
  have V_b30_32 := Arv.set Ar32 qk32 sz32 nn32 hs32 fs32 rfl W32 0 rfl (Nat.le_of_ble_eq_true rfl)
  have N32 := Fr.snoc X32 N0 gb_b30
  have En_32 := En_30.wr W32 hne_b30
  have Z0_32 : n0 ≤ h32.size := by rw [W32.size]; exact Z0_30
  refine own_st (V := T32.setTop (mkF m 11 #[.val (.int p1), .val (.int p2), .val (.int p3), .unset, .unset, .unset, .unset, .unset, .unset, .unset, .unset] [(.ref b30)])) (fun t k => st32 _ k) ?_
  refine own_st (V := T32.setTop (mkF m 12 #[.val (.int p1), .val (.int p2), .val (.int p3), .unset, .unset, .unset, .unset, .unset, .unset, .unset, .unset] [(.ref b30), (.ref b30)])) (fun t k => XS.dup X32.here hx rfl (hb hby at_11) rfl rfl k) ?_
  refine own_st (V := T32.setTop (mkF m 13 #[.val (.int p1), .val (.int p2), .val (.int p3), .unset, .unset, .unset, .unset, .unset, .unset, .unset, .unset] [(.int (1 : Int32)), (.ref b30), (.ref b30)])) (fun t k => XS.iconst X32.here hx rfl (hb hby at_12) k) ?_
  obtain ⟨T33, X33, e33, st33⟩ := getS2 X32 hx hZ hown (host := "") (Or.inl (hw _ (List.mem_of_getElem? (i := 6) rfl))) Via.refl e32 (own_S En_32 1 (i := 1) (n := "NOT_EQUAL") rfl) (g := (mkF m 13 #[.val (.int p1), .val (.int p2), .val (.int p3), .unset, .unset, .unset, .unset, .unset, .unset, .unset, .unset] [(.int (1 : Int32)), (.ref b30), (.ref b30)])) rfl (hb hby at_13)
  refine own_st (V := T33.setTop (mkF m 16 #[.val (.int p1), .val (.int p2), .val (.int p3), .unset, .unset, .unset, .unset, .unset, .unset, .unset, .unset] [(.ref (A 1)), (.int (1 : Int32)), (.ref b30), (.ref b30)])) (fun t k => st33 _ k) ?_
  obtain ⟨cl34, Ar34, qk34, sz34, nn34, hs34, fs34⟩ := V_b30_32
  have hin34 : ¬ ((1 : Int32) < 0 ∨ cl34.slots.size ≤ ((1 : Int32)).toNatClampNeg) := inb_of sz34 ⟨by decide, by decide⟩
  obtain ⟨T34, h34, X34, e34, W34, st34⟩ := stR X33 hx hZ e33 Ar34 (j := (1 : Int32)) hin34 rfl (Sto.ofV Ar34 qk34 O30 (Ins.self (own_E En_32 1 (i := 1) (n := "NOT_EQUAL") rfl))) (g := (mkF m 16 #[.val (.int p1), .val (.int p2), .val (.int p3), .unset, .unset, .unset, .unset, .unset, .unset, .unset, .unset] [(.ref (A 1)), (.int (1 : Int32)), (.ref b30), (.ref b30)])) rfl rfl (hb hby at_16)
  have V_b30_34 := Arv.set Ar34 qk34 sz34 nn34 hs34 fs34 rfl W34 1 rfl (Nat.le_of_ble_eq_true rfl)
  have N34 := Fr.snoc X34 N32 gb_b30
  have En_34 := En_32.wr W34 hne_b30
  have Z0_34 : n0 ≤ h34.size := by rw [W34.size]; exact Z0_32
  refine own_st (V := T34.setTop (mkF m 17 #[.val (.int p1), .val (.int p2), .val (.int p3), .unset, .unset, .unset, .unset, .unset, .unset, .unset, .unset] [(.ref b30)])) (fun t k => st34 _ k) ?_
  refine own_st (V := T34.setTop (mkF m 18 #[.val (.int p1), .val (.int p2), .val (.int p3), .unset, .unset, .unset, .unset, .unset, .unset, .unset, .unset] [(.ref b30), (.ref b30)])) (fun t k => XS.dup X34.here hx rfl (hb hby at_17) rfl rfl k) ?_
  refine own_st (V := T34.setTop (mkF m 19 #[.val (.int p1), .val (.int p2), .val (.int p3), .unset, .unset, .unset, .unset, .unset, .unset, .unset, .unset] [(.int (2 : Int32)), (.ref b30), (.ref b30)])) (fun t k => XS.iconst X34.here hx rfl (hb hby at_18) k) ?_
  obtain ⟨T35, X35, e35, st35⟩ := getS2 X34 hx hZ hown (host := "") (Or.inl (hw _ (List.mem_of_getElem? (i := 8) rfl))) Via.refl e34 (own_S En_34 2 (i := 2) (n := "LESS") rfl) (g := (mkF m 19 #[.val (.int p1), .val (.int p2), .val (.int p3), .unset, .unset, .unset, .unset, .unset, .unset, .unset, .unset] [(.int (2 : Int32)), (.ref b30), (.ref b30)])) rfl (hb hby at_19)
  refine own_st (V := T35.setTop (mkF m 22 #[.val (.int p1), .val (.int p2), .val (.int p3), .unset, .unset, .unset, .unset, .unset, .unset, .unset, .unset] [(.ref (A 2)), (.int (2 : Int32)), (.ref b30), (.ref b30)])) (fun t k => st35 _ k) ?_
  obtain ⟨cl36, Ar36, qk36, sz36, nn36, hs36, fs36⟩ := V_b30_34
  have hin36 : ¬ ((2 : Int32) < 0 ∨ cl36.slots.size ≤ ((2 : Int32)).toNatClampNeg) := inb_of sz36 ⟨by decide, by decide⟩
  obtain ⟨T36, h36, X36, e36, W36, st36⟩ := stR X35 hx hZ e35 Ar36 (j := (2 : Int32)) hin36 rfl (Sto.ofV Ar36 qk36 O30 (Ins.self (own_E En_34 2 (i := 2) (n := "LESS") rfl))) (g := (mkF m 22 #[.val (.int p1), .val (.int p2), .val (.int p3), .unset, .unset, .unset, .unset, .unset, .unset, .unset, .unset] [(.ref (A 2)), (.int (2 : Int32)), (.ref b30), (.ref b30)])) rfl rfl (hb hby at_22)
  have V_b30_36 := Arv.set Ar36 qk36 sz36 nn36 hs36 fs36 rfl W36 2 rfl (Nat.le_of_ble_eq_true rfl)
  have N36 := Fr.snoc X36 N34 gb_b30
  have En_36 := En_34.wr W36 hne_b30
  have Z0_36 : n0 ≤ h36.size := by rw [W36.size]; exact Z0_34
  refine own_st (V := T36.setTop (mkF m 23 #[.val (.int p1), .val (.int p2), .val (.int p3), .unset, .unset, .unset, .unset, .unset, .unset, .unset, .unset] [(.ref b30)])) (fun t k => st36 _ k) ?_
  refine own_st (V := T36.setTop (mkF m 24 #[.val (.int p1), .val (.int p2), .val (.int p3), .unset, .unset, .unset, .unset, .unset, .unset, .unset, .unset] [(.ref b30), (.ref b30)])) (fun t k => XS.dup X36.here hx rfl (hb hby at_23) rfl rfl k) ?_
  refine own_st (V := T36.setTop (mkF m 25 #[.val (.int p1), .val (.int p2), .val (.int p3), .unset, .unset, .unset, .unset, .unset, .unset, .unset, .unset] [(.int (3 : Int32)), (.ref b30), (.ref b30)])) (fun t k => XS.iconst X36.here hx rfl (hb hby at_24) k) ?_
  obtain ⟨T37, X37, e37, st37⟩ := getS2 X36 hx hZ hown (host := "") (Or.inl (hw _ (List.mem_of_getElem? (i := 10) rfl))) Via.refl e36 (own_S En_36 3 (i := 3) (n := "LESS_OR_EQUAL") rfl) (g := (mkF m 25 #[.val (.int p1), .val (.int p2), .val (.int p3), .unset, .unset, .unset, .unset, .unset, .unset, .unset, .unset] [(.int (3 : Int32)), (.ref b30), (.ref b30)])) rfl (hb hby at_25)
  refine own_st (V := T37.setTop (mkF m 28 #[.val (.int p1), .val (.int p2), .val (.int p3), .unset, .unset, .unset, .unset, .unset, .unset, .unset, .unset] [(.ref (A 3)), (.int (3 : Int32)), (.ref b30), (.ref b30)])) (fun t k => st37 _ k) ?_
  obtain ⟨cl38, Ar38, qk38, sz38, nn38, hs38, fs38⟩ := V_b30_36
  have hin38 : ¬ ((3 : Int32) < 0 ∨ cl38.slots.size ≤ ((3 : Int32)).toNatClampNeg) := inb_of sz38 ⟨by decide, by decide⟩
  obtain ⟨T38, h38, X38, e38, W38, st38⟩ := stR X37 hx hZ e37 Ar38 (j := (3 : Int32)) hin38 rfl (Sto.ofV Ar38 qk38 O30 (Ins.self (own_E En_36 3 (i := 3) (n := "LESS_OR_EQUAL") rfl))) (g := (mkF m 28 #[.val (.int p1), .val (.int p2), .val (.int p3), .unset, .unset, .unset, .unset, .unset, .unset, .unset, .unset] [(.ref (A 3)), (.int (3 : Int32)), (.ref b30), (.ref b30)])) rfl rfl (hb hby at_28)
  have V_b30_38 := Arv.set Ar38 qk38 sz38 nn38 hs38 fs38 rfl W38 3 rfl (Nat.le_of_ble_eq_true rfl)
  have N38 := Fr.snoc X38 N36 gb_b30
  have En_38 := En_36.wr W38 hne_b30
  have Z0_38 : n0 ≤ h38.size := by rw [W38.size]; exact Z0_36
  refine own_st (V := T38.setTop (mkF m 29 #[.val (.int p1), .val (.int p2), .val (.int p3), .unset, .unset, .unset, .unset, .unset, .unset, .unset, .unset] [(.ref b30)])) (fun t k => st38 _ k) ?_
  refine own_st (V := T38.setTop (mkF m 30 #[.val (.int p1), .val (.int p2), .val (.int p3), .unset, .unset, .unset, .unset, .unset, .unset, .unset, .unset] [(.ref b30), (.ref b30)])) (fun t k => XS.dup X38.here hx rfl (hb hby at_29) rfl rfl k) ?_
  refine own_st (V := T38.setTop (mkF m 31 #[.val (.int p1), .val (.int p2), .val (.int p3), .unset, .unset, .unset, .unset, .unset, .unset, .unset, .unset] [(.int (4 : Int32)), (.ref b30), (.ref b30)])) (fun t k => XS.iconst X38.here hx rfl (hb hby at_30) k) ?_
  obtain ⟨T39, X39, e39, st39⟩ := getS2 X38 hx hZ hown (host := "") (Or.inl (hw _ (List.mem_of_getElem? (i := 12) rfl))) Via.refl e38 (own_S En_38 4 (i := 4) (n := "GREATER") rfl) (g := (mkF m 31 #[.val (.int p1), .val (.int p2), .val (.int p3), .unset, .unset, .unset, .unset, .unset, .unset, .unset, .unset] [(.int (4 : Int32)), (.ref b30), (.ref b30)])) rfl (hb hby at_31)
  refine own_st (V := T39.setTop (mkF m 34 #[.val (.int p1), .val (.int p2), .val (.int p3), .unset, .unset, .unset, .unset, .unset, .unset, .unset, .unset] [(.ref (A 4)), (.int (4 : Int32)), (.ref b30), (.ref b30)])) (fun t k => st39 _ k) ?_
  obtain ⟨cl40, Ar40, qk40, sz40, nn40, hs40, fs40⟩ := V_b30_38
  have hin40 : ¬ ((4 : Int32) < 0 ∨ cl40.slots.size ≤ ((4 : Int32)).toNatClampNeg) := inb_of sz40 ⟨by decide, by decide⟩
  obtain ⟨T40, h40, X40, e40, W40, st40⟩ := stR X39 hx hZ e39 Ar40 (j := (4 : Int32)) hin40 rfl (Sto.ofV Ar40 qk40 O30 (Ins.self (own_E En_38 4 (i := 4) (n := "GREATER") rfl))) (g := (mkF m 34 #[.val (.int p1), .val (.int p2), .val (.int p3), .unset, .unset, .unset, .unset, .unset, .unset, .unset, .unset] [(.ref (A 4)), (.int (4 : Int32)), (.ref b30), (.ref b30)])) rfl rfl (hb hby at_34)
  have V_b30_40 := Arv.set Ar40 qk40 sz40 nn40 hs40 fs40 rfl W40 4 rfl (Nat.le_of_ble_eq_true rfl)
  have N40 := Fr.snoc X40 N38 gb_b30
  have En_40 := En_38.wr W40 hne_b30
  have Z0_40 : n0 ≤ h40.size := by rw [W40.size]; exact Z0_38
  refine own_st (V := T40.setTop (mkF m 35 #[.val (.int p1), .val (.int p2), .val (.int p3), .unset, .unset, .unset, .unset, .unset, .unset, .unset, .unset] [(.ref b30)])) (fun t k => st40 _ k) ?_
  refine own_st (V := T40.setTop (mkF m 36 #[.val (.int p1), .val (.int p2), .val (.int p3), .unset, .unset, .unset, .unset, .unset, .unset, .unset, .unset] [(.ref b30), (.ref b30)])) (fun t k => XS.dup X40.here hx rfl (hb hby at_35) rfl rfl k) ?_
  refine own_st (V := T40.setTop (mkF m 37 #[.val (.int p1), .val (.int p2), .val (.int p3), .unset, .unset, .unset, .unset, .unset, .unset, .unset, .unset] [(.int (5 : Int32)), (.ref b30), (.ref b30)])) (fun t k => XS.iconst X40.here hx rfl (hb hby at_36) k) ?_
  obtain ⟨T41, X41, e41, st41⟩ := getS2 X40 hx hZ hown (host := "") (Or.inl (hw _ (List.mem_of_getElem? (i := 14) rfl))) Via.refl e40 (own_S En_40 5 (i := 5) (n := "GREATER_OR_EQUAL") rfl) (g := (mkF m 37 #[.val (.int p1), .val (.int p2), .val (.int p3), .unset, .unset, .unset, .unset, .unset, .unset, .unset, .unset] [(.int (5 : Int32)), (.ref b30), (.ref b30)])) rfl (hb hby at_37)
  refine own_st (V := T41.setTop (mkF m 40 #[.val (.int p1), .val (.int p2), .val (.int p3), .unset, .unset, .unset, .unset, .unset, .unset, .unset, .unset] [(.ref (A 5)), (.int (5 : Int32)), (.ref b30), (.ref b30)])) (fun t k => st41 _ k) ?_
  obtain ⟨cl42, Ar42, qk42, sz42, nn42, hs42, fs42⟩ := V_b30_40
  have hin42 : ¬ ((5 : Int32) < 0 ∨ cl42.slots.size ≤ ((5 : Int32)).toNatClampNeg) := inb_of sz42 ⟨by decide, by decide⟩
  obtain ⟨T42, h42, X42, e42, W42, st42⟩ := stR X41 hx hZ e41 Ar42 (j := (5 : Int32)) hin42 rfl (Sto.ofV Ar42 qk42 O30 (Ins.self (own_E En_40 5 (i := 5) (n := "GREATER_OR_EQUAL") rfl))) (g := (mkF m 40 #[.val (.int p1), .val (.int p2), .val (.int p3), .unset, .unset, .unset, .unset, .unset, .unset, .unset, .unset] [(.ref (A 5)), (.int (5 : Int32)), (.ref b30), (.ref b30)])) rfl rfl (hb hby at_40)
  have V_b30_42 := Arv.set Ar42 qk42 sz42 nn42 hs42 fs42 rfl W42 5 rfl (Nat.le_of_ble_eq_true rfl)
  have N42 := Fr.snoc X42 N40 gb_b30
  have En_42 := En_40.wr W42 hne_b30
  have Z0_42 : n0 ≤ h42.size := by rw [W42.size]; exact Z0_40
  refine own_st (V := T42.setTop (mkF m 41 #[.val (.int p1), .val (.int p2), .val (.int p3), .unset, .unset, .unset, .unset, .unset, .unset, .unset, .unset] [(.ref b30)])) (fun t k => st42 _ k) ?_
  refine own_st (V := T42.setTop (mkF m 42 #[.val (.int p1), .val (.int p2), .val (.int p3), .val (.ref b30), .unset, .unset, .unset, .unset, .unset, .unset, .unset] [])) (fun t k => XS.astoreN X42.here hx rfl (hb hby at_41) rfl rfl (l' := #[.val (.int p1), .val (.int p2), .val (.int p3), .val (.ref b30), .unset, .unset, .unset, .unset, .unset, .unset, .unset]) rfl k) ?_
  refine own_st (V := T42.setTop (mkF m 43 #[.val (.int p1), .val (.int p2), .val (.int p3), .val (.ref b30), .unset, .unset, .unset, .unset, .unset, .unset, .unset] [(.int p1)])) (fun t k => XS.iloadN X42.here hx rfl (hb hby at_42) rfl k) ?_
  refine own_st (V := T42.setTop (mkF m 45 #[.val (.int p1), .val (.int p2), .val (.int p3), .val (.ref b30), .unset, .unset, .unset, .unset, .unset, .unset, .unset] [(.int (2147483647 : Int32)), (.int p1)])) (fun t k => X42.ldcInt hx hown (mvT hZ (hw _ (List.mem_of_getElem? (i := 16) rfl))) (g := (mkF m 43 #[.val (.int p1), .val (.int p2), .val (.int p3), .val (.ref b30), .unset, .unset, .unset, .unset, .unset, .unset, .unset] [(.int p1)])) rfl (hb hby at_43) t k) ?_
  refine own_st (V := T42.setTop (mkF m 46 #[.val (.int p1), .val (.int p2), .val (.int p3), .val (.ref b30), .unset, .unset, .unset, .unset, .unset, .unset, .unset] [(.int (p1 &&& (2147483647 : Int32)))])) (fun t k => XS.iand X42.here hx rfl (hb hby at_45) rfl k) ?_
  refine own_st (V := T42.setTop (mkF m 48 #[.val (.int p1), .val (.int p2), .val (.int p3), .val (.ref b30), .unset, .unset, .unset, .unset, .unset, .unset, .unset] [(.int (6 : Int32)), (.int (p1 &&& (2147483647 : Int32)))])) (fun t k => XS.bipush X42.here hx rfl (hb hby at_46) k) ?_
  refine own_st (V := T42.setTop (mkF m 49 #[.val (.int p1), .val (.int p2), .val (.int p3), .val (.ref b30), .unset, .unset, .unset, .unset, .unset, .unset, .unset] [(.int ((p1 &&& (2147483647 : Int32)) % (6 : Int32)))])) (fun t k => Jvm.RoadKit.iremM X42 hx rfl (hb hby at_48) rfl (by decide) k) ?_
  rcases own_c p1 with hs49 | hs49 | hs49 | hs49 | hs49 | hs49
  · rw [hs49]
    refine own_st (V := T42.setTop (mkF m 51 #[.val (.int p1), .val (.int p2), .val (.int p3), .val (.ref b30), .val (.int (0 : Int32)), .unset, .unset, .unset, .unset, .unset, .unset] [])) (fun t k => XS.istore X42.here hx rfl (hb hby at_49) rfl (l' := #[.val (.int p1), .val (.int p2), .val (.int p3), .val (.ref b30), .val (.int (0 : Int32)), .unset, .unset, .unset, .unset, .unset, .unset]) rfl k) ?_
    refine own_st (V := T42.setTop (mkF m 52 #[.val (.int p1), .val (.int p2), .val (.int p3), .val (.ref b30), .val (.int (0 : Int32)), .unset, .unset, .unset, .unset, .unset, .unset] [(.ref b30)])) (fun t k => XS.aloadN X42.here hx rfl (hb hby at_51) rfl rfl k) ?_
    refine own_st (V := T42.setTop (mkF m 54 #[.val (.int p1), .val (.int p2), .val (.int p3), .val (.ref b30), .val (.int (0 : Int32)), .unset, .unset, .unset, .unset, .unset, .unset] [(.int (0 : Int32)), (.ref b30)])) (fun t k => XS.iload X42.here hx rfl (hb hby at_52) rfl k) ?_
    have V_b30_43 := V_b30_42
    obtain ⟨cl43, Ar43, qk43, sz43, nn43, hs43, fs43⟩ := V_b30_42
    have hin43 : ¬ ((0 : Int32) < 0 ∨ cl43.slots.size ≤ ((0 : Int32)).toNatClampNeg) := inb_of sz43 ⟨by decide, by decide⟩
    refine own_st (V := T42.setTop (mkF m 55 #[.val (.int p1), .val (.int p2), .val (.int p3), .val (.ref b30), .val (.int (0 : Int32)), .unset, .unset, .unset, .unset, .unset, .unset] [(.ref (A 0))])) (fun t k => X42.aaload hx (j := (0 : Int32)) (v := (.ref (A 0))) (by rw [e42]; exact Ar43.1) (State.isArrayOf_alike hZ.alike Ar43.2.1) rfl Ar43.2.2 hin43 (Has.at hs43 hin43 rfl) (g := (mkF m 54 #[.val (.int p1), .val (.int p2), .val (.int p3), .val (.ref b30), .val (.int (0 : Int32)), .unset, .unset, .unset, .unset, .unset, .unset] [(.int (0 : Int32)), (.ref b30)])) rfl rfl (hb hby at_54) _ k) ?_
    refine own_st (V := T42.setTop (mkF m 57 #[.val (.int p1), .val (.int p2), .val (.int p3), .val (.ref b30), .val (.int (0 : Int32)), .val (.ref (A 0)), .unset, .unset, .unset, .unset, .unset] [])) (fun t k => XS.astore X42.here hx rfl (hb hby at_55) rfl rfl (l' := #[.val (.int p1), .val (.int p2), .val (.int p3), .val (.ref b30), .val (.int (0 : Int32)), .val (.ref (A 0)), .unset, .unset, .unset, .unset, .unset]) rfl k) ?_
    refine own_st (V := T42.setTop (mkF m 58 #[.val (.int p1), .val (.int p2), .val (.int p3), .val (.ref b30), .val (.int (0 : Int32)), .val (.ref (A 0)), .unset, .unset, .unset, .unset, .unset] [(.int p2)])) (fun t k => XS.iloadN X42.here hx rfl (hb hby at_57) rfl k) ?_
    refine own_st (V := T42.setTop (mkF m 60 #[.val (.int p1), .val (.int p2), .val (.int p3), .val (.ref b30), .val (.int (0 : Int32)), .val (.ref (A 0)), .unset, .unset, .unset, .unset, .unset] [(.int (-2147483648 : Int32)), (.int p2)])) (fun t k => X42.ldcInt hx hown (mvT hZ (hw _ (List.mem_of_getElem? (i := 17) rfl))) (g := (mkF m 58 #[.val (.int p1), .val (.int p2), .val (.int p3), .val (.ref b30), .val (.int (0 : Int32)), .val (.ref (A 0)), .unset, .unset, .unset, .unset, .unset] [(.int p2)])) rfl (hb hby at_58) t k) ?_
    refine own_st (V := T42.setTop (mkF m 61 #[.val (.int p1), .val (.int p2), .val (.int p3), .val (.ref b30), .val (.int (0 : Int32)), .val (.ref (A 0)), .unset, .unset, .unset, .unset, .unset] [(.int (p2 ||| (-2147483648 : Int32)))])) (fun t k => XS.ior X42.here hx rfl (hb hby at_60) rfl k) ?_
    refine own_st (V := T42.setTop (mkF m 63 #[.val (.int p1), .val (.int p2), .val (.int p3), .val (.ref b30), .val (.int (0 : Int32)), .val (.ref (A 0)), .val (.int (p2 ||| (-2147483648 : Int32))), .unset, .unset, .unset, .unset] [])) (fun t k => XS.istore X42.here hx rfl (hb hby at_61) rfl (l' := #[.val (.int p1), .val (.int p2), .val (.int p3), .val (.ref b30), .val (.int (0 : Int32)), .val (.ref (A 0)), .val (.int (p2 ||| (-2147483648 : Int32))), .unset, .unset, .unset, .unset]) rfl k) ?_
    refine own_st (V := T42.setTop (mkF m 64 #[.val (.int p1), .val (.int p2), .val (.int p3), .val (.ref b30), .val (.int (0 : Int32)), .val (.ref (A 0)), .val (.int (p2 ||| (-2147483648 : Int32))), .unset, .unset, .unset, .unset] [(.int p3)])) (fun t k => XS.iloadN X42.here hx rfl (hb hby at_63) rfl k) ?_
    refine own_st (V := T42.setTop (mkF m 66 #[.val (.int p1), .val (.int p2), .val (.int p3), .val (.ref b30), .val (.int (0 : Int32)), .val (.ref (A 0)), .val (.int (p2 ||| (-2147483648 : Int32))), .unset, .unset, .unset, .unset] [(.int (2147483647 : Int32)), (.int p3)])) (fun t k => X42.ldcInt hx hown (mvT hZ (hw _ (List.mem_of_getElem? (i := 16) rfl))) (g := (mkF m 64 #[.val (.int p1), .val (.int p2), .val (.int p3), .val (.ref b30), .val (.int (0 : Int32)), .val (.ref (A 0)), .val (.int (p2 ||| (-2147483648 : Int32))), .unset, .unset, .unset, .unset] [(.int p3)])) rfl (hb hby at_64) t k) ?_
    refine own_st (V := T42.setTop (mkF m 67 #[.val (.int p1), .val (.int p2), .val (.int p3), .val (.ref b30), .val (.int (0 : Int32)), .val (.ref (A 0)), .val (.int (p2 ||| (-2147483648 : Int32))), .unset, .unset, .unset, .unset] [(.int (p3 &&& (2147483647 : Int32)))])) (fun t k => XS.iand X42.here hx rfl (hb hby at_66) rfl k) ?_
    refine own_st (V := T42.setTop (mkF m 68 #[.val (.int p1), .val (.int p2), .val (.int p3), .val (.ref b30), .val (.int (0 : Int32)), .val (.ref (A 0)), .val (.int (p2 ||| (-2147483648 : Int32))), .unset, .unset, .unset, .unset] [(.int (1 : Int32)), (.int (p3 &&& (2147483647 : Int32)))])) (fun t k => XS.iconst X42.here hx rfl (hb hby at_67) k) ?_
    refine own_st (V := T42.setTop (mkF m 69 #[.val (.int p1), .val (.int p2), .val (.int p3), .val (.ref b30), .val (.int (0 : Int32)), .val (.ref (A 0)), .val (.int (p2 ||| (-2147483648 : Int32))), .unset, .unset, .unset, .unset] [(.int ((p3 &&& (2147483647 : Int32)) ||| (1 : Int32)))])) (fun t k => XS.ior X42.here hx rfl (hb hby at_68) rfl k) ?_
    refine own_st (V := T42.setTop (mkF m 71 #[.val (.int p1), .val (.int p2), .val (.int p3), .val (.ref b30), .val (.int (0 : Int32)), .val (.ref (A 0)), .val (.int (p2 ||| (-2147483648 : Int32))), .val (.int ((p3 &&& (2147483647 : Int32)) ||| (1 : Int32))), .unset, .unset, .unset] [])) (fun t k => XS.istore X42.here hx rfl (hb hby at_69) rfl (l' := #[.val (.int p1), .val (.int p2), .val (.int p3), .val (.ref b30), .val (.int (0 : Int32)), .val (.ref (A 0)), .val (.int (p2 ||| (-2147483648 : Int32))), .val (.int ((p3 &&& (2147483647 : Int32)) ||| (1 : Int32))), .unset, .unset, .unset]) rfl k) ?_
    refine own_st (V := T42.setTop (mkF m 73 #[.val (.int p1), .val (.int p2), .val (.int p3), .val (.ref b30), .val (.int (0 : Int32)), .val (.ref (A 0)), .val (.int (p2 ||| (-2147483648 : Int32))), .val (.int ((p3 &&& (2147483647 : Int32)) ||| (1 : Int32))), .unset, .unset, .unset] [(.ref (A 0))])) (fun t k => XS.aload X42.here hx rfl (hb hby at_71) rfl rfl k) ?_
    obtain ⟨cq44, kq44, q44a, q44b, q44c⟩ := isOf hZ e42 (own_E En_42 0 (i := 0) (n := "EQUAL") rfl)
    obtain ⟨_, _, ⟨T44, L44, k44, n44⟩, -, X44, ⟨Lc44, hQ44, l44, y44, z44⟩, st44⟩ := X42.virtualBack hx (y := (⟨"com/example/affirm_rows/affirmrows/rules/Comparison", "needsOrder", "()Z"⟩ : MethodName)) (z := (⟨"com/example/affirm_rows/affirmrows/rules/Comparison", "needsOrder", "()Z"⟩ : MethodName)) hown (mvT hZ (hw _ (List.mem_of_getElem? (i := 18) rfl))) (mvT hZ (hw _ (List.mem_of_getElem? (i := 19) rfl))) (notFace_of_selects (args := #[]) (mvT hZ (hw _ (List.mem_of_getElem? (i := 21) rfl)))) (mvT hZ (hw _ (List.mem_of_getElem? (i := 21) rfl))) (mvT hZ (hw _ (List.mem_of_getElem? (i := 20) rfl))) (by decide) (backOf (W := 0) (own_no0 l Z a0 hw [] A h42 n0 Z0_42 En_42 ) hZ (hw _ (List.mem_of_getElem? (i := 22) rfl)) (hw _ (List.mem_of_getElem? (i := 3) rfl)) (by decide) (by decide)) q44a q44c (g := (mkF m 73 #[.val (.int p1), .val (.int p2), .val (.int p3), .val (.ref b30), .val (.int (0 : Int32)), .val (.ref (A 0)), .val (.int (p2 ||| (-2147483648 : Int32))), .val (.int ((p3 &&& (2147483647 : Int32)) ||| (1 : Int32))), .unset, .unset, .unset] [(.ref (A 0))])) rfl (by rw [hml]; rfl) (Steps.refl _) (argsL := []) (rest := []) (lenOf own_pd1 rfl) rfl (by show 2 * 0 + _ ≤ _; exact Nat.le_of_eq rfl) (hb hby at_73) (fun _ _ => ⟨rfl, e42, (by decide : 1 + 0 ≤ _), (by decide : 6 + 0 ≤ _)⟩)
    dsimp only [Pt.U, Pt.locs, Pt.cells, Pt.slots] at X44 l44 y44 z44 st44 hQ44
    subst l44 y44 z44
    obtain ⟨rfl, N44q, e44⟩ := hQ44
    have N44 := Fr.app N42 N44q
    refine own_st (V := T44.setTop (mkF m 76 #[.val (.int p1), .val (.int p2), .val (.int p3), .val (.ref b30), .val (.int (0 : Int32)), .val (.ref (A 0)), .val (.int (p2 ||| (-2147483648 : Int32))), .val (.int ((p3 &&& (2147483647 : Int32)) ||| (1 : Int32))), .unset, .unset, .unset] [(.int (0 : Int32))])) (fun t k => st44.trans k) ?_
    refine own_st (V := T44.setTop (mkF m 78 #[.val (.int p1), .val (.int p2), .val (.int p3), .val (.ref b30), .val (.int (0 : Int32)), .val (.ref (A 0)), .val (.int (p2 ||| (-2147483648 : Int32))), .val (.int ((p3 &&& (2147483647 : Int32)) ||| (1 : Int32))), .val (.int (0 : Int32)), .unset, .unset] [])) (fun t k => XS.istore X44.here hx rfl (hb hby at_76) rfl (l' := #[.val (.int p1), .val (.int p2), .val (.int p3), .val (.ref b30), .val (.int (0 : Int32)), .val (.ref (A 0)), .val (.int (p2 ||| (-2147483648 : Int32))), .val (.int ((p3 &&& (2147483647 : Int32)) ||| (1 : Int32))), .val (.int (0 : Int32)), .unset, .unset]) rfl k) ?_
    refine own_st (V := T44.setTop (mkF m 80 #[.val (.int p1), .val (.int p2), .val (.int p3), .val (.ref b30), .val (.int (0 : Int32)), .val (.ref (A 0)), .val (.int (p2 ||| (-2147483648 : Int32))), .val (.int ((p3 &&& (2147483647 : Int32)) ||| (1 : Int32))), .val (.int (0 : Int32)), .unset, .unset] [(.int (0 : Int32))])) (fun t k => XS.iload X44.here hx rfl (hb hby at_78) rfl k) ?_
    refine own_st (V := T44.setTop (mkF m 81 #[.val (.int p1), .val (.int p2), .val (.int p3), .val (.ref b30), .val (.int (0 : Int32)), .val (.ref (A 0)), .val (.int (p2 ||| (-2147483648 : Int32))), .val (.int ((p3 &&& (2147483647 : Int32)) ||| (1 : Int32))), .val (.int (0 : Int32)), .unset, .unset] [(.int (2 : Int32)), (.int (0 : Int32))])) (fun t k => XS.iconst X44.here hx rfl (hb hby at_80) k) ?_
    refine own_st (V := T44.setTop (mkF m 88 #[.val (.int p1), .val (.int p2), .val (.int p3), .val (.ref b30), .val (.int (0 : Int32)), .val (.ref (A 0)), .val (.int (p2 ||| (-2147483648 : Int32))), .val (.int ((p3 &&& (2147483647 : Int32)) ||| (1 : Int32))), .val (.int (0 : Int32)), .unset, .unset] [])) (fun t k => XS.icmpYes X44.here hx rfl (pc0 := 81) (pc' := 88) rfl (hb hby at_81) rfl (tlt (by decide : (0 : Int32) < (2 : Int32))).1 (by decide) (by decide) k) ?_
    refine own_st (V := T44.setTop (mkF m 89 #[.val (.int p1), .val (.int p2), .val (.int p3), .val (.ref b30), .val (.int (0 : Int32)), .val (.ref (A 0)), .val (.int (p2 ||| (-2147483648 : Int32))), .val (.int ((p3 &&& (2147483647 : Int32)) ||| (1 : Int32))), .val (.int (0 : Int32)), .unset, .unset] [(.int (0 : Int32))])) (fun t k => XS.iconst X44.here hx rfl (hb hby at_88) k) ?_
    refine own_st (V := T44.setTop (mkF m 91 #[.val (.int p1), .val (.int p2), .val (.int p3), .val (.ref b30), .val (.int (0 : Int32)), .val (.ref (A 0)), .val (.int (p2 ||| (-2147483648 : Int32))), .val (.int ((p3 &&& (2147483647 : Int32)) ||| (1 : Int32))), .val (.int (0 : Int32)), .val (.int (0 : Int32)), .unset] [])) (fun t k => XS.istore X44.here hx rfl (hb hby at_89) rfl (l' := #[.val (.int p1), .val (.int p2), .val (.int p3), .val (.ref b30), .val (.int (0 : Int32)), .val (.ref (A 0)), .val (.int (p2 ||| (-2147483648 : Int32))), .val (.int ((p3 &&& (2147483647 : Int32)) ||| (1 : Int32))), .val (.int (0 : Int32)), .val (.int (0 : Int32)), .unset]) rfl k) ?_
    refine own_st (V := T44.setTop (mkF m 93 #[.val (.int p1), .val (.int p2), .val (.int p3), .val (.ref b30), .val (.int (0 : Int32)), .val (.ref (A 0)), .val (.int (p2 ||| (-2147483648 : Int32))), .val (.int ((p3 &&& (2147483647 : Int32)) ||| (1 : Int32))), .val (.int (0 : Int32)), .val (.int (0 : Int32)), .unset] [(.ref (A 0))])) (fun t k => XS.aload X44.here hx rfl (hb hby at_91) rfl rfl k) ?_
    refine own_st (V := T44.setTop (mkF m 95 #[.val (.int p1), .val (.int p2), .val (.int p3), .val (.ref b30), .val (.int (0 : Int32)), .val (.ref (A 0)), .val (.int (p2 ||| (-2147483648 : Int32))), .val (.int ((p3 &&& (2147483647 : Int32)) ||| (1 : Int32))), .val (.int (0 : Int32)), .val (.int (0 : Int32)), .unset] [(.int (p2 ||| (-2147483648 : Int32))), (.ref (A 0))])) (fun t k => XS.iload X44.here hx rfl (hb hby at_93) rfl k) ?_
    obtain ⟨cq45, kq45, q45a, q45b, q45c⟩ := isOf hZ e44 (own_E En_42 0 (i := 0) (n := "EQUAL") rfl)
    obtain ⟨_, _, ⟨T45, L45, k45, n45⟩, -, X45, ⟨Lc45, hQ45, l45, y45, z45⟩, st45⟩ := X44.virtualBack hx (y := (⟨"com/example/affirm_rows/affirmrows/rules/Comparison", "holds", "(I)Z"⟩ : MethodName)) (z := (⟨"com/example/affirm_rows/affirmrows/rules/Comparison", "holds", "(I)Z"⟩ : MethodName)) hown (mvT hZ (hw _ (List.mem_of_getElem? (i := 24) rfl))) (mvT hZ (hw _ (List.mem_of_getElem? (i := 25) rfl))) (notFace_of_selects (args := #[]) (mvT hZ (hw _ (List.mem_of_getElem? (i := 27) rfl)))) (mvT hZ (hw _ (List.mem_of_getElem? (i := 27) rfl))) (mvT hZ (hw _ (List.mem_of_getElem? (i := 26) rfl))) (by decide) (backOf (W := 0) (own_ho0n l Z a0 hw [] (p2 ||| (-2147483648 : Int32)) A h42 n0 Z0_42 En_42 (own_neg p2)) hZ (hw _ (List.mem_of_getElem? (i := 28) rfl)) (hw _ (List.mem_of_getElem? (i := 3) rfl)) (by decide) (by decide)) q45a q45c (g := (mkF m 95 #[.val (.int p1), .val (.int p2), .val (.int p3), .val (.ref b30), .val (.int (0 : Int32)), .val (.ref (A 0)), .val (.int (p2 ||| (-2147483648 : Int32))), .val (.int ((p3 &&& (2147483647 : Int32)) ||| (1 : Int32))), .val (.int (0 : Int32)), .val (.int (0 : Int32)), .unset] [(.int (p2 ||| (-2147483648 : Int32))), (.ref (A 0))])) rfl (by rw [hml]; rfl) (Steps.refl _) (argsL := [(.int (p2 ||| (-2147483648 : Int32)))]) (rest := []) (lenOf own_pd2 rfl) rfl (by show 2 * 0 + _ ≤ _; exact Nat.le_of_eq rfl) (hb hby at_95) (fun _ _ => ⟨rfl, e44, (by decide : 1 + 0 ≤ _), (by decide : 6 + 0 ≤ _)⟩)
    dsimp only [Pt.U, Pt.locs, Pt.cells, Pt.slots] at X45 l45 y45 z45 st45 hQ45
    subst l45 y45 z45
    obtain ⟨rfl, N45q, e45⟩ := hQ45
    have N45 := Fr.app N44 N45q
    refine own_st (V := T45.setTop (mkF m 98 #[.val (.int p1), .val (.int p2), .val (.int p3), .val (.ref b30), .val (.int (0 : Int32)), .val (.ref (A 0)), .val (.int (p2 ||| (-2147483648 : Int32))), .val (.int ((p3 &&& (2147483647 : Int32)) ||| (1 : Int32))), .val (.int (0 : Int32)), .val (.int (0 : Int32)), .unset] [(.int (0 : Int32))])) (fun t k => st45.trans k) ?_
    refine own_st (V := T45.setTop (mkF m 100 #[.val (.int p1), .val (.int p2), .val (.int p3), .val (.ref b30), .val (.int (0 : Int32)), .val (.ref (A 0)), .val (.int (p2 ||| (-2147483648 : Int32))), .val (.int ((p3 &&& (2147483647 : Int32)) ||| (1 : Int32))), .val (.int (0 : Int32)), .val (.int (0 : Int32)), .unset] [(.ref (A 0)), (.int (0 : Int32))])) (fun t k => XS.aload X45.here hx rfl (hb hby at_98) rfl rfl k) ?_
    refine own_st (V := T45.setTop (mkF m 102 #[.val (.int p1), .val (.int p2), .val (.int p3), .val (.ref b30), .val (.int (0 : Int32)), .val (.ref (A 0)), .val (.int (p2 ||| (-2147483648 : Int32))), .val (.int ((p3 &&& (2147483647 : Int32)) ||| (1 : Int32))), .val (.int (0 : Int32)), .val (.int (0 : Int32)), .unset] [(.int ((p3 &&& (2147483647 : Int32)) ||| (1 : Int32))), (.ref (A 0)), (.int (0 : Int32))])) (fun t k => XS.iload X45.here hx rfl (hb hby at_100) rfl k) ?_
    obtain ⟨cq46, kq46, q46a, q46b, q46c⟩ := isOf hZ e45 (own_E En_42 0 (i := 0) (n := "EQUAL") rfl)
    obtain ⟨_, _, ⟨T46, L46, k46, n46⟩, -, X46, ⟨Lc46, hQ46, l46, y46, z46⟩, st46⟩ := X45.virtualBack hx (y := (⟨"com/example/affirm_rows/affirmrows/rules/Comparison", "holds", "(I)Z"⟩ : MethodName)) (z := (⟨"com/example/affirm_rows/affirmrows/rules/Comparison", "holds", "(I)Z"⟩ : MethodName)) hown (mvT hZ (hw _ (List.mem_of_getElem? (i := 24) rfl))) (mvT hZ (hw _ (List.mem_of_getElem? (i := 25) rfl))) (notFace_of_selects (args := #[]) (mvT hZ (hw _ (List.mem_of_getElem? (i := 27) rfl)))) (mvT hZ (hw _ (List.mem_of_getElem? (i := 27) rfl))) (mvT hZ (hw _ (List.mem_of_getElem? (i := 26) rfl))) (by decide) (backOf (W := 1) (own_ho0p l Z a0 hw [] ((p3 &&& (2147483647 : Int32)) ||| (1 : Int32)) A h42 n0 Z0_42 En_42 (own_pos p3)) hZ (hw _ (List.mem_of_getElem? (i := 28) rfl)) (hw _ (List.mem_of_getElem? (i := 3) rfl)) (by decide) (by decide)) q46a q46c (g := (mkF m 102 #[.val (.int p1), .val (.int p2), .val (.int p3), .val (.ref b30), .val (.int (0 : Int32)), .val (.ref (A 0)), .val (.int (p2 ||| (-2147483648 : Int32))), .val (.int ((p3 &&& (2147483647 : Int32)) ||| (1 : Int32))), .val (.int (0 : Int32)), .val (.int (0 : Int32)), .unset] [(.int ((p3 &&& (2147483647 : Int32)) ||| (1 : Int32))), (.ref (A 0)), (.int (0 : Int32))])) rfl (by rw [hml]; rfl) (Steps.refl _) (argsL := [(.int ((p3 &&& (2147483647 : Int32)) ||| (1 : Int32)))]) (rest := [(.int (0 : Int32))]) (lenOf own_pd2 rfl) rfl (by show 2 * 0 + _ ≤ _; exact Nat.le_of_eq rfl) (hb hby at_102) (fun _ _ => ⟨rfl, e45, (by decide : 1 + 0 ≤ _), (by decide : 6 + 0 ≤ _)⟩)
    dsimp only [Pt.U, Pt.locs, Pt.cells, Pt.slots] at X46 l46 y46 z46 st46 hQ46
    subst l46 y46 z46
    obtain ⟨rfl, N46q, e46⟩ := hQ46
    have N46 := Fr.app N45 N46q
    refine own_st (V := T46.setTop (mkF m 105 #[.val (.int p1), .val (.int p2), .val (.int p3), .val (.ref b30), .val (.int (0 : Int32)), .val (.ref (A 0)), .val (.int (p2 ||| (-2147483648 : Int32))), .val (.int ((p3 &&& (2147483647 : Int32)) ||| (1 : Int32))), .val (.int (0 : Int32)), .val (.int (0 : Int32)), .unset] [(.int (0 : Int32)), (.int (0 : Int32))])) (fun t k => st46.trans k) ?_
    refine own_st (V := T46.setTop (mkF m 112 #[.val (.int p1), .val (.int p2), .val (.int p3), .val (.ref b30), .val (.int (0 : Int32)), .val (.ref (A 0)), .val (.int (p2 ||| (-2147483648 : Int32))), .val (.int ((p3 &&& (2147483647 : Int32)) ||| (1 : Int32))), .val (.int (0 : Int32)), .val (.int (0 : Int32)), .unset] [])) (fun t k => XS.icmpYes X46.here hx rfl (pc0 := 105) (pc' := 112) rfl (hb hby at_105) rfl (teq (by decide : (0 : Int32) = (0 : Int32))).1 (by decide) (by decide) k) ?_
    refine own_st (V := T46.setTop (mkF m 113 #[.val (.int p1), .val (.int p2), .val (.int p3), .val (.ref b30), .val (.int (0 : Int32)), .val (.ref (A 0)), .val (.int (p2 ||| (-2147483648 : Int32))), .val (.int ((p3 &&& (2147483647 : Int32)) ||| (1 : Int32))), .val (.int (0 : Int32)), .val (.int (0 : Int32)), .unset] [(.int (0 : Int32))])) (fun t k => XS.iconst X46.here hx rfl (hb hby at_112) k) ?_
    refine own_st (V := T46.setTop (mkF m 115 #[.val (.int p1), .val (.int p2), .val (.int p3), .val (.ref b30), .val (.int (0 : Int32)), .val (.ref (A 0)), .val (.int (p2 ||| (-2147483648 : Int32))), .val (.int ((p3 &&& (2147483647 : Int32)) ||| (1 : Int32))), .val (.int (0 : Int32)), .val (.int (0 : Int32)), .val (.int (0 : Int32))] [])) (fun t k => XS.istore X46.here hx rfl (hb hby at_113) rfl (l' := #[.val (.int p1), .val (.int p2), .val (.int p3), .val (.ref b30), .val (.int (0 : Int32)), .val (.ref (A 0)), .val (.int (p2 ||| (-2147483648 : Int32))), .val (.int ((p3 &&& (2147483647 : Int32)) ||| (1 : Int32))), .val (.int (0 : Int32)), .val (.int (0 : Int32)), .val (.int (0 : Int32))]) rfl k) ?_
    refine own_st (V := T46.setTop (mkF m 117 #[.val (.int p1), .val (.int p2), .val (.int p3), .val (.ref b30), .val (.int (0 : Int32)), .val (.ref (A 0)), .val (.int (p2 ||| (-2147483648 : Int32))), .val (.int ((p3 &&& (2147483647 : Int32)) ||| (1 : Int32))), .val (.int (0 : Int32)), .val (.int (0 : Int32)), .val (.int (0 : Int32))] [(.int (0 : Int32))])) (fun t k => XS.iload X46.here hx rfl (hb hby at_115) rfl k) ?_
    refine own_st (V := T46.setTop (mkF m 119 #[.val (.int p1), .val (.int p2), .val (.int p3), .val (.ref b30), .val (.int (0 : Int32)), .val (.ref (A 0)), .val (.int (p2 ||| (-2147483648 : Int32))), .val (.int ((p3 &&& (2147483647 : Int32)) ||| (1 : Int32))), .val (.int (0 : Int32)), .val (.int (0 : Int32)), .val (.int (0 : Int32))] [(.int (0 : Int32)), (.int (0 : Int32))])) (fun t k => XS.iload X46.here hx rfl (hb hby at_117) rfl k) ?_
    refine own_st (V := T46.setTop (mkF m 122 #[.val (.int p1), .val (.int p2), .val (.int p3), .val (.ref b30), .val (.int (0 : Int32)), .val (.ref (A 0)), .val (.int (p2 ||| (-2147483648 : Int32))), .val (.int ((p3 &&& (2147483647 : Int32)) ||| (1 : Int32))), .val (.int (0 : Int32)), .val (.int (0 : Int32)), .val (.int (0 : Int32))] [])) (fun t k => XS.icmpNo X46.here hx rfl (hb hby at_119) rfl (teq (by decide : (0 : Int32) = (0 : Int32))).2 k) ?_
    refine own_st (V := T46.setTop (mkF m 124 #[.val (.int p1), .val (.int p2), .val (.int p3), .val (.ref b30), .val (.int (0 : Int32)), .val (.ref (A 0)), .val (.int (p2 ||| (-2147483648 : Int32))), .val (.int ((p3 &&& (2147483647 : Int32)) ||| (1 : Int32))), .val (.int (0 : Int32)), .val (.int (0 : Int32)), .val (.int (0 : Int32))] [(.int (0 : Int32))])) (fun t k => XS.iload X46.here hx rfl (hb hby at_122) rfl k) ?_
    refine own_st (V := T46.setTop (mkF m 126 #[.val (.int p1), .val (.int p2), .val (.int p3), .val (.ref b30), .val (.int (0 : Int32)), .val (.ref (A 0)), .val (.int (p2 ||| (-2147483648 : Int32))), .val (.int ((p3 &&& (2147483647 : Int32)) ||| (1 : Int32))), .val (.int (0 : Int32)), .val (.int (0 : Int32)), .val (.int (0 : Int32))] [(.int (0 : Int32)), (.int (0 : Int32))])) (fun t k => XS.iload X46.here hx rfl (hb hby at_124) rfl k) ?_
    refine own_st (V := T46.setTop (mkF m 129 #[.val (.int p1), .val (.int p2), .val (.int p3), .val (.ref b30), .val (.int (0 : Int32)), .val (.ref (A 0)), .val (.int (p2 ||| (-2147483648 : Int32))), .val (.int ((p3 &&& (2147483647 : Int32)) ||| (1 : Int32))), .val (.int (0 : Int32)), .val (.int (0 : Int32)), .val (.int (0 : Int32))] [])) (fun t k => XS.icmpNo X46.here hx rfl (hb hby at_126) rfl (teq (by decide : (0 : Int32) = (0 : Int32))).2 k) ?_
    refine own_st (V := T46.setTop (mkF m 130 #[.val (.int p1), .val (.int p2), .val (.int p3), .val (.ref b30), .val (.int (0 : Int32)), .val (.ref (A 0)), .val (.int (p2 ||| (-2147483648 : Int32))), .val (.int ((p3 &&& (2147483647 : Int32)) ||| (1 : Int32))), .val (.int (0 : Int32)), .val (.int (0 : Int32)), .val (.int (0 : Int32))] [(.int (1 : Int32))])) (fun t k => XS.iconst X46.here hx rfl (hb hby at_129) k) ?_
    refine own_st (V := T46.setTop (mkF m 134 #[.val (.int p1), .val (.int p2), .val (.int p3), .val (.ref b30), .val (.int (0 : Int32)), .val (.ref (A 0)), .val (.int (p2 ||| (-2147483648 : Int32))), .val (.int ((p3 &&& (2147483647 : Int32)) ||| (1 : Int32))), .val (.int (0 : Int32)), .val (.int (0 : Int32)), .val (.int (0 : Int32))] [(.int (1 : Int32))])) (fun t k => XS.goto X46.here hx rfl (pc0 := 130) (pc' := 134) rfl (hb hby at_130) (by decide) (by decide) k) ?_
    exact own_ret X46 hx hlk Bd.returns (by decide +kernel) (Or.inl ⟨rfl, by simp, _, rfl⟩) (hb hby at_134) (by decide) (by decide) ⟨rfl, N46⟩
  · rw [hs49]
    refine own_st (V := T42.setTop (mkF m 51 #[.val (.int p1), .val (.int p2), .val (.int p3), .val (.ref b30), .val (.int (1 : Int32)), .unset, .unset, .unset, .unset, .unset, .unset] [])) (fun t k => XS.istore X42.here hx rfl (hb hby at_49) rfl (l' := #[.val (.int p1), .val (.int p2), .val (.int p3), .val (.ref b30), .val (.int (1 : Int32)), .unset, .unset, .unset, .unset, .unset, .unset]) rfl k) ?_
    refine own_st (V := T42.setTop (mkF m 52 #[.val (.int p1), .val (.int p2), .val (.int p3), .val (.ref b30), .val (.int (1 : Int32)), .unset, .unset, .unset, .unset, .unset, .unset] [(.ref b30)])) (fun t k => XS.aloadN X42.here hx rfl (hb hby at_51) rfl rfl k) ?_
    refine own_st (V := T42.setTop (mkF m 54 #[.val (.int p1), .val (.int p2), .val (.int p3), .val (.ref b30), .val (.int (1 : Int32)), .unset, .unset, .unset, .unset, .unset, .unset] [(.int (1 : Int32)), (.ref b30)])) (fun t k => XS.iload X42.here hx rfl (hb hby at_52) rfl k) ?_
    have V_b30_47 := V_b30_42
    obtain ⟨cl47, Ar47, qk47, sz47, nn47, hs47, fs47⟩ := V_b30_42
    have hin47 : ¬ ((1 : Int32) < 0 ∨ cl47.slots.size ≤ ((1 : Int32)).toNatClampNeg) := inb_of sz47 ⟨by decide, by decide⟩
    refine own_st (V := T42.setTop (mkF m 55 #[.val (.int p1), .val (.int p2), .val (.int p3), .val (.ref b30), .val (.int (1 : Int32)), .unset, .unset, .unset, .unset, .unset, .unset] [(.ref (A 1))])) (fun t k => X42.aaload hx (j := (1 : Int32)) (v := (.ref (A 1))) (by rw [e42]; exact Ar47.1) (State.isArrayOf_alike hZ.alike Ar47.2.1) rfl Ar47.2.2 hin47 (Has.at hs47 hin47 rfl) (g := (mkF m 54 #[.val (.int p1), .val (.int p2), .val (.int p3), .val (.ref b30), .val (.int (1 : Int32)), .unset, .unset, .unset, .unset, .unset, .unset] [(.int (1 : Int32)), (.ref b30)])) rfl rfl (hb hby at_54) _ k) ?_
    refine own_st (V := T42.setTop (mkF m 57 #[.val (.int p1), .val (.int p2), .val (.int p3), .val (.ref b30), .val (.int (1 : Int32)), .val (.ref (A 1)), .unset, .unset, .unset, .unset, .unset] [])) (fun t k => XS.astore X42.here hx rfl (hb hby at_55) rfl rfl (l' := #[.val (.int p1), .val (.int p2), .val (.int p3), .val (.ref b30), .val (.int (1 : Int32)), .val (.ref (A 1)), .unset, .unset, .unset, .unset, .unset]) rfl k) ?_
    refine own_st (V := T42.setTop (mkF m 58 #[.val (.int p1), .val (.int p2), .val (.int p3), .val (.ref b30), .val (.int (1 : Int32)), .val (.ref (A 1)), .unset, .unset, .unset, .unset, .unset] [(.int p2)])) (fun t k => XS.iloadN X42.here hx rfl (hb hby at_57) rfl k) ?_
    refine own_st (V := T42.setTop (mkF m 60 #[.val (.int p1), .val (.int p2), .val (.int p3), .val (.ref b30), .val (.int (1 : Int32)), .val (.ref (A 1)), .unset, .unset, .unset, .unset, .unset] [(.int (-2147483648 : Int32)), (.int p2)])) (fun t k => X42.ldcInt hx hown (mvT hZ (hw _ (List.mem_of_getElem? (i := 17) rfl))) (g := (mkF m 58 #[.val (.int p1), .val (.int p2), .val (.int p3), .val (.ref b30), .val (.int (1 : Int32)), .val (.ref (A 1)), .unset, .unset, .unset, .unset, .unset] [(.int p2)])) rfl (hb hby at_58) t k) ?_
    refine own_st (V := T42.setTop (mkF m 61 #[.val (.int p1), .val (.int p2), .val (.int p3), .val (.ref b30), .val (.int (1 : Int32)), .val (.ref (A 1)), .unset, .unset, .unset, .unset, .unset] [(.int (p2 ||| (-2147483648 : Int32)))])) (fun t k => XS.ior X42.here hx rfl (hb hby at_60) rfl k) ?_
    refine own_st (V := T42.setTop (mkF m 63 #[.val (.int p1), .val (.int p2), .val (.int p3), .val (.ref b30), .val (.int (1 : Int32)), .val (.ref (A 1)), .val (.int (p2 ||| (-2147483648 : Int32))), .unset, .unset, .unset, .unset] [])) (fun t k => XS.istore X42.here hx rfl (hb hby at_61) rfl (l' := #[.val (.int p1), .val (.int p2), .val (.int p3), .val (.ref b30), .val (.int (1 : Int32)), .val (.ref (A 1)), .val (.int (p2 ||| (-2147483648 : Int32))), .unset, .unset, .unset, .unset]) rfl k) ?_
    refine own_st (V := T42.setTop (mkF m 64 #[.val (.int p1), .val (.int p2), .val (.int p3), .val (.ref b30), .val (.int (1 : Int32)), .val (.ref (A 1)), .val (.int (p2 ||| (-2147483648 : Int32))), .unset, .unset, .unset, .unset] [(.int p3)])) (fun t k => XS.iloadN X42.here hx rfl (hb hby at_63) rfl k) ?_
    refine own_st (V := T42.setTop (mkF m 66 #[.val (.int p1), .val (.int p2), .val (.int p3), .val (.ref b30), .val (.int (1 : Int32)), .val (.ref (A 1)), .val (.int (p2 ||| (-2147483648 : Int32))), .unset, .unset, .unset, .unset] [(.int (2147483647 : Int32)), (.int p3)])) (fun t k => X42.ldcInt hx hown (mvT hZ (hw _ (List.mem_of_getElem? (i := 16) rfl))) (g := (mkF m 64 #[.val (.int p1), .val (.int p2), .val (.int p3), .val (.ref b30), .val (.int (1 : Int32)), .val (.ref (A 1)), .val (.int (p2 ||| (-2147483648 : Int32))), .unset, .unset, .unset, .unset] [(.int p3)])) rfl (hb hby at_64) t k) ?_
    refine own_st (V := T42.setTop (mkF m 67 #[.val (.int p1), .val (.int p2), .val (.int p3), .val (.ref b30), .val (.int (1 : Int32)), .val (.ref (A 1)), .val (.int (p2 ||| (-2147483648 : Int32))), .unset, .unset, .unset, .unset] [(.int (p3 &&& (2147483647 : Int32)))])) (fun t k => XS.iand X42.here hx rfl (hb hby at_66) rfl k) ?_
    refine own_st (V := T42.setTop (mkF m 68 #[.val (.int p1), .val (.int p2), .val (.int p3), .val (.ref b30), .val (.int (1 : Int32)), .val (.ref (A 1)), .val (.int (p2 ||| (-2147483648 : Int32))), .unset, .unset, .unset, .unset] [(.int (1 : Int32)), (.int (p3 &&& (2147483647 : Int32)))])) (fun t k => XS.iconst X42.here hx rfl (hb hby at_67) k) ?_
    refine own_st (V := T42.setTop (mkF m 69 #[.val (.int p1), .val (.int p2), .val (.int p3), .val (.ref b30), .val (.int (1 : Int32)), .val (.ref (A 1)), .val (.int (p2 ||| (-2147483648 : Int32))), .unset, .unset, .unset, .unset] [(.int ((p3 &&& (2147483647 : Int32)) ||| (1 : Int32)))])) (fun t k => XS.ior X42.here hx rfl (hb hby at_68) rfl k) ?_
    refine own_st (V := T42.setTop (mkF m 71 #[.val (.int p1), .val (.int p2), .val (.int p3), .val (.ref b30), .val (.int (1 : Int32)), .val (.ref (A 1)), .val (.int (p2 ||| (-2147483648 : Int32))), .val (.int ((p3 &&& (2147483647 : Int32)) ||| (1 : Int32))), .unset, .unset, .unset] [])) (fun t k => XS.istore X42.here hx rfl (hb hby at_69) rfl (l' := #[.val (.int p1), .val (.int p2), .val (.int p3), .val (.ref b30), .val (.int (1 : Int32)), .val (.ref (A 1)), .val (.int (p2 ||| (-2147483648 : Int32))), .val (.int ((p3 &&& (2147483647 : Int32)) ||| (1 : Int32))), .unset, .unset, .unset]) rfl k) ?_
    refine own_st (V := T42.setTop (mkF m 73 #[.val (.int p1), .val (.int p2), .val (.int p3), .val (.ref b30), .val (.int (1 : Int32)), .val (.ref (A 1)), .val (.int (p2 ||| (-2147483648 : Int32))), .val (.int ((p3 &&& (2147483647 : Int32)) ||| (1 : Int32))), .unset, .unset, .unset] [(.ref (A 1))])) (fun t k => XS.aload X42.here hx rfl (hb hby at_71) rfl rfl k) ?_
    obtain ⟨cq48, kq48, q48a, q48b, q48c⟩ := isOf hZ e42 (own_E En_42 1 (i := 1) (n := "NOT_EQUAL") rfl)
    obtain ⟨_, _, ⟨T48, L48, k48, n48⟩, -, X48, ⟨Lc48, hQ48, l48, y48, z48⟩, st48⟩ := X42.virtualBack hx (y := (⟨"com/example/affirm_rows/affirmrows/rules/Comparison", "needsOrder", "()Z"⟩ : MethodName)) (z := (⟨"com/example/affirm_rows/affirmrows/rules/Comparison", "needsOrder", "()Z"⟩ : MethodName)) hown (mvT hZ (hw _ (List.mem_of_getElem? (i := 18) rfl))) (mvT hZ (hw _ (List.mem_of_getElem? (i := 19) rfl))) (notFace_of_selects (args := #[]) (mvT hZ (hw _ (List.mem_of_getElem? (i := 21) rfl)))) (mvT hZ (hw _ (List.mem_of_getElem? (i := 21) rfl))) (mvT hZ (hw _ (List.mem_of_getElem? (i := 20) rfl))) (by decide) (backOf (W := 0) (own_no1 l Z a0 hw [] A h42 n0 Z0_42 En_42 ) hZ (hw _ (List.mem_of_getElem? (i := 22) rfl)) (hw _ (List.mem_of_getElem? (i := 3) rfl)) (by decide) (by decide)) q48a q48c (g := (mkF m 73 #[.val (.int p1), .val (.int p2), .val (.int p3), .val (.ref b30), .val (.int (1 : Int32)), .val (.ref (A 1)), .val (.int (p2 ||| (-2147483648 : Int32))), .val (.int ((p3 &&& (2147483647 : Int32)) ||| (1 : Int32))), .unset, .unset, .unset] [(.ref (A 1))])) rfl (by rw [hml]; rfl) (Steps.refl _) (argsL := []) (rest := []) (lenOf own_pd1 rfl) rfl (by show 2 * 0 + _ ≤ _; exact Nat.le_of_eq rfl) (hb hby at_73) (fun _ _ => ⟨rfl, e42, (by decide : 1 + 0 ≤ _), (by decide : 6 + 0 ≤ _)⟩)
    dsimp only [Pt.U, Pt.locs, Pt.cells, Pt.slots] at X48 l48 y48 z48 st48 hQ48
    subst l48 y48 z48
    obtain ⟨rfl, N48q, e48⟩ := hQ48
    have N48 := Fr.app N42 N48q
    refine own_st (V := T48.setTop (mkF m 76 #[.val (.int p1), .val (.int p2), .val (.int p3), .val (.ref b30), .val (.int (1 : Int32)), .val (.ref (A 1)), .val (.int (p2 ||| (-2147483648 : Int32))), .val (.int ((p3 &&& (2147483647 : Int32)) ||| (1 : Int32))), .unset, .unset, .unset] [(.int (0 : Int32))])) (fun t k => st48.trans k) ?_
    refine own_st (V := T48.setTop (mkF m 78 #[.val (.int p1), .val (.int p2), .val (.int p3), .val (.ref b30), .val (.int (1 : Int32)), .val (.ref (A 1)), .val (.int (p2 ||| (-2147483648 : Int32))), .val (.int ((p3 &&& (2147483647 : Int32)) ||| (1 : Int32))), .val (.int (0 : Int32)), .unset, .unset] [])) (fun t k => XS.istore X48.here hx rfl (hb hby at_76) rfl (l' := #[.val (.int p1), .val (.int p2), .val (.int p3), .val (.ref b30), .val (.int (1 : Int32)), .val (.ref (A 1)), .val (.int (p2 ||| (-2147483648 : Int32))), .val (.int ((p3 &&& (2147483647 : Int32)) ||| (1 : Int32))), .val (.int (0 : Int32)), .unset, .unset]) rfl k) ?_
    refine own_st (V := T48.setTop (mkF m 80 #[.val (.int p1), .val (.int p2), .val (.int p3), .val (.ref b30), .val (.int (1 : Int32)), .val (.ref (A 1)), .val (.int (p2 ||| (-2147483648 : Int32))), .val (.int ((p3 &&& (2147483647 : Int32)) ||| (1 : Int32))), .val (.int (0 : Int32)), .unset, .unset] [(.int (1 : Int32))])) (fun t k => XS.iload X48.here hx rfl (hb hby at_78) rfl k) ?_
    refine own_st (V := T48.setTop (mkF m 81 #[.val (.int p1), .val (.int p2), .val (.int p3), .val (.ref b30), .val (.int (1 : Int32)), .val (.ref (A 1)), .val (.int (p2 ||| (-2147483648 : Int32))), .val (.int ((p3 &&& (2147483647 : Int32)) ||| (1 : Int32))), .val (.int (0 : Int32)), .unset, .unset] [(.int (2 : Int32)), (.int (1 : Int32))])) (fun t k => XS.iconst X48.here hx rfl (hb hby at_80) k) ?_
    refine own_st (V := T48.setTop (mkF m 88 #[.val (.int p1), .val (.int p2), .val (.int p3), .val (.ref b30), .val (.int (1 : Int32)), .val (.ref (A 1)), .val (.int (p2 ||| (-2147483648 : Int32))), .val (.int ((p3 &&& (2147483647 : Int32)) ||| (1 : Int32))), .val (.int (0 : Int32)), .unset, .unset] [])) (fun t k => XS.icmpYes X48.here hx rfl (pc0 := 81) (pc' := 88) rfl (hb hby at_81) rfl (tlt (by decide : (1 : Int32) < (2 : Int32))).1 (by decide) (by decide) k) ?_
    refine own_st (V := T48.setTop (mkF m 89 #[.val (.int p1), .val (.int p2), .val (.int p3), .val (.ref b30), .val (.int (1 : Int32)), .val (.ref (A 1)), .val (.int (p2 ||| (-2147483648 : Int32))), .val (.int ((p3 &&& (2147483647 : Int32)) ||| (1 : Int32))), .val (.int (0 : Int32)), .unset, .unset] [(.int (0 : Int32))])) (fun t k => XS.iconst X48.here hx rfl (hb hby at_88) k) ?_
    refine own_st (V := T48.setTop (mkF m 91 #[.val (.int p1), .val (.int p2), .val (.int p3), .val (.ref b30), .val (.int (1 : Int32)), .val (.ref (A 1)), .val (.int (p2 ||| (-2147483648 : Int32))), .val (.int ((p3 &&& (2147483647 : Int32)) ||| (1 : Int32))), .val (.int (0 : Int32)), .val (.int (0 : Int32)), .unset] [])) (fun t k => XS.istore X48.here hx rfl (hb hby at_89) rfl (l' := #[.val (.int p1), .val (.int p2), .val (.int p3), .val (.ref b30), .val (.int (1 : Int32)), .val (.ref (A 1)), .val (.int (p2 ||| (-2147483648 : Int32))), .val (.int ((p3 &&& (2147483647 : Int32)) ||| (1 : Int32))), .val (.int (0 : Int32)), .val (.int (0 : Int32)), .unset]) rfl k) ?_
    refine own_st (V := T48.setTop (mkF m 93 #[.val (.int p1), .val (.int p2), .val (.int p3), .val (.ref b30), .val (.int (1 : Int32)), .val (.ref (A 1)), .val (.int (p2 ||| (-2147483648 : Int32))), .val (.int ((p3 &&& (2147483647 : Int32)) ||| (1 : Int32))), .val (.int (0 : Int32)), .val (.int (0 : Int32)), .unset] [(.ref (A 1))])) (fun t k => XS.aload X48.here hx rfl (hb hby at_91) rfl rfl k) ?_
    refine own_st (V := T48.setTop (mkF m 95 #[.val (.int p1), .val (.int p2), .val (.int p3), .val (.ref b30), .val (.int (1 : Int32)), .val (.ref (A 1)), .val (.int (p2 ||| (-2147483648 : Int32))), .val (.int ((p3 &&& (2147483647 : Int32)) ||| (1 : Int32))), .val (.int (0 : Int32)), .val (.int (0 : Int32)), .unset] [(.int (p2 ||| (-2147483648 : Int32))), (.ref (A 1))])) (fun t k => XS.iload X48.here hx rfl (hb hby at_93) rfl k) ?_
    obtain ⟨cq49, kq49, q49a, q49b, q49c⟩ := isOf hZ e48 (own_E En_42 1 (i := 1) (n := "NOT_EQUAL") rfl)
    obtain ⟨_, _, ⟨T49, L49, k49, n49⟩, -, X49, ⟨Lc49, hQ49, l49, y49, z49⟩, st49⟩ := X48.virtualBack hx (y := (⟨"com/example/affirm_rows/affirmrows/rules/Comparison", "holds", "(I)Z"⟩ : MethodName)) (z := (⟨"com/example/affirm_rows/affirmrows/rules/Comparison", "holds", "(I)Z"⟩ : MethodName)) hown (mvT hZ (hw _ (List.mem_of_getElem? (i := 24) rfl))) (mvT hZ (hw _ (List.mem_of_getElem? (i := 25) rfl))) (notFace_of_selects (args := #[]) (mvT hZ (hw _ (List.mem_of_getElem? (i := 27) rfl)))) (mvT hZ (hw _ (List.mem_of_getElem? (i := 27) rfl))) (mvT hZ (hw _ (List.mem_of_getElem? (i := 26) rfl))) (by decide) (backOf (W := 0) (own_ho1n l Z a0 hw [] (p2 ||| (-2147483648 : Int32)) A h42 n0 Z0_42 En_42 (own_neg p2)) hZ (hw _ (List.mem_of_getElem? (i := 28) rfl)) (hw _ (List.mem_of_getElem? (i := 3) rfl)) (by decide) (by decide)) q49a q49c (g := (mkF m 95 #[.val (.int p1), .val (.int p2), .val (.int p3), .val (.ref b30), .val (.int (1 : Int32)), .val (.ref (A 1)), .val (.int (p2 ||| (-2147483648 : Int32))), .val (.int ((p3 &&& (2147483647 : Int32)) ||| (1 : Int32))), .val (.int (0 : Int32)), .val (.int (0 : Int32)), .unset] [(.int (p2 ||| (-2147483648 : Int32))), (.ref (A 1))])) rfl (by rw [hml]; rfl) (Steps.refl _) (argsL := [(.int (p2 ||| (-2147483648 : Int32)))]) (rest := []) (lenOf own_pd2 rfl) rfl (by show 2 * 0 + _ ≤ _; exact Nat.le_of_eq rfl) (hb hby at_95) (fun _ _ => ⟨rfl, e48, (by decide : 1 + 0 ≤ _), (by decide : 6 + 0 ≤ _)⟩)
    dsimp only [Pt.U, Pt.locs, Pt.cells, Pt.slots] at X49 l49 y49 z49 st49 hQ49
    subst l49 y49 z49
    obtain ⟨rfl, N49q, e49⟩ := hQ49
    have N49 := Fr.app N48 N49q
    refine own_st (V := T49.setTop (mkF m 98 #[.val (.int p1), .val (.int p2), .val (.int p3), .val (.ref b30), .val (.int (1 : Int32)), .val (.ref (A 1)), .val (.int (p2 ||| (-2147483648 : Int32))), .val (.int ((p3 &&& (2147483647 : Int32)) ||| (1 : Int32))), .val (.int (0 : Int32)), .val (.int (0 : Int32)), .unset] [(.int (1 : Int32))])) (fun t k => st49.trans k) ?_
    refine own_st (V := T49.setTop (mkF m 100 #[.val (.int p1), .val (.int p2), .val (.int p3), .val (.ref b30), .val (.int (1 : Int32)), .val (.ref (A 1)), .val (.int (p2 ||| (-2147483648 : Int32))), .val (.int ((p3 &&& (2147483647 : Int32)) ||| (1 : Int32))), .val (.int (0 : Int32)), .val (.int (0 : Int32)), .unset] [(.ref (A 1)), (.int (1 : Int32))])) (fun t k => XS.aload X49.here hx rfl (hb hby at_98) rfl rfl k) ?_
    refine own_st (V := T49.setTop (mkF m 102 #[.val (.int p1), .val (.int p2), .val (.int p3), .val (.ref b30), .val (.int (1 : Int32)), .val (.ref (A 1)), .val (.int (p2 ||| (-2147483648 : Int32))), .val (.int ((p3 &&& (2147483647 : Int32)) ||| (1 : Int32))), .val (.int (0 : Int32)), .val (.int (0 : Int32)), .unset] [(.int ((p3 &&& (2147483647 : Int32)) ||| (1 : Int32))), (.ref (A 1)), (.int (1 : Int32))])) (fun t k => XS.iload X49.here hx rfl (hb hby at_100) rfl k) ?_
    obtain ⟨cq50, kq50, q50a, q50b, q50c⟩ := isOf hZ e49 (own_E En_42 1 (i := 1) (n := "NOT_EQUAL") rfl)
    obtain ⟨_, _, ⟨T50, L50, k50, n50⟩, -, X50, ⟨Lc50, hQ50, l50, y50, z50⟩, st50⟩ := X49.virtualBack hx (y := (⟨"com/example/affirm_rows/affirmrows/rules/Comparison", "holds", "(I)Z"⟩ : MethodName)) (z := (⟨"com/example/affirm_rows/affirmrows/rules/Comparison", "holds", "(I)Z"⟩ : MethodName)) hown (mvT hZ (hw _ (List.mem_of_getElem? (i := 24) rfl))) (mvT hZ (hw _ (List.mem_of_getElem? (i := 25) rfl))) (notFace_of_selects (args := #[]) (mvT hZ (hw _ (List.mem_of_getElem? (i := 27) rfl)))) (mvT hZ (hw _ (List.mem_of_getElem? (i := 27) rfl))) (mvT hZ (hw _ (List.mem_of_getElem? (i := 26) rfl))) (by decide) (backOf (W := 1) (own_ho1p l Z a0 hw [] ((p3 &&& (2147483647 : Int32)) ||| (1 : Int32)) A h42 n0 Z0_42 En_42 (own_pos p3)) hZ (hw _ (List.mem_of_getElem? (i := 28) rfl)) (hw _ (List.mem_of_getElem? (i := 3) rfl)) (by decide) (by decide)) q50a q50c (g := (mkF m 102 #[.val (.int p1), .val (.int p2), .val (.int p3), .val (.ref b30), .val (.int (1 : Int32)), .val (.ref (A 1)), .val (.int (p2 ||| (-2147483648 : Int32))), .val (.int ((p3 &&& (2147483647 : Int32)) ||| (1 : Int32))), .val (.int (0 : Int32)), .val (.int (0 : Int32)), .unset] [(.int ((p3 &&& (2147483647 : Int32)) ||| (1 : Int32))), (.ref (A 1)), (.int (1 : Int32))])) rfl (by rw [hml]; rfl) (Steps.refl _) (argsL := [(.int ((p3 &&& (2147483647 : Int32)) ||| (1 : Int32)))]) (rest := [(.int (1 : Int32))]) (lenOf own_pd2 rfl) rfl (by show 2 * 0 + _ ≤ _; exact Nat.le_of_eq rfl) (hb hby at_102) (fun _ _ => ⟨rfl, e49, (by decide : 1 + 0 ≤ _), (by decide : 6 + 0 ≤ _)⟩)
    dsimp only [Pt.U, Pt.locs, Pt.cells, Pt.slots] at X50 l50 y50 z50 st50 hQ50
    subst l50 y50 z50
    obtain ⟨rfl, N50q, e50⟩ := hQ50
    have N50 := Fr.app N49 N50q
    refine own_st (V := T50.setTop (mkF m 105 #[.val (.int p1), .val (.int p2), .val (.int p3), .val (.ref b30), .val (.int (1 : Int32)), .val (.ref (A 1)), .val (.int (p2 ||| (-2147483648 : Int32))), .val (.int ((p3 &&& (2147483647 : Int32)) ||| (1 : Int32))), .val (.int (0 : Int32)), .val (.int (0 : Int32)), .unset] [(.int (1 : Int32)), (.int (1 : Int32))])) (fun t k => st50.trans k) ?_
    refine own_st (V := T50.setTop (mkF m 112 #[.val (.int p1), .val (.int p2), .val (.int p3), .val (.ref b30), .val (.int (1 : Int32)), .val (.ref (A 1)), .val (.int (p2 ||| (-2147483648 : Int32))), .val (.int ((p3 &&& (2147483647 : Int32)) ||| (1 : Int32))), .val (.int (0 : Int32)), .val (.int (0 : Int32)), .unset] [])) (fun t k => XS.icmpYes X50.here hx rfl (pc0 := 105) (pc' := 112) rfl (hb hby at_105) rfl (teq (by decide : (1 : Int32) = (1 : Int32))).1 (by decide) (by decide) k) ?_
    refine own_st (V := T50.setTop (mkF m 113 #[.val (.int p1), .val (.int p2), .val (.int p3), .val (.ref b30), .val (.int (1 : Int32)), .val (.ref (A 1)), .val (.int (p2 ||| (-2147483648 : Int32))), .val (.int ((p3 &&& (2147483647 : Int32)) ||| (1 : Int32))), .val (.int (0 : Int32)), .val (.int (0 : Int32)), .unset] [(.int (0 : Int32))])) (fun t k => XS.iconst X50.here hx rfl (hb hby at_112) k) ?_
    refine own_st (V := T50.setTop (mkF m 115 #[.val (.int p1), .val (.int p2), .val (.int p3), .val (.ref b30), .val (.int (1 : Int32)), .val (.ref (A 1)), .val (.int (p2 ||| (-2147483648 : Int32))), .val (.int ((p3 &&& (2147483647 : Int32)) ||| (1 : Int32))), .val (.int (0 : Int32)), .val (.int (0 : Int32)), .val (.int (0 : Int32))] [])) (fun t k => XS.istore X50.here hx rfl (hb hby at_113) rfl (l' := #[.val (.int p1), .val (.int p2), .val (.int p3), .val (.ref b30), .val (.int (1 : Int32)), .val (.ref (A 1)), .val (.int (p2 ||| (-2147483648 : Int32))), .val (.int ((p3 &&& (2147483647 : Int32)) ||| (1 : Int32))), .val (.int (0 : Int32)), .val (.int (0 : Int32)), .val (.int (0 : Int32))]) rfl k) ?_
    refine own_st (V := T50.setTop (mkF m 117 #[.val (.int p1), .val (.int p2), .val (.int p3), .val (.ref b30), .val (.int (1 : Int32)), .val (.ref (A 1)), .val (.int (p2 ||| (-2147483648 : Int32))), .val (.int ((p3 &&& (2147483647 : Int32)) ||| (1 : Int32))), .val (.int (0 : Int32)), .val (.int (0 : Int32)), .val (.int (0 : Int32))] [(.int (0 : Int32))])) (fun t k => XS.iload X50.here hx rfl (hb hby at_115) rfl k) ?_
    refine own_st (V := T50.setTop (mkF m 119 #[.val (.int p1), .val (.int p2), .val (.int p3), .val (.ref b30), .val (.int (1 : Int32)), .val (.ref (A 1)), .val (.int (p2 ||| (-2147483648 : Int32))), .val (.int ((p3 &&& (2147483647 : Int32)) ||| (1 : Int32))), .val (.int (0 : Int32)), .val (.int (0 : Int32)), .val (.int (0 : Int32))] [(.int (0 : Int32)), (.int (0 : Int32))])) (fun t k => XS.iload X50.here hx rfl (hb hby at_117) rfl k) ?_
    refine own_st (V := T50.setTop (mkF m 122 #[.val (.int p1), .val (.int p2), .val (.int p3), .val (.ref b30), .val (.int (1 : Int32)), .val (.ref (A 1)), .val (.int (p2 ||| (-2147483648 : Int32))), .val (.int ((p3 &&& (2147483647 : Int32)) ||| (1 : Int32))), .val (.int (0 : Int32)), .val (.int (0 : Int32)), .val (.int (0 : Int32))] [])) (fun t k => XS.icmpNo X50.here hx rfl (hb hby at_119) rfl (teq (by decide : (0 : Int32) = (0 : Int32))).2 k) ?_
    refine own_st (V := T50.setTop (mkF m 124 #[.val (.int p1), .val (.int p2), .val (.int p3), .val (.ref b30), .val (.int (1 : Int32)), .val (.ref (A 1)), .val (.int (p2 ||| (-2147483648 : Int32))), .val (.int ((p3 &&& (2147483647 : Int32)) ||| (1 : Int32))), .val (.int (0 : Int32)), .val (.int (0 : Int32)), .val (.int (0 : Int32))] [(.int (0 : Int32))])) (fun t k => XS.iload X50.here hx rfl (hb hby at_122) rfl k) ?_
    refine own_st (V := T50.setTop (mkF m 126 #[.val (.int p1), .val (.int p2), .val (.int p3), .val (.ref b30), .val (.int (1 : Int32)), .val (.ref (A 1)), .val (.int (p2 ||| (-2147483648 : Int32))), .val (.int ((p3 &&& (2147483647 : Int32)) ||| (1 : Int32))), .val (.int (0 : Int32)), .val (.int (0 : Int32)), .val (.int (0 : Int32))] [(.int (0 : Int32)), (.int (0 : Int32))])) (fun t k => XS.iload X50.here hx rfl (hb hby at_124) rfl k) ?_
    refine own_st (V := T50.setTop (mkF m 129 #[.val (.int p1), .val (.int p2), .val (.int p3), .val (.ref b30), .val (.int (1 : Int32)), .val (.ref (A 1)), .val (.int (p2 ||| (-2147483648 : Int32))), .val (.int ((p3 &&& (2147483647 : Int32)) ||| (1 : Int32))), .val (.int (0 : Int32)), .val (.int (0 : Int32)), .val (.int (0 : Int32))] [])) (fun t k => XS.icmpNo X50.here hx rfl (hb hby at_126) rfl (teq (by decide : (0 : Int32) = (0 : Int32))).2 k) ?_
    refine own_st (V := T50.setTop (mkF m 130 #[.val (.int p1), .val (.int p2), .val (.int p3), .val (.ref b30), .val (.int (1 : Int32)), .val (.ref (A 1)), .val (.int (p2 ||| (-2147483648 : Int32))), .val (.int ((p3 &&& (2147483647 : Int32)) ||| (1 : Int32))), .val (.int (0 : Int32)), .val (.int (0 : Int32)), .val (.int (0 : Int32))] [(.int (1 : Int32))])) (fun t k => XS.iconst X50.here hx rfl (hb hby at_129) k) ?_
    refine own_st (V := T50.setTop (mkF m 134 #[.val (.int p1), .val (.int p2), .val (.int p3), .val (.ref b30), .val (.int (1 : Int32)), .val (.ref (A 1)), .val (.int (p2 ||| (-2147483648 : Int32))), .val (.int ((p3 &&& (2147483647 : Int32)) ||| (1 : Int32))), .val (.int (0 : Int32)), .val (.int (0 : Int32)), .val (.int (0 : Int32))] [(.int (1 : Int32))])) (fun t k => XS.goto X50.here hx rfl (pc0 := 130) (pc' := 134) rfl (hb hby at_130) (by decide) (by decide) k) ?_
    exact own_ret X50 hx hlk Bd.returns (by decide +kernel) (Or.inl ⟨rfl, by simp, _, rfl⟩) (hb hby at_134) (by decide) (by decide) ⟨rfl, N50⟩
  · rw [hs49]
    refine own_st (V := T42.setTop (mkF m 51 #[.val (.int p1), .val (.int p2), .val (.int p3), .val (.ref b30), .val (.int (2 : Int32)), .unset, .unset, .unset, .unset, .unset, .unset] [])) (fun t k => XS.istore X42.here hx rfl (hb hby at_49) rfl (l' := #[.val (.int p1), .val (.int p2), .val (.int p3), .val (.ref b30), .val (.int (2 : Int32)), .unset, .unset, .unset, .unset, .unset, .unset]) rfl k) ?_
    refine own_st (V := T42.setTop (mkF m 52 #[.val (.int p1), .val (.int p2), .val (.int p3), .val (.ref b30), .val (.int (2 : Int32)), .unset, .unset, .unset, .unset, .unset, .unset] [(.ref b30)])) (fun t k => XS.aloadN X42.here hx rfl (hb hby at_51) rfl rfl k) ?_
    refine own_st (V := T42.setTop (mkF m 54 #[.val (.int p1), .val (.int p2), .val (.int p3), .val (.ref b30), .val (.int (2 : Int32)), .unset, .unset, .unset, .unset, .unset, .unset] [(.int (2 : Int32)), (.ref b30)])) (fun t k => XS.iload X42.here hx rfl (hb hby at_52) rfl k) ?_
    have V_b30_51 := V_b30_42
    obtain ⟨cl51, Ar51, qk51, sz51, nn51, hs51, fs51⟩ := V_b30_42
    have hin51 : ¬ ((2 : Int32) < 0 ∨ cl51.slots.size ≤ ((2 : Int32)).toNatClampNeg) := inb_of sz51 ⟨by decide, by decide⟩
    refine own_st (V := T42.setTop (mkF m 55 #[.val (.int p1), .val (.int p2), .val (.int p3), .val (.ref b30), .val (.int (2 : Int32)), .unset, .unset, .unset, .unset, .unset, .unset] [(.ref (A 2))])) (fun t k => X42.aaload hx (j := (2 : Int32)) (v := (.ref (A 2))) (by rw [e42]; exact Ar51.1) (State.isArrayOf_alike hZ.alike Ar51.2.1) rfl Ar51.2.2 hin51 (Has.at hs51 hin51 rfl) (g := (mkF m 54 #[.val (.int p1), .val (.int p2), .val (.int p3), .val (.ref b30), .val (.int (2 : Int32)), .unset, .unset, .unset, .unset, .unset, .unset] [(.int (2 : Int32)), (.ref b30)])) rfl rfl (hb hby at_54) _ k) ?_
    refine own_st (V := T42.setTop (mkF m 57 #[.val (.int p1), .val (.int p2), .val (.int p3), .val (.ref b30), .val (.int (2 : Int32)), .val (.ref (A 2)), .unset, .unset, .unset, .unset, .unset] [])) (fun t k => XS.astore X42.here hx rfl (hb hby at_55) rfl rfl (l' := #[.val (.int p1), .val (.int p2), .val (.int p3), .val (.ref b30), .val (.int (2 : Int32)), .val (.ref (A 2)), .unset, .unset, .unset, .unset, .unset]) rfl k) ?_
    refine own_st (V := T42.setTop (mkF m 58 #[.val (.int p1), .val (.int p2), .val (.int p3), .val (.ref b30), .val (.int (2 : Int32)), .val (.ref (A 2)), .unset, .unset, .unset, .unset, .unset] [(.int p2)])) (fun t k => XS.iloadN X42.here hx rfl (hb hby at_57) rfl k) ?_
    refine own_st (V := T42.setTop (mkF m 60 #[.val (.int p1), .val (.int p2), .val (.int p3), .val (.ref b30), .val (.int (2 : Int32)), .val (.ref (A 2)), .unset, .unset, .unset, .unset, .unset] [(.int (-2147483648 : Int32)), (.int p2)])) (fun t k => X42.ldcInt hx hown (mvT hZ (hw _ (List.mem_of_getElem? (i := 17) rfl))) (g := (mkF m 58 #[.val (.int p1), .val (.int p2), .val (.int p3), .val (.ref b30), .val (.int (2 : Int32)), .val (.ref (A 2)), .unset, .unset, .unset, .unset, .unset] [(.int p2)])) rfl (hb hby at_58) t k) ?_
    refine own_st (V := T42.setTop (mkF m 61 #[.val (.int p1), .val (.int p2), .val (.int p3), .val (.ref b30), .val (.int (2 : Int32)), .val (.ref (A 2)), .unset, .unset, .unset, .unset, .unset] [(.int (p2 ||| (-2147483648 : Int32)))])) (fun t k => XS.ior X42.here hx rfl (hb hby at_60) rfl k) ?_
    refine own_st (V := T42.setTop (mkF m 63 #[.val (.int p1), .val (.int p2), .val (.int p3), .val (.ref b30), .val (.int (2 : Int32)), .val (.ref (A 2)), .val (.int (p2 ||| (-2147483648 : Int32))), .unset, .unset, .unset, .unset] [])) (fun t k => XS.istore X42.here hx rfl (hb hby at_61) rfl (l' := #[.val (.int p1), .val (.int p2), .val (.int p3), .val (.ref b30), .val (.int (2 : Int32)), .val (.ref (A 2)), .val (.int (p2 ||| (-2147483648 : Int32))), .unset, .unset, .unset, .unset]) rfl k) ?_
    refine own_st (V := T42.setTop (mkF m 64 #[.val (.int p1), .val (.int p2), .val (.int p3), .val (.ref b30), .val (.int (2 : Int32)), .val (.ref (A 2)), .val (.int (p2 ||| (-2147483648 : Int32))), .unset, .unset, .unset, .unset] [(.int p3)])) (fun t k => XS.iloadN X42.here hx rfl (hb hby at_63) rfl k) ?_
    refine own_st (V := T42.setTop (mkF m 66 #[.val (.int p1), .val (.int p2), .val (.int p3), .val (.ref b30), .val (.int (2 : Int32)), .val (.ref (A 2)), .val (.int (p2 ||| (-2147483648 : Int32))), .unset, .unset, .unset, .unset] [(.int (2147483647 : Int32)), (.int p3)])) (fun t k => X42.ldcInt hx hown (mvT hZ (hw _ (List.mem_of_getElem? (i := 16) rfl))) (g := (mkF m 64 #[.val (.int p1), .val (.int p2), .val (.int p3), .val (.ref b30), .val (.int (2 : Int32)), .val (.ref (A 2)), .val (.int (p2 ||| (-2147483648 : Int32))), .unset, .unset, .unset, .unset] [(.int p3)])) rfl (hb hby at_64) t k) ?_
    refine own_st (V := T42.setTop (mkF m 67 #[.val (.int p1), .val (.int p2), .val (.int p3), .val (.ref b30), .val (.int (2 : Int32)), .val (.ref (A 2)), .val (.int (p2 ||| (-2147483648 : Int32))), .unset, .unset, .unset, .unset] [(.int (p3 &&& (2147483647 : Int32)))])) (fun t k => XS.iand X42.here hx rfl (hb hby at_66) rfl k) ?_
    refine own_st (V := T42.setTop (mkF m 68 #[.val (.int p1), .val (.int p2), .val (.int p3), .val (.ref b30), .val (.int (2 : Int32)), .val (.ref (A 2)), .val (.int (p2 ||| (-2147483648 : Int32))), .unset, .unset, .unset, .unset] [(.int (1 : Int32)), (.int (p3 &&& (2147483647 : Int32)))])) (fun t k => XS.iconst X42.here hx rfl (hb hby at_67) k) ?_
    refine own_st (V := T42.setTop (mkF m 69 #[.val (.int p1), .val (.int p2), .val (.int p3), .val (.ref b30), .val (.int (2 : Int32)), .val (.ref (A 2)), .val (.int (p2 ||| (-2147483648 : Int32))), .unset, .unset, .unset, .unset] [(.int ((p3 &&& (2147483647 : Int32)) ||| (1 : Int32)))])) (fun t k => XS.ior X42.here hx rfl (hb hby at_68) rfl k) ?_
    refine own_st (V := T42.setTop (mkF m 71 #[.val (.int p1), .val (.int p2), .val (.int p3), .val (.ref b30), .val (.int (2 : Int32)), .val (.ref (A 2)), .val (.int (p2 ||| (-2147483648 : Int32))), .val (.int ((p3 &&& (2147483647 : Int32)) ||| (1 : Int32))), .unset, .unset, .unset] [])) (fun t k => XS.istore X42.here hx rfl (hb hby at_69) rfl (l' := #[.val (.int p1), .val (.int p2), .val (.int p3), .val (.ref b30), .val (.int (2 : Int32)), .val (.ref (A 2)), .val (.int (p2 ||| (-2147483648 : Int32))), .val (.int ((p3 &&& (2147483647 : Int32)) ||| (1 : Int32))), .unset, .unset, .unset]) rfl k) ?_
    refine own_st (V := T42.setTop (mkF m 73 #[.val (.int p1), .val (.int p2), .val (.int p3), .val (.ref b30), .val (.int (2 : Int32)), .val (.ref (A 2)), .val (.int (p2 ||| (-2147483648 : Int32))), .val (.int ((p3 &&& (2147483647 : Int32)) ||| (1 : Int32))), .unset, .unset, .unset] [(.ref (A 2))])) (fun t k => XS.aload X42.here hx rfl (hb hby at_71) rfl rfl k) ?_
    obtain ⟨cq52, kq52, q52a, q52b, q52c⟩ := isOf hZ e42 (own_E En_42 2 (i := 2) (n := "LESS") rfl)
    obtain ⟨_, _, ⟨T52, L52, k52, n52⟩, -, X52, ⟨Lc52, hQ52, l52, y52, z52⟩, st52⟩ := X42.virtualBack hx (y := (⟨"com/example/affirm_rows/affirmrows/rules/Comparison", "needsOrder", "()Z"⟩ : MethodName)) (z := (⟨"com/example/affirm_rows/affirmrows/rules/Comparison", "needsOrder", "()Z"⟩ : MethodName)) hown (mvT hZ (hw _ (List.mem_of_getElem? (i := 18) rfl))) (mvT hZ (hw _ (List.mem_of_getElem? (i := 19) rfl))) (notFace_of_selects (args := #[]) (mvT hZ (hw _ (List.mem_of_getElem? (i := 21) rfl)))) (mvT hZ (hw _ (List.mem_of_getElem? (i := 21) rfl))) (mvT hZ (hw _ (List.mem_of_getElem? (i := 20) rfl))) (by decide) (backOf (W := 0) (own_no2 l Z a0 hw [] A h42 n0 Z0_42 En_42 ) hZ (hw _ (List.mem_of_getElem? (i := 22) rfl)) (hw _ (List.mem_of_getElem? (i := 3) rfl)) (by decide) (by decide)) q52a q52c (g := (mkF m 73 #[.val (.int p1), .val (.int p2), .val (.int p3), .val (.ref b30), .val (.int (2 : Int32)), .val (.ref (A 2)), .val (.int (p2 ||| (-2147483648 : Int32))), .val (.int ((p3 &&& (2147483647 : Int32)) ||| (1 : Int32))), .unset, .unset, .unset] [(.ref (A 2))])) rfl (by rw [hml]; rfl) (Steps.refl _) (argsL := []) (rest := []) (lenOf own_pd1 rfl) rfl (by show 2 * 0 + _ ≤ _; exact Nat.le_of_eq rfl) (hb hby at_73) (fun _ _ => ⟨rfl, e42, (by decide : 1 + 0 ≤ _), (by decide : 6 + 0 ≤ _)⟩)
    dsimp only [Pt.U, Pt.locs, Pt.cells, Pt.slots] at X52 l52 y52 z52 st52 hQ52
    subst l52 y52 z52
    obtain ⟨rfl, N52q, e52⟩ := hQ52
    have N52 := Fr.app N42 N52q
    refine own_st (V := T52.setTop (mkF m 76 #[.val (.int p1), .val (.int p2), .val (.int p3), .val (.ref b30), .val (.int (2 : Int32)), .val (.ref (A 2)), .val (.int (p2 ||| (-2147483648 : Int32))), .val (.int ((p3 &&& (2147483647 : Int32)) ||| (1 : Int32))), .unset, .unset, .unset] [(.int (1 : Int32))])) (fun t k => st52.trans k) ?_
    refine own_st (V := T52.setTop (mkF m 78 #[.val (.int p1), .val (.int p2), .val (.int p3), .val (.ref b30), .val (.int (2 : Int32)), .val (.ref (A 2)), .val (.int (p2 ||| (-2147483648 : Int32))), .val (.int ((p3 &&& (2147483647 : Int32)) ||| (1 : Int32))), .val (.int (1 : Int32)), .unset, .unset] [])) (fun t k => XS.istore X52.here hx rfl (hb hby at_76) rfl (l' := #[.val (.int p1), .val (.int p2), .val (.int p3), .val (.ref b30), .val (.int (2 : Int32)), .val (.ref (A 2)), .val (.int (p2 ||| (-2147483648 : Int32))), .val (.int ((p3 &&& (2147483647 : Int32)) ||| (1 : Int32))), .val (.int (1 : Int32)), .unset, .unset]) rfl k) ?_
    refine own_st (V := T52.setTop (mkF m 80 #[.val (.int p1), .val (.int p2), .val (.int p3), .val (.ref b30), .val (.int (2 : Int32)), .val (.ref (A 2)), .val (.int (p2 ||| (-2147483648 : Int32))), .val (.int ((p3 &&& (2147483647 : Int32)) ||| (1 : Int32))), .val (.int (1 : Int32)), .unset, .unset] [(.int (2 : Int32))])) (fun t k => XS.iload X52.here hx rfl (hb hby at_78) rfl k) ?_
    refine own_st (V := T52.setTop (mkF m 81 #[.val (.int p1), .val (.int p2), .val (.int p3), .val (.ref b30), .val (.int (2 : Int32)), .val (.ref (A 2)), .val (.int (p2 ||| (-2147483648 : Int32))), .val (.int ((p3 &&& (2147483647 : Int32)) ||| (1 : Int32))), .val (.int (1 : Int32)), .unset, .unset] [(.int (2 : Int32)), (.int (2 : Int32))])) (fun t k => XS.iconst X52.here hx rfl (hb hby at_80) k) ?_
    refine own_st (V := T52.setTop (mkF m 84 #[.val (.int p1), .val (.int p2), .val (.int p3), .val (.ref b30), .val (.int (2 : Int32)), .val (.ref (A 2)), .val (.int (p2 ||| (-2147483648 : Int32))), .val (.int ((p3 &&& (2147483647 : Int32)) ||| (1 : Int32))), .val (.int (1 : Int32)), .unset, .unset] [])) (fun t k => XS.icmpNo X52.here hx rfl (hb hby at_81) rfl (flt (by decide : ¬ ((2 : Int32) < (2 : Int32)))).1 k) ?_
    refine own_st (V := T52.setTop (mkF m 85 #[.val (.int p1), .val (.int p2), .val (.int p3), .val (.ref b30), .val (.int (2 : Int32)), .val (.ref (A 2)), .val (.int (p2 ||| (-2147483648 : Int32))), .val (.int ((p3 &&& (2147483647 : Int32)) ||| (1 : Int32))), .val (.int (1 : Int32)), .unset, .unset] [(.int (1 : Int32))])) (fun t k => XS.iconst X52.here hx rfl (hb hby at_84) k) ?_
    refine own_st (V := T52.setTop (mkF m 89 #[.val (.int p1), .val (.int p2), .val (.int p3), .val (.ref b30), .val (.int (2 : Int32)), .val (.ref (A 2)), .val (.int (p2 ||| (-2147483648 : Int32))), .val (.int ((p3 &&& (2147483647 : Int32)) ||| (1 : Int32))), .val (.int (1 : Int32)), .unset, .unset] [(.int (1 : Int32))])) (fun t k => XS.goto X52.here hx rfl (pc0 := 85) (pc' := 89) rfl (hb hby at_85) (by decide) (by decide) k) ?_
    refine own_st (V := T52.setTop (mkF m 91 #[.val (.int p1), .val (.int p2), .val (.int p3), .val (.ref b30), .val (.int (2 : Int32)), .val (.ref (A 2)), .val (.int (p2 ||| (-2147483648 : Int32))), .val (.int ((p3 &&& (2147483647 : Int32)) ||| (1 : Int32))), .val (.int (1 : Int32)), .val (.int (1 : Int32)), .unset] [])) (fun t k => XS.istore X52.here hx rfl (hb hby at_89) rfl (l' := #[.val (.int p1), .val (.int p2), .val (.int p3), .val (.ref b30), .val (.int (2 : Int32)), .val (.ref (A 2)), .val (.int (p2 ||| (-2147483648 : Int32))), .val (.int ((p3 &&& (2147483647 : Int32)) ||| (1 : Int32))), .val (.int (1 : Int32)), .val (.int (1 : Int32)), .unset]) rfl k) ?_
    refine own_st (V := T52.setTop (mkF m 93 #[.val (.int p1), .val (.int p2), .val (.int p3), .val (.ref b30), .val (.int (2 : Int32)), .val (.ref (A 2)), .val (.int (p2 ||| (-2147483648 : Int32))), .val (.int ((p3 &&& (2147483647 : Int32)) ||| (1 : Int32))), .val (.int (1 : Int32)), .val (.int (1 : Int32)), .unset] [(.ref (A 2))])) (fun t k => XS.aload X52.here hx rfl (hb hby at_91) rfl rfl k) ?_
    refine own_st (V := T52.setTop (mkF m 95 #[.val (.int p1), .val (.int p2), .val (.int p3), .val (.ref b30), .val (.int (2 : Int32)), .val (.ref (A 2)), .val (.int (p2 ||| (-2147483648 : Int32))), .val (.int ((p3 &&& (2147483647 : Int32)) ||| (1 : Int32))), .val (.int (1 : Int32)), .val (.int (1 : Int32)), .unset] [(.int (p2 ||| (-2147483648 : Int32))), (.ref (A 2))])) (fun t k => XS.iload X52.here hx rfl (hb hby at_93) rfl k) ?_
    obtain ⟨cq53, kq53, q53a, q53b, q53c⟩ := isOf hZ e52 (own_E En_42 2 (i := 2) (n := "LESS") rfl)
    obtain ⟨_, _, ⟨T53, L53, k53, n53⟩, -, X53, ⟨Lc53, hQ53, l53, y53, z53⟩, st53⟩ := X52.virtualBack hx (y := (⟨"com/example/affirm_rows/affirmrows/rules/Comparison", "holds", "(I)Z"⟩ : MethodName)) (z := (⟨"com/example/affirm_rows/affirmrows/rules/Comparison", "holds", "(I)Z"⟩ : MethodName)) hown (mvT hZ (hw _ (List.mem_of_getElem? (i := 24) rfl))) (mvT hZ (hw _ (List.mem_of_getElem? (i := 25) rfl))) (notFace_of_selects (args := #[]) (mvT hZ (hw _ (List.mem_of_getElem? (i := 27) rfl)))) (mvT hZ (hw _ (List.mem_of_getElem? (i := 27) rfl))) (mvT hZ (hw _ (List.mem_of_getElem? (i := 26) rfl))) (by decide) (backOf (W := 0) (own_ho2n l Z a0 hw [] (p2 ||| (-2147483648 : Int32)) A h42 n0 Z0_42 En_42 (own_neg p2)) hZ (hw _ (List.mem_of_getElem? (i := 28) rfl)) (hw _ (List.mem_of_getElem? (i := 3) rfl)) (by decide) (by decide)) q53a q53c (g := (mkF m 95 #[.val (.int p1), .val (.int p2), .val (.int p3), .val (.ref b30), .val (.int (2 : Int32)), .val (.ref (A 2)), .val (.int (p2 ||| (-2147483648 : Int32))), .val (.int ((p3 &&& (2147483647 : Int32)) ||| (1 : Int32))), .val (.int (1 : Int32)), .val (.int (1 : Int32)), .unset] [(.int (p2 ||| (-2147483648 : Int32))), (.ref (A 2))])) rfl (by rw [hml]; rfl) (Steps.refl _) (argsL := [(.int (p2 ||| (-2147483648 : Int32)))]) (rest := []) (lenOf own_pd2 rfl) rfl (by show 2 * 0 + _ ≤ _; exact Nat.le_of_eq rfl) (hb hby at_95) (fun _ _ => ⟨rfl, e52, (by decide : 1 + 0 ≤ _), (by decide : 6 + 0 ≤ _)⟩)
    dsimp only [Pt.U, Pt.locs, Pt.cells, Pt.slots] at X53 l53 y53 z53 st53 hQ53
    subst l53 y53 z53
    obtain ⟨rfl, N53q, e53⟩ := hQ53
    have N53 := Fr.app N52 N53q
    refine own_st (V := T53.setTop (mkF m 98 #[.val (.int p1), .val (.int p2), .val (.int p3), .val (.ref b30), .val (.int (2 : Int32)), .val (.ref (A 2)), .val (.int (p2 ||| (-2147483648 : Int32))), .val (.int ((p3 &&& (2147483647 : Int32)) ||| (1 : Int32))), .val (.int (1 : Int32)), .val (.int (1 : Int32)), .unset] [(.int (1 : Int32))])) (fun t k => st53.trans k) ?_
    refine own_st (V := T53.setTop (mkF m 100 #[.val (.int p1), .val (.int p2), .val (.int p3), .val (.ref b30), .val (.int (2 : Int32)), .val (.ref (A 2)), .val (.int (p2 ||| (-2147483648 : Int32))), .val (.int ((p3 &&& (2147483647 : Int32)) ||| (1 : Int32))), .val (.int (1 : Int32)), .val (.int (1 : Int32)), .unset] [(.ref (A 2)), (.int (1 : Int32))])) (fun t k => XS.aload X53.here hx rfl (hb hby at_98) rfl rfl k) ?_
    refine own_st (V := T53.setTop (mkF m 102 #[.val (.int p1), .val (.int p2), .val (.int p3), .val (.ref b30), .val (.int (2 : Int32)), .val (.ref (A 2)), .val (.int (p2 ||| (-2147483648 : Int32))), .val (.int ((p3 &&& (2147483647 : Int32)) ||| (1 : Int32))), .val (.int (1 : Int32)), .val (.int (1 : Int32)), .unset] [(.int ((p3 &&& (2147483647 : Int32)) ||| (1 : Int32))), (.ref (A 2)), (.int (1 : Int32))])) (fun t k => XS.iload X53.here hx rfl (hb hby at_100) rfl k) ?_
    obtain ⟨cq54, kq54, q54a, q54b, q54c⟩ := isOf hZ e53 (own_E En_42 2 (i := 2) (n := "LESS") rfl)
    obtain ⟨_, _, ⟨T54, L54, k54, n54⟩, -, X54, ⟨Lc54, hQ54, l54, y54, z54⟩, st54⟩ := X53.virtualBack hx (y := (⟨"com/example/affirm_rows/affirmrows/rules/Comparison", "holds", "(I)Z"⟩ : MethodName)) (z := (⟨"com/example/affirm_rows/affirmrows/rules/Comparison", "holds", "(I)Z"⟩ : MethodName)) hown (mvT hZ (hw _ (List.mem_of_getElem? (i := 24) rfl))) (mvT hZ (hw _ (List.mem_of_getElem? (i := 25) rfl))) (notFace_of_selects (args := #[]) (mvT hZ (hw _ (List.mem_of_getElem? (i := 27) rfl)))) (mvT hZ (hw _ (List.mem_of_getElem? (i := 27) rfl))) (mvT hZ (hw _ (List.mem_of_getElem? (i := 26) rfl))) (by decide) (backOf (W := 1) (own_ho2p l Z a0 hw [] ((p3 &&& (2147483647 : Int32)) ||| (1 : Int32)) A h42 n0 Z0_42 En_42 (own_pos p3)) hZ (hw _ (List.mem_of_getElem? (i := 28) rfl)) (hw _ (List.mem_of_getElem? (i := 3) rfl)) (by decide) (by decide)) q54a q54c (g := (mkF m 102 #[.val (.int p1), .val (.int p2), .val (.int p3), .val (.ref b30), .val (.int (2 : Int32)), .val (.ref (A 2)), .val (.int (p2 ||| (-2147483648 : Int32))), .val (.int ((p3 &&& (2147483647 : Int32)) ||| (1 : Int32))), .val (.int (1 : Int32)), .val (.int (1 : Int32)), .unset] [(.int ((p3 &&& (2147483647 : Int32)) ||| (1 : Int32))), (.ref (A 2)), (.int (1 : Int32))])) rfl (by rw [hml]; rfl) (Steps.refl _) (argsL := [(.int ((p3 &&& (2147483647 : Int32)) ||| (1 : Int32)))]) (rest := [(.int (1 : Int32))]) (lenOf own_pd2 rfl) rfl (by show 2 * 0 + _ ≤ _; exact Nat.le_of_eq rfl) (hb hby at_102) (fun _ _ => ⟨rfl, e53, (by decide : 1 + 0 ≤ _), (by decide : 6 + 0 ≤ _)⟩)
    dsimp only [Pt.U, Pt.locs, Pt.cells, Pt.slots] at X54 l54 y54 z54 st54 hQ54
    subst l54 y54 z54
    obtain ⟨rfl, N54q, e54⟩ := hQ54
    have N54 := Fr.app N53 N54q
    refine own_st (V := T54.setTop (mkF m 105 #[.val (.int p1), .val (.int p2), .val (.int p3), .val (.ref b30), .val (.int (2 : Int32)), .val (.ref (A 2)), .val (.int (p2 ||| (-2147483648 : Int32))), .val (.int ((p3 &&& (2147483647 : Int32)) ||| (1 : Int32))), .val (.int (1 : Int32)), .val (.int (1 : Int32)), .unset] [(.int (0 : Int32)), (.int (1 : Int32))])) (fun t k => st54.trans k) ?_
    refine own_st (V := T54.setTop (mkF m 108 #[.val (.int p1), .val (.int p2), .val (.int p3), .val (.ref b30), .val (.int (2 : Int32)), .val (.ref (A 2)), .val (.int (p2 ||| (-2147483648 : Int32))), .val (.int ((p3 &&& (2147483647 : Int32)) ||| (1 : Int32))), .val (.int (1 : Int32)), .val (.int (1 : Int32)), .unset] [])) (fun t k => XS.icmpNo X54.here hx rfl (hb hby at_105) rfl (feq (by decide : ¬ ((1 : Int32) = (0 : Int32)))).1 k) ?_
    refine own_st (V := T54.setTop (mkF m 109 #[.val (.int p1), .val (.int p2), .val (.int p3), .val (.ref b30), .val (.int (2 : Int32)), .val (.ref (A 2)), .val (.int (p2 ||| (-2147483648 : Int32))), .val (.int ((p3 &&& (2147483647 : Int32)) ||| (1 : Int32))), .val (.int (1 : Int32)), .val (.int (1 : Int32)), .unset] [(.int (1 : Int32))])) (fun t k => XS.iconst X54.here hx rfl (hb hby at_108) k) ?_
    refine own_st (V := T54.setTop (mkF m 113 #[.val (.int p1), .val (.int p2), .val (.int p3), .val (.ref b30), .val (.int (2 : Int32)), .val (.ref (A 2)), .val (.int (p2 ||| (-2147483648 : Int32))), .val (.int ((p3 &&& (2147483647 : Int32)) ||| (1 : Int32))), .val (.int (1 : Int32)), .val (.int (1 : Int32)), .unset] [(.int (1 : Int32))])) (fun t k => XS.goto X54.here hx rfl (pc0 := 109) (pc' := 113) rfl (hb hby at_109) (by decide) (by decide) k) ?_
    refine own_st (V := T54.setTop (mkF m 115 #[.val (.int p1), .val (.int p2), .val (.int p3), .val (.ref b30), .val (.int (2 : Int32)), .val (.ref (A 2)), .val (.int (p2 ||| (-2147483648 : Int32))), .val (.int ((p3 &&& (2147483647 : Int32)) ||| (1 : Int32))), .val (.int (1 : Int32)), .val (.int (1 : Int32)), .val (.int (1 : Int32))] [])) (fun t k => XS.istore X54.here hx rfl (hb hby at_113) rfl (l' := #[.val (.int p1), .val (.int p2), .val (.int p3), .val (.ref b30), .val (.int (2 : Int32)), .val (.ref (A 2)), .val (.int (p2 ||| (-2147483648 : Int32))), .val (.int ((p3 &&& (2147483647 : Int32)) ||| (1 : Int32))), .val (.int (1 : Int32)), .val (.int (1 : Int32)), .val (.int (1 : Int32))]) rfl k) ?_
    refine own_st (V := T54.setTop (mkF m 117 #[.val (.int p1), .val (.int p2), .val (.int p3), .val (.ref b30), .val (.int (2 : Int32)), .val (.ref (A 2)), .val (.int (p2 ||| (-2147483648 : Int32))), .val (.int ((p3 &&& (2147483647 : Int32)) ||| (1 : Int32))), .val (.int (1 : Int32)), .val (.int (1 : Int32)), .val (.int (1 : Int32))] [(.int (1 : Int32))])) (fun t k => XS.iload X54.here hx rfl (hb hby at_115) rfl k) ?_
    refine own_st (V := T54.setTop (mkF m 119 #[.val (.int p1), .val (.int p2), .val (.int p3), .val (.ref b30), .val (.int (2 : Int32)), .val (.ref (A 2)), .val (.int (p2 ||| (-2147483648 : Int32))), .val (.int ((p3 &&& (2147483647 : Int32)) ||| (1 : Int32))), .val (.int (1 : Int32)), .val (.int (1 : Int32)), .val (.int (1 : Int32))] [(.int (1 : Int32)), (.int (1 : Int32))])) (fun t k => XS.iload X54.here hx rfl (hb hby at_117) rfl k) ?_
    refine own_st (V := T54.setTop (mkF m 122 #[.val (.int p1), .val (.int p2), .val (.int p3), .val (.ref b30), .val (.int (2 : Int32)), .val (.ref (A 2)), .val (.int (p2 ||| (-2147483648 : Int32))), .val (.int ((p3 &&& (2147483647 : Int32)) ||| (1 : Int32))), .val (.int (1 : Int32)), .val (.int (1 : Int32)), .val (.int (1 : Int32))] [])) (fun t k => XS.icmpNo X54.here hx rfl (hb hby at_119) rfl (teq (by decide : (1 : Int32) = (1 : Int32))).2 k) ?_
    refine own_st (V := T54.setTop (mkF m 124 #[.val (.int p1), .val (.int p2), .val (.int p3), .val (.ref b30), .val (.int (2 : Int32)), .val (.ref (A 2)), .val (.int (p2 ||| (-2147483648 : Int32))), .val (.int ((p3 &&& (2147483647 : Int32)) ||| (1 : Int32))), .val (.int (1 : Int32)), .val (.int (1 : Int32)), .val (.int (1 : Int32))] [(.int (1 : Int32))])) (fun t k => XS.iload X54.here hx rfl (hb hby at_122) rfl k) ?_
    refine own_st (V := T54.setTop (mkF m 126 #[.val (.int p1), .val (.int p2), .val (.int p3), .val (.ref b30), .val (.int (2 : Int32)), .val (.ref (A 2)), .val (.int (p2 ||| (-2147483648 : Int32))), .val (.int ((p3 &&& (2147483647 : Int32)) ||| (1 : Int32))), .val (.int (1 : Int32)), .val (.int (1 : Int32)), .val (.int (1 : Int32))] [(.int (1 : Int32)), (.int (1 : Int32))])) (fun t k => XS.iload X54.here hx rfl (hb hby at_124) rfl k) ?_
    refine own_st (V := T54.setTop (mkF m 129 #[.val (.int p1), .val (.int p2), .val (.int p3), .val (.ref b30), .val (.int (2 : Int32)), .val (.ref (A 2)), .val (.int (p2 ||| (-2147483648 : Int32))), .val (.int ((p3 &&& (2147483647 : Int32)) ||| (1 : Int32))), .val (.int (1 : Int32)), .val (.int (1 : Int32)), .val (.int (1 : Int32))] [])) (fun t k => XS.icmpNo X54.here hx rfl (hb hby at_126) rfl (teq (by decide : (1 : Int32) = (1 : Int32))).2 k) ?_
    refine own_st (V := T54.setTop (mkF m 130 #[.val (.int p1), .val (.int p2), .val (.int p3), .val (.ref b30), .val (.int (2 : Int32)), .val (.ref (A 2)), .val (.int (p2 ||| (-2147483648 : Int32))), .val (.int ((p3 &&& (2147483647 : Int32)) ||| (1 : Int32))), .val (.int (1 : Int32)), .val (.int (1 : Int32)), .val (.int (1 : Int32))] [(.int (1 : Int32))])) (fun t k => XS.iconst X54.here hx rfl (hb hby at_129) k) ?_
    refine own_st (V := T54.setTop (mkF m 134 #[.val (.int p1), .val (.int p2), .val (.int p3), .val (.ref b30), .val (.int (2 : Int32)), .val (.ref (A 2)), .val (.int (p2 ||| (-2147483648 : Int32))), .val (.int ((p3 &&& (2147483647 : Int32)) ||| (1 : Int32))), .val (.int (1 : Int32)), .val (.int (1 : Int32)), .val (.int (1 : Int32))] [(.int (1 : Int32))])) (fun t k => XS.goto X54.here hx rfl (pc0 := 130) (pc' := 134) rfl (hb hby at_130) (by decide) (by decide) k) ?_
    exact own_ret X54 hx hlk Bd.returns (by decide +kernel) (Or.inl ⟨rfl, by simp, _, rfl⟩) (hb hby at_134) (by decide) (by decide) ⟨rfl, N54⟩
  · rw [hs49]
    refine own_st (V := T42.setTop (mkF m 51 #[.val (.int p1), .val (.int p2), .val (.int p3), .val (.ref b30), .val (.int (3 : Int32)), .unset, .unset, .unset, .unset, .unset, .unset] [])) (fun t k => XS.istore X42.here hx rfl (hb hby at_49) rfl (l' := #[.val (.int p1), .val (.int p2), .val (.int p3), .val (.ref b30), .val (.int (3 : Int32)), .unset, .unset, .unset, .unset, .unset, .unset]) rfl k) ?_
    refine own_st (V := T42.setTop (mkF m 52 #[.val (.int p1), .val (.int p2), .val (.int p3), .val (.ref b30), .val (.int (3 : Int32)), .unset, .unset, .unset, .unset, .unset, .unset] [(.ref b30)])) (fun t k => XS.aloadN X42.here hx rfl (hb hby at_51) rfl rfl k) ?_
    refine own_st (V := T42.setTop (mkF m 54 #[.val (.int p1), .val (.int p2), .val (.int p3), .val (.ref b30), .val (.int (3 : Int32)), .unset, .unset, .unset, .unset, .unset, .unset] [(.int (3 : Int32)), (.ref b30)])) (fun t k => XS.iload X42.here hx rfl (hb hby at_52) rfl k) ?_
    have V_b30_55 := V_b30_42
    obtain ⟨cl55, Ar55, qk55, sz55, nn55, hs55, fs55⟩ := V_b30_42
    have hin55 : ¬ ((3 : Int32) < 0 ∨ cl55.slots.size ≤ ((3 : Int32)).toNatClampNeg) := inb_of sz55 ⟨by decide, by decide⟩
    refine own_st (V := T42.setTop (mkF m 55 #[.val (.int p1), .val (.int p2), .val (.int p3), .val (.ref b30), .val (.int (3 : Int32)), .unset, .unset, .unset, .unset, .unset, .unset] [(.ref (A 3))])) (fun t k => X42.aaload hx (j := (3 : Int32)) (v := (.ref (A 3))) (by rw [e42]; exact Ar55.1) (State.isArrayOf_alike hZ.alike Ar55.2.1) rfl Ar55.2.2 hin55 (Has.at hs55 hin55 rfl) (g := (mkF m 54 #[.val (.int p1), .val (.int p2), .val (.int p3), .val (.ref b30), .val (.int (3 : Int32)), .unset, .unset, .unset, .unset, .unset, .unset] [(.int (3 : Int32)), (.ref b30)])) rfl rfl (hb hby at_54) _ k) ?_
    refine own_st (V := T42.setTop (mkF m 57 #[.val (.int p1), .val (.int p2), .val (.int p3), .val (.ref b30), .val (.int (3 : Int32)), .val (.ref (A 3)), .unset, .unset, .unset, .unset, .unset] [])) (fun t k => XS.astore X42.here hx rfl (hb hby at_55) rfl rfl (l' := #[.val (.int p1), .val (.int p2), .val (.int p3), .val (.ref b30), .val (.int (3 : Int32)), .val (.ref (A 3)), .unset, .unset, .unset, .unset, .unset]) rfl k) ?_
    refine own_st (V := T42.setTop (mkF m 58 #[.val (.int p1), .val (.int p2), .val (.int p3), .val (.ref b30), .val (.int (3 : Int32)), .val (.ref (A 3)), .unset, .unset, .unset, .unset, .unset] [(.int p2)])) (fun t k => XS.iloadN X42.here hx rfl (hb hby at_57) rfl k) ?_
    refine own_st (V := T42.setTop (mkF m 60 #[.val (.int p1), .val (.int p2), .val (.int p3), .val (.ref b30), .val (.int (3 : Int32)), .val (.ref (A 3)), .unset, .unset, .unset, .unset, .unset] [(.int (-2147483648 : Int32)), (.int p2)])) (fun t k => X42.ldcInt hx hown (mvT hZ (hw _ (List.mem_of_getElem? (i := 17) rfl))) (g := (mkF m 58 #[.val (.int p1), .val (.int p2), .val (.int p3), .val (.ref b30), .val (.int (3 : Int32)), .val (.ref (A 3)), .unset, .unset, .unset, .unset, .unset] [(.int p2)])) rfl (hb hby at_58) t k) ?_
    refine own_st (V := T42.setTop (mkF m 61 #[.val (.int p1), .val (.int p2), .val (.int p3), .val (.ref b30), .val (.int (3 : Int32)), .val (.ref (A 3)), .unset, .unset, .unset, .unset, .unset] [(.int (p2 ||| (-2147483648 : Int32)))])) (fun t k => XS.ior X42.here hx rfl (hb hby at_60) rfl k) ?_
    refine own_st (V := T42.setTop (mkF m 63 #[.val (.int p1), .val (.int p2), .val (.int p3), .val (.ref b30), .val (.int (3 : Int32)), .val (.ref (A 3)), .val (.int (p2 ||| (-2147483648 : Int32))), .unset, .unset, .unset, .unset] [])) (fun t k => XS.istore X42.here hx rfl (hb hby at_61) rfl (l' := #[.val (.int p1), .val (.int p2), .val (.int p3), .val (.ref b30), .val (.int (3 : Int32)), .val (.ref (A 3)), .val (.int (p2 ||| (-2147483648 : Int32))), .unset, .unset, .unset, .unset]) rfl k) ?_
    refine own_st (V := T42.setTop (mkF m 64 #[.val (.int p1), .val (.int p2), .val (.int p3), .val (.ref b30), .val (.int (3 : Int32)), .val (.ref (A 3)), .val (.int (p2 ||| (-2147483648 : Int32))), .unset, .unset, .unset, .unset] [(.int p3)])) (fun t k => XS.iloadN X42.here hx rfl (hb hby at_63) rfl k) ?_
    refine own_st (V := T42.setTop (mkF m 66 #[.val (.int p1), .val (.int p2), .val (.int p3), .val (.ref b30), .val (.int (3 : Int32)), .val (.ref (A 3)), .val (.int (p2 ||| (-2147483648 : Int32))), .unset, .unset, .unset, .unset] [(.int (2147483647 : Int32)), (.int p3)])) (fun t k => X42.ldcInt hx hown (mvT hZ (hw _ (List.mem_of_getElem? (i := 16) rfl))) (g := (mkF m 64 #[.val (.int p1), .val (.int p2), .val (.int p3), .val (.ref b30), .val (.int (3 : Int32)), .val (.ref (A 3)), .val (.int (p2 ||| (-2147483648 : Int32))), .unset, .unset, .unset, .unset] [(.int p3)])) rfl (hb hby at_64) t k) ?_
    refine own_st (V := T42.setTop (mkF m 67 #[.val (.int p1), .val (.int p2), .val (.int p3), .val (.ref b30), .val (.int (3 : Int32)), .val (.ref (A 3)), .val (.int (p2 ||| (-2147483648 : Int32))), .unset, .unset, .unset, .unset] [(.int (p3 &&& (2147483647 : Int32)))])) (fun t k => XS.iand X42.here hx rfl (hb hby at_66) rfl k) ?_
    refine own_st (V := T42.setTop (mkF m 68 #[.val (.int p1), .val (.int p2), .val (.int p3), .val (.ref b30), .val (.int (3 : Int32)), .val (.ref (A 3)), .val (.int (p2 ||| (-2147483648 : Int32))), .unset, .unset, .unset, .unset] [(.int (1 : Int32)), (.int (p3 &&& (2147483647 : Int32)))])) (fun t k => XS.iconst X42.here hx rfl (hb hby at_67) k) ?_
    refine own_st (V := T42.setTop (mkF m 69 #[.val (.int p1), .val (.int p2), .val (.int p3), .val (.ref b30), .val (.int (3 : Int32)), .val (.ref (A 3)), .val (.int (p2 ||| (-2147483648 : Int32))), .unset, .unset, .unset, .unset] [(.int ((p3 &&& (2147483647 : Int32)) ||| (1 : Int32)))])) (fun t k => XS.ior X42.here hx rfl (hb hby at_68) rfl k) ?_
    refine own_st (V := T42.setTop (mkF m 71 #[.val (.int p1), .val (.int p2), .val (.int p3), .val (.ref b30), .val (.int (3 : Int32)), .val (.ref (A 3)), .val (.int (p2 ||| (-2147483648 : Int32))), .val (.int ((p3 &&& (2147483647 : Int32)) ||| (1 : Int32))), .unset, .unset, .unset] [])) (fun t k => XS.istore X42.here hx rfl (hb hby at_69) rfl (l' := #[.val (.int p1), .val (.int p2), .val (.int p3), .val (.ref b30), .val (.int (3 : Int32)), .val (.ref (A 3)), .val (.int (p2 ||| (-2147483648 : Int32))), .val (.int ((p3 &&& (2147483647 : Int32)) ||| (1 : Int32))), .unset, .unset, .unset]) rfl k) ?_
    refine own_st (V := T42.setTop (mkF m 73 #[.val (.int p1), .val (.int p2), .val (.int p3), .val (.ref b30), .val (.int (3 : Int32)), .val (.ref (A 3)), .val (.int (p2 ||| (-2147483648 : Int32))), .val (.int ((p3 &&& (2147483647 : Int32)) ||| (1 : Int32))), .unset, .unset, .unset] [(.ref (A 3))])) (fun t k => XS.aload X42.here hx rfl (hb hby at_71) rfl rfl k) ?_
    obtain ⟨cq56, kq56, q56a, q56b, q56c⟩ := isOf hZ e42 (own_E En_42 3 (i := 3) (n := "LESS_OR_EQUAL") rfl)
    obtain ⟨_, _, ⟨T56, L56, k56, n56⟩, -, X56, ⟨Lc56, hQ56, l56, y56, z56⟩, st56⟩ := X42.virtualBack hx (y := (⟨"com/example/affirm_rows/affirmrows/rules/Comparison", "needsOrder", "()Z"⟩ : MethodName)) (z := (⟨"com/example/affirm_rows/affirmrows/rules/Comparison", "needsOrder", "()Z"⟩ : MethodName)) hown (mvT hZ (hw _ (List.mem_of_getElem? (i := 18) rfl))) (mvT hZ (hw _ (List.mem_of_getElem? (i := 19) rfl))) (notFace_of_selects (args := #[]) (mvT hZ (hw _ (List.mem_of_getElem? (i := 21) rfl)))) (mvT hZ (hw _ (List.mem_of_getElem? (i := 21) rfl))) (mvT hZ (hw _ (List.mem_of_getElem? (i := 20) rfl))) (by decide) (backOf (W := 0) (own_no3 l Z a0 hw [] A h42 n0 Z0_42 En_42 ) hZ (hw _ (List.mem_of_getElem? (i := 22) rfl)) (hw _ (List.mem_of_getElem? (i := 3) rfl)) (by decide) (by decide)) q56a q56c (g := (mkF m 73 #[.val (.int p1), .val (.int p2), .val (.int p3), .val (.ref b30), .val (.int (3 : Int32)), .val (.ref (A 3)), .val (.int (p2 ||| (-2147483648 : Int32))), .val (.int ((p3 &&& (2147483647 : Int32)) ||| (1 : Int32))), .unset, .unset, .unset] [(.ref (A 3))])) rfl (by rw [hml]; rfl) (Steps.refl _) (argsL := []) (rest := []) (lenOf own_pd1 rfl) rfl (by show 2 * 0 + _ ≤ _; exact Nat.le_of_eq rfl) (hb hby at_73) (fun _ _ => ⟨rfl, e42, (by decide : 1 + 0 ≤ _), (by decide : 6 + 0 ≤ _)⟩)
    dsimp only [Pt.U, Pt.locs, Pt.cells, Pt.slots] at X56 l56 y56 z56 st56 hQ56
    subst l56 y56 z56
    obtain ⟨rfl, N56q, e56⟩ := hQ56
    have N56 := Fr.app N42 N56q
    refine own_st (V := T56.setTop (mkF m 76 #[.val (.int p1), .val (.int p2), .val (.int p3), .val (.ref b30), .val (.int (3 : Int32)), .val (.ref (A 3)), .val (.int (p2 ||| (-2147483648 : Int32))), .val (.int ((p3 &&& (2147483647 : Int32)) ||| (1 : Int32))), .unset, .unset, .unset] [(.int (1 : Int32))])) (fun t k => st56.trans k) ?_
    refine own_st (V := T56.setTop (mkF m 78 #[.val (.int p1), .val (.int p2), .val (.int p3), .val (.ref b30), .val (.int (3 : Int32)), .val (.ref (A 3)), .val (.int (p2 ||| (-2147483648 : Int32))), .val (.int ((p3 &&& (2147483647 : Int32)) ||| (1 : Int32))), .val (.int (1 : Int32)), .unset, .unset] [])) (fun t k => XS.istore X56.here hx rfl (hb hby at_76) rfl (l' := #[.val (.int p1), .val (.int p2), .val (.int p3), .val (.ref b30), .val (.int (3 : Int32)), .val (.ref (A 3)), .val (.int (p2 ||| (-2147483648 : Int32))), .val (.int ((p3 &&& (2147483647 : Int32)) ||| (1 : Int32))), .val (.int (1 : Int32)), .unset, .unset]) rfl k) ?_
    refine own_st (V := T56.setTop (mkF m 80 #[.val (.int p1), .val (.int p2), .val (.int p3), .val (.ref b30), .val (.int (3 : Int32)), .val (.ref (A 3)), .val (.int (p2 ||| (-2147483648 : Int32))), .val (.int ((p3 &&& (2147483647 : Int32)) ||| (1 : Int32))), .val (.int (1 : Int32)), .unset, .unset] [(.int (3 : Int32))])) (fun t k => XS.iload X56.here hx rfl (hb hby at_78) rfl k) ?_
    refine own_st (V := T56.setTop (mkF m 81 #[.val (.int p1), .val (.int p2), .val (.int p3), .val (.ref b30), .val (.int (3 : Int32)), .val (.ref (A 3)), .val (.int (p2 ||| (-2147483648 : Int32))), .val (.int ((p3 &&& (2147483647 : Int32)) ||| (1 : Int32))), .val (.int (1 : Int32)), .unset, .unset] [(.int (2 : Int32)), (.int (3 : Int32))])) (fun t k => XS.iconst X56.here hx rfl (hb hby at_80) k) ?_
    refine own_st (V := T56.setTop (mkF m 84 #[.val (.int p1), .val (.int p2), .val (.int p3), .val (.ref b30), .val (.int (3 : Int32)), .val (.ref (A 3)), .val (.int (p2 ||| (-2147483648 : Int32))), .val (.int ((p3 &&& (2147483647 : Int32)) ||| (1 : Int32))), .val (.int (1 : Int32)), .unset, .unset] [])) (fun t k => XS.icmpNo X56.here hx rfl (hb hby at_81) rfl (flt (by decide : ¬ ((3 : Int32) < (2 : Int32)))).1 k) ?_
    refine own_st (V := T56.setTop (mkF m 85 #[.val (.int p1), .val (.int p2), .val (.int p3), .val (.ref b30), .val (.int (3 : Int32)), .val (.ref (A 3)), .val (.int (p2 ||| (-2147483648 : Int32))), .val (.int ((p3 &&& (2147483647 : Int32)) ||| (1 : Int32))), .val (.int (1 : Int32)), .unset, .unset] [(.int (1 : Int32))])) (fun t k => XS.iconst X56.here hx rfl (hb hby at_84) k) ?_
    refine own_st (V := T56.setTop (mkF m 89 #[.val (.int p1), .val (.int p2), .val (.int p3), .val (.ref b30), .val (.int (3 : Int32)), .val (.ref (A 3)), .val (.int (p2 ||| (-2147483648 : Int32))), .val (.int ((p3 &&& (2147483647 : Int32)) ||| (1 : Int32))), .val (.int (1 : Int32)), .unset, .unset] [(.int (1 : Int32))])) (fun t k => XS.goto X56.here hx rfl (pc0 := 85) (pc' := 89) rfl (hb hby at_85) (by decide) (by decide) k) ?_
    refine own_st (V := T56.setTop (mkF m 91 #[.val (.int p1), .val (.int p2), .val (.int p3), .val (.ref b30), .val (.int (3 : Int32)), .val (.ref (A 3)), .val (.int (p2 ||| (-2147483648 : Int32))), .val (.int ((p3 &&& (2147483647 : Int32)) ||| (1 : Int32))), .val (.int (1 : Int32)), .val (.int (1 : Int32)), .unset] [])) (fun t k => XS.istore X56.here hx rfl (hb hby at_89) rfl (l' := #[.val (.int p1), .val (.int p2), .val (.int p3), .val (.ref b30), .val (.int (3 : Int32)), .val (.ref (A 3)), .val (.int (p2 ||| (-2147483648 : Int32))), .val (.int ((p3 &&& (2147483647 : Int32)) ||| (1 : Int32))), .val (.int (1 : Int32)), .val (.int (1 : Int32)), .unset]) rfl k) ?_
    refine own_st (V := T56.setTop (mkF m 93 #[.val (.int p1), .val (.int p2), .val (.int p3), .val (.ref b30), .val (.int (3 : Int32)), .val (.ref (A 3)), .val (.int (p2 ||| (-2147483648 : Int32))), .val (.int ((p3 &&& (2147483647 : Int32)) ||| (1 : Int32))), .val (.int (1 : Int32)), .val (.int (1 : Int32)), .unset] [(.ref (A 3))])) (fun t k => XS.aload X56.here hx rfl (hb hby at_91) rfl rfl k) ?_
    refine own_st (V := T56.setTop (mkF m 95 #[.val (.int p1), .val (.int p2), .val (.int p3), .val (.ref b30), .val (.int (3 : Int32)), .val (.ref (A 3)), .val (.int (p2 ||| (-2147483648 : Int32))), .val (.int ((p3 &&& (2147483647 : Int32)) ||| (1 : Int32))), .val (.int (1 : Int32)), .val (.int (1 : Int32)), .unset] [(.int (p2 ||| (-2147483648 : Int32))), (.ref (A 3))])) (fun t k => XS.iload X56.here hx rfl (hb hby at_93) rfl k) ?_
    obtain ⟨cq57, kq57, q57a, q57b, q57c⟩ := isOf hZ e56 (own_E En_42 3 (i := 3) (n := "LESS_OR_EQUAL") rfl)
    obtain ⟨_, _, ⟨T57, L57, k57, n57⟩, -, X57, ⟨Lc57, hQ57, l57, y57, z57⟩, st57⟩ := X56.virtualBack hx (y := (⟨"com/example/affirm_rows/affirmrows/rules/Comparison", "holds", "(I)Z"⟩ : MethodName)) (z := (⟨"com/example/affirm_rows/affirmrows/rules/Comparison", "holds", "(I)Z"⟩ : MethodName)) hown (mvT hZ (hw _ (List.mem_of_getElem? (i := 24) rfl))) (mvT hZ (hw _ (List.mem_of_getElem? (i := 25) rfl))) (notFace_of_selects (args := #[]) (mvT hZ (hw _ (List.mem_of_getElem? (i := 27) rfl)))) (mvT hZ (hw _ (List.mem_of_getElem? (i := 27) rfl))) (mvT hZ (hw _ (List.mem_of_getElem? (i := 26) rfl))) (by decide) (backOf (W := 0) (own_ho3n l Z a0 hw [] (p2 ||| (-2147483648 : Int32)) A h42 n0 Z0_42 En_42 (own_neg p2)) hZ (hw _ (List.mem_of_getElem? (i := 28) rfl)) (hw _ (List.mem_of_getElem? (i := 3) rfl)) (by decide) (by decide)) q57a q57c (g := (mkF m 95 #[.val (.int p1), .val (.int p2), .val (.int p3), .val (.ref b30), .val (.int (3 : Int32)), .val (.ref (A 3)), .val (.int (p2 ||| (-2147483648 : Int32))), .val (.int ((p3 &&& (2147483647 : Int32)) ||| (1 : Int32))), .val (.int (1 : Int32)), .val (.int (1 : Int32)), .unset] [(.int (p2 ||| (-2147483648 : Int32))), (.ref (A 3))])) rfl (by rw [hml]; rfl) (Steps.refl _) (argsL := [(.int (p2 ||| (-2147483648 : Int32)))]) (rest := []) (lenOf own_pd2 rfl) rfl (by show 2 * 0 + _ ≤ _; exact Nat.le_of_eq rfl) (hb hby at_95) (fun _ _ => ⟨rfl, e56, (by decide : 1 + 0 ≤ _), (by decide : 6 + 0 ≤ _)⟩)
    dsimp only [Pt.U, Pt.locs, Pt.cells, Pt.slots] at X57 l57 y57 z57 st57 hQ57
    subst l57 y57 z57
    obtain ⟨rfl, N57q, e57⟩ := hQ57
    have N57 := Fr.app N56 N57q
    refine own_st (V := T57.setTop (mkF m 98 #[.val (.int p1), .val (.int p2), .val (.int p3), .val (.ref b30), .val (.int (3 : Int32)), .val (.ref (A 3)), .val (.int (p2 ||| (-2147483648 : Int32))), .val (.int ((p3 &&& (2147483647 : Int32)) ||| (1 : Int32))), .val (.int (1 : Int32)), .val (.int (1 : Int32)), .unset] [(.int (1 : Int32))])) (fun t k => st57.trans k) ?_
    refine own_st (V := T57.setTop (mkF m 100 #[.val (.int p1), .val (.int p2), .val (.int p3), .val (.ref b30), .val (.int (3 : Int32)), .val (.ref (A 3)), .val (.int (p2 ||| (-2147483648 : Int32))), .val (.int ((p3 &&& (2147483647 : Int32)) ||| (1 : Int32))), .val (.int (1 : Int32)), .val (.int (1 : Int32)), .unset] [(.ref (A 3)), (.int (1 : Int32))])) (fun t k => XS.aload X57.here hx rfl (hb hby at_98) rfl rfl k) ?_
    refine own_st (V := T57.setTop (mkF m 102 #[.val (.int p1), .val (.int p2), .val (.int p3), .val (.ref b30), .val (.int (3 : Int32)), .val (.ref (A 3)), .val (.int (p2 ||| (-2147483648 : Int32))), .val (.int ((p3 &&& (2147483647 : Int32)) ||| (1 : Int32))), .val (.int (1 : Int32)), .val (.int (1 : Int32)), .unset] [(.int ((p3 &&& (2147483647 : Int32)) ||| (1 : Int32))), (.ref (A 3)), (.int (1 : Int32))])) (fun t k => XS.iload X57.here hx rfl (hb hby at_100) rfl k) ?_
    obtain ⟨cq58, kq58, q58a, q58b, q58c⟩ := isOf hZ e57 (own_E En_42 3 (i := 3) (n := "LESS_OR_EQUAL") rfl)
    obtain ⟨_, _, ⟨T58, L58, k58, n58⟩, -, X58, ⟨Lc58, hQ58, l58, y58, z58⟩, st58⟩ := X57.virtualBack hx (y := (⟨"com/example/affirm_rows/affirmrows/rules/Comparison", "holds", "(I)Z"⟩ : MethodName)) (z := (⟨"com/example/affirm_rows/affirmrows/rules/Comparison", "holds", "(I)Z"⟩ : MethodName)) hown (mvT hZ (hw _ (List.mem_of_getElem? (i := 24) rfl))) (mvT hZ (hw _ (List.mem_of_getElem? (i := 25) rfl))) (notFace_of_selects (args := #[]) (mvT hZ (hw _ (List.mem_of_getElem? (i := 27) rfl)))) (mvT hZ (hw _ (List.mem_of_getElem? (i := 27) rfl))) (mvT hZ (hw _ (List.mem_of_getElem? (i := 26) rfl))) (by decide) (backOf (W := 1) (own_ho3p l Z a0 hw [] ((p3 &&& (2147483647 : Int32)) ||| (1 : Int32)) A h42 n0 Z0_42 En_42 (own_pos p3)) hZ (hw _ (List.mem_of_getElem? (i := 28) rfl)) (hw _ (List.mem_of_getElem? (i := 3) rfl)) (by decide) (by decide)) q58a q58c (g := (mkF m 102 #[.val (.int p1), .val (.int p2), .val (.int p3), .val (.ref b30), .val (.int (3 : Int32)), .val (.ref (A 3)), .val (.int (p2 ||| (-2147483648 : Int32))), .val (.int ((p3 &&& (2147483647 : Int32)) ||| (1 : Int32))), .val (.int (1 : Int32)), .val (.int (1 : Int32)), .unset] [(.int ((p3 &&& (2147483647 : Int32)) ||| (1 : Int32))), (.ref (A 3)), (.int (1 : Int32))])) rfl (by rw [hml]; rfl) (Steps.refl _) (argsL := [(.int ((p3 &&& (2147483647 : Int32)) ||| (1 : Int32)))]) (rest := [(.int (1 : Int32))]) (lenOf own_pd2 rfl) rfl (by show 2 * 0 + _ ≤ _; exact Nat.le_of_eq rfl) (hb hby at_102) (fun _ _ => ⟨rfl, e57, (by decide : 1 + 0 ≤ _), (by decide : 6 + 0 ≤ _)⟩)
    dsimp only [Pt.U, Pt.locs, Pt.cells, Pt.slots] at X58 l58 y58 z58 st58 hQ58
    subst l58 y58 z58
    obtain ⟨rfl, N58q, e58⟩ := hQ58
    have N58 := Fr.app N57 N58q
    refine own_st (V := T58.setTop (mkF m 105 #[.val (.int p1), .val (.int p2), .val (.int p3), .val (.ref b30), .val (.int (3 : Int32)), .val (.ref (A 3)), .val (.int (p2 ||| (-2147483648 : Int32))), .val (.int ((p3 &&& (2147483647 : Int32)) ||| (1 : Int32))), .val (.int (1 : Int32)), .val (.int (1 : Int32)), .unset] [(.int (0 : Int32)), (.int (1 : Int32))])) (fun t k => st58.trans k) ?_
    refine own_st (V := T58.setTop (mkF m 108 #[.val (.int p1), .val (.int p2), .val (.int p3), .val (.ref b30), .val (.int (3 : Int32)), .val (.ref (A 3)), .val (.int (p2 ||| (-2147483648 : Int32))), .val (.int ((p3 &&& (2147483647 : Int32)) ||| (1 : Int32))), .val (.int (1 : Int32)), .val (.int (1 : Int32)), .unset] [])) (fun t k => XS.icmpNo X58.here hx rfl (hb hby at_105) rfl (feq (by decide : ¬ ((1 : Int32) = (0 : Int32)))).1 k) ?_
    refine own_st (V := T58.setTop (mkF m 109 #[.val (.int p1), .val (.int p2), .val (.int p3), .val (.ref b30), .val (.int (3 : Int32)), .val (.ref (A 3)), .val (.int (p2 ||| (-2147483648 : Int32))), .val (.int ((p3 &&& (2147483647 : Int32)) ||| (1 : Int32))), .val (.int (1 : Int32)), .val (.int (1 : Int32)), .unset] [(.int (1 : Int32))])) (fun t k => XS.iconst X58.here hx rfl (hb hby at_108) k) ?_
    refine own_st (V := T58.setTop (mkF m 113 #[.val (.int p1), .val (.int p2), .val (.int p3), .val (.ref b30), .val (.int (3 : Int32)), .val (.ref (A 3)), .val (.int (p2 ||| (-2147483648 : Int32))), .val (.int ((p3 &&& (2147483647 : Int32)) ||| (1 : Int32))), .val (.int (1 : Int32)), .val (.int (1 : Int32)), .unset] [(.int (1 : Int32))])) (fun t k => XS.goto X58.here hx rfl (pc0 := 109) (pc' := 113) rfl (hb hby at_109) (by decide) (by decide) k) ?_
    refine own_st (V := T58.setTop (mkF m 115 #[.val (.int p1), .val (.int p2), .val (.int p3), .val (.ref b30), .val (.int (3 : Int32)), .val (.ref (A 3)), .val (.int (p2 ||| (-2147483648 : Int32))), .val (.int ((p3 &&& (2147483647 : Int32)) ||| (1 : Int32))), .val (.int (1 : Int32)), .val (.int (1 : Int32)), .val (.int (1 : Int32))] [])) (fun t k => XS.istore X58.here hx rfl (hb hby at_113) rfl (l' := #[.val (.int p1), .val (.int p2), .val (.int p3), .val (.ref b30), .val (.int (3 : Int32)), .val (.ref (A 3)), .val (.int (p2 ||| (-2147483648 : Int32))), .val (.int ((p3 &&& (2147483647 : Int32)) ||| (1 : Int32))), .val (.int (1 : Int32)), .val (.int (1 : Int32)), .val (.int (1 : Int32))]) rfl k) ?_
    refine own_st (V := T58.setTop (mkF m 117 #[.val (.int p1), .val (.int p2), .val (.int p3), .val (.ref b30), .val (.int (3 : Int32)), .val (.ref (A 3)), .val (.int (p2 ||| (-2147483648 : Int32))), .val (.int ((p3 &&& (2147483647 : Int32)) ||| (1 : Int32))), .val (.int (1 : Int32)), .val (.int (1 : Int32)), .val (.int (1 : Int32))] [(.int (1 : Int32))])) (fun t k => XS.iload X58.here hx rfl (hb hby at_115) rfl k) ?_
    refine own_st (V := T58.setTop (mkF m 119 #[.val (.int p1), .val (.int p2), .val (.int p3), .val (.ref b30), .val (.int (3 : Int32)), .val (.ref (A 3)), .val (.int (p2 ||| (-2147483648 : Int32))), .val (.int ((p3 &&& (2147483647 : Int32)) ||| (1 : Int32))), .val (.int (1 : Int32)), .val (.int (1 : Int32)), .val (.int (1 : Int32))] [(.int (1 : Int32)), (.int (1 : Int32))])) (fun t k => XS.iload X58.here hx rfl (hb hby at_117) rfl k) ?_
    refine own_st (V := T58.setTop (mkF m 122 #[.val (.int p1), .val (.int p2), .val (.int p3), .val (.ref b30), .val (.int (3 : Int32)), .val (.ref (A 3)), .val (.int (p2 ||| (-2147483648 : Int32))), .val (.int ((p3 &&& (2147483647 : Int32)) ||| (1 : Int32))), .val (.int (1 : Int32)), .val (.int (1 : Int32)), .val (.int (1 : Int32))] [])) (fun t k => XS.icmpNo X58.here hx rfl (hb hby at_119) rfl (teq (by decide : (1 : Int32) = (1 : Int32))).2 k) ?_
    refine own_st (V := T58.setTop (mkF m 124 #[.val (.int p1), .val (.int p2), .val (.int p3), .val (.ref b30), .val (.int (3 : Int32)), .val (.ref (A 3)), .val (.int (p2 ||| (-2147483648 : Int32))), .val (.int ((p3 &&& (2147483647 : Int32)) ||| (1 : Int32))), .val (.int (1 : Int32)), .val (.int (1 : Int32)), .val (.int (1 : Int32))] [(.int (1 : Int32))])) (fun t k => XS.iload X58.here hx rfl (hb hby at_122) rfl k) ?_
    refine own_st (V := T58.setTop (mkF m 126 #[.val (.int p1), .val (.int p2), .val (.int p3), .val (.ref b30), .val (.int (3 : Int32)), .val (.ref (A 3)), .val (.int (p2 ||| (-2147483648 : Int32))), .val (.int ((p3 &&& (2147483647 : Int32)) ||| (1 : Int32))), .val (.int (1 : Int32)), .val (.int (1 : Int32)), .val (.int (1 : Int32))] [(.int (1 : Int32)), (.int (1 : Int32))])) (fun t k => XS.iload X58.here hx rfl (hb hby at_124) rfl k) ?_
    refine own_st (V := T58.setTop (mkF m 129 #[.val (.int p1), .val (.int p2), .val (.int p3), .val (.ref b30), .val (.int (3 : Int32)), .val (.ref (A 3)), .val (.int (p2 ||| (-2147483648 : Int32))), .val (.int ((p3 &&& (2147483647 : Int32)) ||| (1 : Int32))), .val (.int (1 : Int32)), .val (.int (1 : Int32)), .val (.int (1 : Int32))] [])) (fun t k => XS.icmpNo X58.here hx rfl (hb hby at_126) rfl (teq (by decide : (1 : Int32) = (1 : Int32))).2 k) ?_
    refine own_st (V := T58.setTop (mkF m 130 #[.val (.int p1), .val (.int p2), .val (.int p3), .val (.ref b30), .val (.int (3 : Int32)), .val (.ref (A 3)), .val (.int (p2 ||| (-2147483648 : Int32))), .val (.int ((p3 &&& (2147483647 : Int32)) ||| (1 : Int32))), .val (.int (1 : Int32)), .val (.int (1 : Int32)), .val (.int (1 : Int32))] [(.int (1 : Int32))])) (fun t k => XS.iconst X58.here hx rfl (hb hby at_129) k) ?_
    refine own_st (V := T58.setTop (mkF m 134 #[.val (.int p1), .val (.int p2), .val (.int p3), .val (.ref b30), .val (.int (3 : Int32)), .val (.ref (A 3)), .val (.int (p2 ||| (-2147483648 : Int32))), .val (.int ((p3 &&& (2147483647 : Int32)) ||| (1 : Int32))), .val (.int (1 : Int32)), .val (.int (1 : Int32)), .val (.int (1 : Int32))] [(.int (1 : Int32))])) (fun t k => XS.goto X58.here hx rfl (pc0 := 130) (pc' := 134) rfl (hb hby at_130) (by decide) (by decide) k) ?_
    exact own_ret X58 hx hlk Bd.returns (by decide +kernel) (Or.inl ⟨rfl, by simp, _, rfl⟩) (hb hby at_134) (by decide) (by decide) ⟨rfl, N58⟩
  · rw [hs49]
    refine own_st (V := T42.setTop (mkF m 51 #[.val (.int p1), .val (.int p2), .val (.int p3), .val (.ref b30), .val (.int (4 : Int32)), .unset, .unset, .unset, .unset, .unset, .unset] [])) (fun t k => XS.istore X42.here hx rfl (hb hby at_49) rfl (l' := #[.val (.int p1), .val (.int p2), .val (.int p3), .val (.ref b30), .val (.int (4 : Int32)), .unset, .unset, .unset, .unset, .unset, .unset]) rfl k) ?_
    refine own_st (V := T42.setTop (mkF m 52 #[.val (.int p1), .val (.int p2), .val (.int p3), .val (.ref b30), .val (.int (4 : Int32)), .unset, .unset, .unset, .unset, .unset, .unset] [(.ref b30)])) (fun t k => XS.aloadN X42.here hx rfl (hb hby at_51) rfl rfl k) ?_
    refine own_st (V := T42.setTop (mkF m 54 #[.val (.int p1), .val (.int p2), .val (.int p3), .val (.ref b30), .val (.int (4 : Int32)), .unset, .unset, .unset, .unset, .unset, .unset] [(.int (4 : Int32)), (.ref b30)])) (fun t k => XS.iload X42.here hx rfl (hb hby at_52) rfl k) ?_
    have V_b30_59 := V_b30_42
    obtain ⟨cl59, Ar59, qk59, sz59, nn59, hs59, fs59⟩ := V_b30_42
    have hin59 : ¬ ((4 : Int32) < 0 ∨ cl59.slots.size ≤ ((4 : Int32)).toNatClampNeg) := inb_of sz59 ⟨by decide, by decide⟩
    refine own_st (V := T42.setTop (mkF m 55 #[.val (.int p1), .val (.int p2), .val (.int p3), .val (.ref b30), .val (.int (4 : Int32)), .unset, .unset, .unset, .unset, .unset, .unset] [(.ref (A 4))])) (fun t k => X42.aaload hx (j := (4 : Int32)) (v := (.ref (A 4))) (by rw [e42]; exact Ar59.1) (State.isArrayOf_alike hZ.alike Ar59.2.1) rfl Ar59.2.2 hin59 (Has.at hs59 hin59 rfl) (g := (mkF m 54 #[.val (.int p1), .val (.int p2), .val (.int p3), .val (.ref b30), .val (.int (4 : Int32)), .unset, .unset, .unset, .unset, .unset, .unset] [(.int (4 : Int32)), (.ref b30)])) rfl rfl (hb hby at_54) _ k) ?_
    refine own_st (V := T42.setTop (mkF m 57 #[.val (.int p1), .val (.int p2), .val (.int p3), .val (.ref b30), .val (.int (4 : Int32)), .val (.ref (A 4)), .unset, .unset, .unset, .unset, .unset] [])) (fun t k => XS.astore X42.here hx rfl (hb hby at_55) rfl rfl (l' := #[.val (.int p1), .val (.int p2), .val (.int p3), .val (.ref b30), .val (.int (4 : Int32)), .val (.ref (A 4)), .unset, .unset, .unset, .unset, .unset]) rfl k) ?_
    refine own_st (V := T42.setTop (mkF m 58 #[.val (.int p1), .val (.int p2), .val (.int p3), .val (.ref b30), .val (.int (4 : Int32)), .val (.ref (A 4)), .unset, .unset, .unset, .unset, .unset] [(.int p2)])) (fun t k => XS.iloadN X42.here hx rfl (hb hby at_57) rfl k) ?_
    refine own_st (V := T42.setTop (mkF m 60 #[.val (.int p1), .val (.int p2), .val (.int p3), .val (.ref b30), .val (.int (4 : Int32)), .val (.ref (A 4)), .unset, .unset, .unset, .unset, .unset] [(.int (-2147483648 : Int32)), (.int p2)])) (fun t k => X42.ldcInt hx hown (mvT hZ (hw _ (List.mem_of_getElem? (i := 17) rfl))) (g := (mkF m 58 #[.val (.int p1), .val (.int p2), .val (.int p3), .val (.ref b30), .val (.int (4 : Int32)), .val (.ref (A 4)), .unset, .unset, .unset, .unset, .unset] [(.int p2)])) rfl (hb hby at_58) t k) ?_
    refine own_st (V := T42.setTop (mkF m 61 #[.val (.int p1), .val (.int p2), .val (.int p3), .val (.ref b30), .val (.int (4 : Int32)), .val (.ref (A 4)), .unset, .unset, .unset, .unset, .unset] [(.int (p2 ||| (-2147483648 : Int32)))])) (fun t k => XS.ior X42.here hx rfl (hb hby at_60) rfl k) ?_
    refine own_st (V := T42.setTop (mkF m 63 #[.val (.int p1), .val (.int p2), .val (.int p3), .val (.ref b30), .val (.int (4 : Int32)), .val (.ref (A 4)), .val (.int (p2 ||| (-2147483648 : Int32))), .unset, .unset, .unset, .unset] [])) (fun t k => XS.istore X42.here hx rfl (hb hby at_61) rfl (l' := #[.val (.int p1), .val (.int p2), .val (.int p3), .val (.ref b30), .val (.int (4 : Int32)), .val (.ref (A 4)), .val (.int (p2 ||| (-2147483648 : Int32))), .unset, .unset, .unset, .unset]) rfl k) ?_
    refine own_st (V := T42.setTop (mkF m 64 #[.val (.int p1), .val (.int p2), .val (.int p3), .val (.ref b30), .val (.int (4 : Int32)), .val (.ref (A 4)), .val (.int (p2 ||| (-2147483648 : Int32))), .unset, .unset, .unset, .unset] [(.int p3)])) (fun t k => XS.iloadN X42.here hx rfl (hb hby at_63) rfl k) ?_
    refine own_st (V := T42.setTop (mkF m 66 #[.val (.int p1), .val (.int p2), .val (.int p3), .val (.ref b30), .val (.int (4 : Int32)), .val (.ref (A 4)), .val (.int (p2 ||| (-2147483648 : Int32))), .unset, .unset, .unset, .unset] [(.int (2147483647 : Int32)), (.int p3)])) (fun t k => X42.ldcInt hx hown (mvT hZ (hw _ (List.mem_of_getElem? (i := 16) rfl))) (g := (mkF m 64 #[.val (.int p1), .val (.int p2), .val (.int p3), .val (.ref b30), .val (.int (4 : Int32)), .val (.ref (A 4)), .val (.int (p2 ||| (-2147483648 : Int32))), .unset, .unset, .unset, .unset] [(.int p3)])) rfl (hb hby at_64) t k) ?_
    refine own_st (V := T42.setTop (mkF m 67 #[.val (.int p1), .val (.int p2), .val (.int p3), .val (.ref b30), .val (.int (4 : Int32)), .val (.ref (A 4)), .val (.int (p2 ||| (-2147483648 : Int32))), .unset, .unset, .unset, .unset] [(.int (p3 &&& (2147483647 : Int32)))])) (fun t k => XS.iand X42.here hx rfl (hb hby at_66) rfl k) ?_
    refine own_st (V := T42.setTop (mkF m 68 #[.val (.int p1), .val (.int p2), .val (.int p3), .val (.ref b30), .val (.int (4 : Int32)), .val (.ref (A 4)), .val (.int (p2 ||| (-2147483648 : Int32))), .unset, .unset, .unset, .unset] [(.int (1 : Int32)), (.int (p3 &&& (2147483647 : Int32)))])) (fun t k => XS.iconst X42.here hx rfl (hb hby at_67) k) ?_
    refine own_st (V := T42.setTop (mkF m 69 #[.val (.int p1), .val (.int p2), .val (.int p3), .val (.ref b30), .val (.int (4 : Int32)), .val (.ref (A 4)), .val (.int (p2 ||| (-2147483648 : Int32))), .unset, .unset, .unset, .unset] [(.int ((p3 &&& (2147483647 : Int32)) ||| (1 : Int32)))])) (fun t k => XS.ior X42.here hx rfl (hb hby at_68) rfl k) ?_
    refine own_st (V := T42.setTop (mkF m 71 #[.val (.int p1), .val (.int p2), .val (.int p3), .val (.ref b30), .val (.int (4 : Int32)), .val (.ref (A 4)), .val (.int (p2 ||| (-2147483648 : Int32))), .val (.int ((p3 &&& (2147483647 : Int32)) ||| (1 : Int32))), .unset, .unset, .unset] [])) (fun t k => XS.istore X42.here hx rfl (hb hby at_69) rfl (l' := #[.val (.int p1), .val (.int p2), .val (.int p3), .val (.ref b30), .val (.int (4 : Int32)), .val (.ref (A 4)), .val (.int (p2 ||| (-2147483648 : Int32))), .val (.int ((p3 &&& (2147483647 : Int32)) ||| (1 : Int32))), .unset, .unset, .unset]) rfl k) ?_
    refine own_st (V := T42.setTop (mkF m 73 #[.val (.int p1), .val (.int p2), .val (.int p3), .val (.ref b30), .val (.int (4 : Int32)), .val (.ref (A 4)), .val (.int (p2 ||| (-2147483648 : Int32))), .val (.int ((p3 &&& (2147483647 : Int32)) ||| (1 : Int32))), .unset, .unset, .unset] [(.ref (A 4))])) (fun t k => XS.aload X42.here hx rfl (hb hby at_71) rfl rfl k) ?_
    obtain ⟨cq60, kq60, q60a, q60b, q60c⟩ := isOf hZ e42 (own_E En_42 4 (i := 4) (n := "GREATER") rfl)
    obtain ⟨_, _, ⟨T60, L60, k60, n60⟩, -, X60, ⟨Lc60, hQ60, l60, y60, z60⟩, st60⟩ := X42.virtualBack hx (y := (⟨"com/example/affirm_rows/affirmrows/rules/Comparison", "needsOrder", "()Z"⟩ : MethodName)) (z := (⟨"com/example/affirm_rows/affirmrows/rules/Comparison", "needsOrder", "()Z"⟩ : MethodName)) hown (mvT hZ (hw _ (List.mem_of_getElem? (i := 18) rfl))) (mvT hZ (hw _ (List.mem_of_getElem? (i := 19) rfl))) (notFace_of_selects (args := #[]) (mvT hZ (hw _ (List.mem_of_getElem? (i := 21) rfl)))) (mvT hZ (hw _ (List.mem_of_getElem? (i := 21) rfl))) (mvT hZ (hw _ (List.mem_of_getElem? (i := 20) rfl))) (by decide) (backOf (W := 0) (own_no4 l Z a0 hw [] A h42 n0 Z0_42 En_42 ) hZ (hw _ (List.mem_of_getElem? (i := 22) rfl)) (hw _ (List.mem_of_getElem? (i := 3) rfl)) (by decide) (by decide)) q60a q60c (g := (mkF m 73 #[.val (.int p1), .val (.int p2), .val (.int p3), .val (.ref b30), .val (.int (4 : Int32)), .val (.ref (A 4)), .val (.int (p2 ||| (-2147483648 : Int32))), .val (.int ((p3 &&& (2147483647 : Int32)) ||| (1 : Int32))), .unset, .unset, .unset] [(.ref (A 4))])) rfl (by rw [hml]; rfl) (Steps.refl _) (argsL := []) (rest := []) (lenOf own_pd1 rfl) rfl (by show 2 * 0 + _ ≤ _; exact Nat.le_of_eq rfl) (hb hby at_73) (fun _ _ => ⟨rfl, e42, (by decide : 1 + 0 ≤ _), (by decide : 6 + 0 ≤ _)⟩)
    dsimp only [Pt.U, Pt.locs, Pt.cells, Pt.slots] at X60 l60 y60 z60 st60 hQ60
    subst l60 y60 z60
    obtain ⟨rfl, N60q, e60⟩ := hQ60
    have N60 := Fr.app N42 N60q
    refine own_st (V := T60.setTop (mkF m 76 #[.val (.int p1), .val (.int p2), .val (.int p3), .val (.ref b30), .val (.int (4 : Int32)), .val (.ref (A 4)), .val (.int (p2 ||| (-2147483648 : Int32))), .val (.int ((p3 &&& (2147483647 : Int32)) ||| (1 : Int32))), .unset, .unset, .unset] [(.int (1 : Int32))])) (fun t k => st60.trans k) ?_
    refine own_st (V := T60.setTop (mkF m 78 #[.val (.int p1), .val (.int p2), .val (.int p3), .val (.ref b30), .val (.int (4 : Int32)), .val (.ref (A 4)), .val (.int (p2 ||| (-2147483648 : Int32))), .val (.int ((p3 &&& (2147483647 : Int32)) ||| (1 : Int32))), .val (.int (1 : Int32)), .unset, .unset] [])) (fun t k => XS.istore X60.here hx rfl (hb hby at_76) rfl (l' := #[.val (.int p1), .val (.int p2), .val (.int p3), .val (.ref b30), .val (.int (4 : Int32)), .val (.ref (A 4)), .val (.int (p2 ||| (-2147483648 : Int32))), .val (.int ((p3 &&& (2147483647 : Int32)) ||| (1 : Int32))), .val (.int (1 : Int32)), .unset, .unset]) rfl k) ?_
    refine own_st (V := T60.setTop (mkF m 80 #[.val (.int p1), .val (.int p2), .val (.int p3), .val (.ref b30), .val (.int (4 : Int32)), .val (.ref (A 4)), .val (.int (p2 ||| (-2147483648 : Int32))), .val (.int ((p3 &&& (2147483647 : Int32)) ||| (1 : Int32))), .val (.int (1 : Int32)), .unset, .unset] [(.int (4 : Int32))])) (fun t k => XS.iload X60.here hx rfl (hb hby at_78) rfl k) ?_
    refine own_st (V := T60.setTop (mkF m 81 #[.val (.int p1), .val (.int p2), .val (.int p3), .val (.ref b30), .val (.int (4 : Int32)), .val (.ref (A 4)), .val (.int (p2 ||| (-2147483648 : Int32))), .val (.int ((p3 &&& (2147483647 : Int32)) ||| (1 : Int32))), .val (.int (1 : Int32)), .unset, .unset] [(.int (2 : Int32)), (.int (4 : Int32))])) (fun t k => XS.iconst X60.here hx rfl (hb hby at_80) k) ?_
    refine own_st (V := T60.setTop (mkF m 84 #[.val (.int p1), .val (.int p2), .val (.int p3), .val (.ref b30), .val (.int (4 : Int32)), .val (.ref (A 4)), .val (.int (p2 ||| (-2147483648 : Int32))), .val (.int ((p3 &&& (2147483647 : Int32)) ||| (1 : Int32))), .val (.int (1 : Int32)), .unset, .unset] [])) (fun t k => XS.icmpNo X60.here hx rfl (hb hby at_81) rfl (flt (by decide : ¬ ((4 : Int32) < (2 : Int32)))).1 k) ?_
    refine own_st (V := T60.setTop (mkF m 85 #[.val (.int p1), .val (.int p2), .val (.int p3), .val (.ref b30), .val (.int (4 : Int32)), .val (.ref (A 4)), .val (.int (p2 ||| (-2147483648 : Int32))), .val (.int ((p3 &&& (2147483647 : Int32)) ||| (1 : Int32))), .val (.int (1 : Int32)), .unset, .unset] [(.int (1 : Int32))])) (fun t k => XS.iconst X60.here hx rfl (hb hby at_84) k) ?_
    refine own_st (V := T60.setTop (mkF m 89 #[.val (.int p1), .val (.int p2), .val (.int p3), .val (.ref b30), .val (.int (4 : Int32)), .val (.ref (A 4)), .val (.int (p2 ||| (-2147483648 : Int32))), .val (.int ((p3 &&& (2147483647 : Int32)) ||| (1 : Int32))), .val (.int (1 : Int32)), .unset, .unset] [(.int (1 : Int32))])) (fun t k => XS.goto X60.here hx rfl (pc0 := 85) (pc' := 89) rfl (hb hby at_85) (by decide) (by decide) k) ?_
    refine own_st (V := T60.setTop (mkF m 91 #[.val (.int p1), .val (.int p2), .val (.int p3), .val (.ref b30), .val (.int (4 : Int32)), .val (.ref (A 4)), .val (.int (p2 ||| (-2147483648 : Int32))), .val (.int ((p3 &&& (2147483647 : Int32)) ||| (1 : Int32))), .val (.int (1 : Int32)), .val (.int (1 : Int32)), .unset] [])) (fun t k => XS.istore X60.here hx rfl (hb hby at_89) rfl (l' := #[.val (.int p1), .val (.int p2), .val (.int p3), .val (.ref b30), .val (.int (4 : Int32)), .val (.ref (A 4)), .val (.int (p2 ||| (-2147483648 : Int32))), .val (.int ((p3 &&& (2147483647 : Int32)) ||| (1 : Int32))), .val (.int (1 : Int32)), .val (.int (1 : Int32)), .unset]) rfl k) ?_
    refine own_st (V := T60.setTop (mkF m 93 #[.val (.int p1), .val (.int p2), .val (.int p3), .val (.ref b30), .val (.int (4 : Int32)), .val (.ref (A 4)), .val (.int (p2 ||| (-2147483648 : Int32))), .val (.int ((p3 &&& (2147483647 : Int32)) ||| (1 : Int32))), .val (.int (1 : Int32)), .val (.int (1 : Int32)), .unset] [(.ref (A 4))])) (fun t k => XS.aload X60.here hx rfl (hb hby at_91) rfl rfl k) ?_
    refine own_st (V := T60.setTop (mkF m 95 #[.val (.int p1), .val (.int p2), .val (.int p3), .val (.ref b30), .val (.int (4 : Int32)), .val (.ref (A 4)), .val (.int (p2 ||| (-2147483648 : Int32))), .val (.int ((p3 &&& (2147483647 : Int32)) ||| (1 : Int32))), .val (.int (1 : Int32)), .val (.int (1 : Int32)), .unset] [(.int (p2 ||| (-2147483648 : Int32))), (.ref (A 4))])) (fun t k => XS.iload X60.here hx rfl (hb hby at_93) rfl k) ?_
    obtain ⟨cq61, kq61, q61a, q61b, q61c⟩ := isOf hZ e60 (own_E En_42 4 (i := 4) (n := "GREATER") rfl)
    obtain ⟨_, _, ⟨T61, L61, k61, n61⟩, -, X61, ⟨Lc61, hQ61, l61, y61, z61⟩, st61⟩ := X60.virtualBack hx (y := (⟨"com/example/affirm_rows/affirmrows/rules/Comparison", "holds", "(I)Z"⟩ : MethodName)) (z := (⟨"com/example/affirm_rows/affirmrows/rules/Comparison", "holds", "(I)Z"⟩ : MethodName)) hown (mvT hZ (hw _ (List.mem_of_getElem? (i := 24) rfl))) (mvT hZ (hw _ (List.mem_of_getElem? (i := 25) rfl))) (notFace_of_selects (args := #[]) (mvT hZ (hw _ (List.mem_of_getElem? (i := 27) rfl)))) (mvT hZ (hw _ (List.mem_of_getElem? (i := 27) rfl))) (mvT hZ (hw _ (List.mem_of_getElem? (i := 26) rfl))) (by decide) (backOf (W := 0) (own_ho4n l Z a0 hw [] (p2 ||| (-2147483648 : Int32)) A h42 n0 Z0_42 En_42 (own_neg p2)) hZ (hw _ (List.mem_of_getElem? (i := 28) rfl)) (hw _ (List.mem_of_getElem? (i := 3) rfl)) (by decide) (by decide)) q61a q61c (g := (mkF m 95 #[.val (.int p1), .val (.int p2), .val (.int p3), .val (.ref b30), .val (.int (4 : Int32)), .val (.ref (A 4)), .val (.int (p2 ||| (-2147483648 : Int32))), .val (.int ((p3 &&& (2147483647 : Int32)) ||| (1 : Int32))), .val (.int (1 : Int32)), .val (.int (1 : Int32)), .unset] [(.int (p2 ||| (-2147483648 : Int32))), (.ref (A 4))])) rfl (by rw [hml]; rfl) (Steps.refl _) (argsL := [(.int (p2 ||| (-2147483648 : Int32)))]) (rest := []) (lenOf own_pd2 rfl) rfl (by show 2 * 0 + _ ≤ _; exact Nat.le_of_eq rfl) (hb hby at_95) (fun _ _ => ⟨rfl, e60, (by decide : 1 + 0 ≤ _), (by decide : 6 + 0 ≤ _)⟩)
    dsimp only [Pt.U, Pt.locs, Pt.cells, Pt.slots] at X61 l61 y61 z61 st61 hQ61
    subst l61 y61 z61
    obtain ⟨rfl, N61q, e61⟩ := hQ61
    have N61 := Fr.app N60 N61q
    refine own_st (V := T61.setTop (mkF m 98 #[.val (.int p1), .val (.int p2), .val (.int p3), .val (.ref b30), .val (.int (4 : Int32)), .val (.ref (A 4)), .val (.int (p2 ||| (-2147483648 : Int32))), .val (.int ((p3 &&& (2147483647 : Int32)) ||| (1 : Int32))), .val (.int (1 : Int32)), .val (.int (1 : Int32)), .unset] [(.int (0 : Int32))])) (fun t k => st61.trans k) ?_
    refine own_st (V := T61.setTop (mkF m 100 #[.val (.int p1), .val (.int p2), .val (.int p3), .val (.ref b30), .val (.int (4 : Int32)), .val (.ref (A 4)), .val (.int (p2 ||| (-2147483648 : Int32))), .val (.int ((p3 &&& (2147483647 : Int32)) ||| (1 : Int32))), .val (.int (1 : Int32)), .val (.int (1 : Int32)), .unset] [(.ref (A 4)), (.int (0 : Int32))])) (fun t k => XS.aload X61.here hx rfl (hb hby at_98) rfl rfl k) ?_
    refine own_st (V := T61.setTop (mkF m 102 #[.val (.int p1), .val (.int p2), .val (.int p3), .val (.ref b30), .val (.int (4 : Int32)), .val (.ref (A 4)), .val (.int (p2 ||| (-2147483648 : Int32))), .val (.int ((p3 &&& (2147483647 : Int32)) ||| (1 : Int32))), .val (.int (1 : Int32)), .val (.int (1 : Int32)), .unset] [(.int ((p3 &&& (2147483647 : Int32)) ||| (1 : Int32))), (.ref (A 4)), (.int (0 : Int32))])) (fun t k => XS.iload X61.here hx rfl (hb hby at_100) rfl k) ?_
    obtain ⟨cq62, kq62, q62a, q62b, q62c⟩ := isOf hZ e61 (own_E En_42 4 (i := 4) (n := "GREATER") rfl)
    obtain ⟨_, _, ⟨T62, L62, k62, n62⟩, -, X62, ⟨Lc62, hQ62, l62, y62, z62⟩, st62⟩ := X61.virtualBack hx (y := (⟨"com/example/affirm_rows/affirmrows/rules/Comparison", "holds", "(I)Z"⟩ : MethodName)) (z := (⟨"com/example/affirm_rows/affirmrows/rules/Comparison", "holds", "(I)Z"⟩ : MethodName)) hown (mvT hZ (hw _ (List.mem_of_getElem? (i := 24) rfl))) (mvT hZ (hw _ (List.mem_of_getElem? (i := 25) rfl))) (notFace_of_selects (args := #[]) (mvT hZ (hw _ (List.mem_of_getElem? (i := 27) rfl)))) (mvT hZ (hw _ (List.mem_of_getElem? (i := 27) rfl))) (mvT hZ (hw _ (List.mem_of_getElem? (i := 26) rfl))) (by decide) (backOf (W := 1) (own_ho4p l Z a0 hw [] ((p3 &&& (2147483647 : Int32)) ||| (1 : Int32)) A h42 n0 Z0_42 En_42 (own_pos p3)) hZ (hw _ (List.mem_of_getElem? (i := 28) rfl)) (hw _ (List.mem_of_getElem? (i := 3) rfl)) (by decide) (by decide)) q62a q62c (g := (mkF m 102 #[.val (.int p1), .val (.int p2), .val (.int p3), .val (.ref b30), .val (.int (4 : Int32)), .val (.ref (A 4)), .val (.int (p2 ||| (-2147483648 : Int32))), .val (.int ((p3 &&& (2147483647 : Int32)) ||| (1 : Int32))), .val (.int (1 : Int32)), .val (.int (1 : Int32)), .unset] [(.int ((p3 &&& (2147483647 : Int32)) ||| (1 : Int32))), (.ref (A 4)), (.int (0 : Int32))])) rfl (by rw [hml]; rfl) (Steps.refl _) (argsL := [(.int ((p3 &&& (2147483647 : Int32)) ||| (1 : Int32)))]) (rest := [(.int (0 : Int32))]) (lenOf own_pd2 rfl) rfl (by show 2 * 0 + _ ≤ _; exact Nat.le_of_eq rfl) (hb hby at_102) (fun _ _ => ⟨rfl, e61, (by decide : 1 + 0 ≤ _), (by decide : 6 + 0 ≤ _)⟩)
    dsimp only [Pt.U, Pt.locs, Pt.cells, Pt.slots] at X62 l62 y62 z62 st62 hQ62
    subst l62 y62 z62
    obtain ⟨rfl, N62q, e62⟩ := hQ62
    have N62 := Fr.app N61 N62q
    refine own_st (V := T62.setTop (mkF m 105 #[.val (.int p1), .val (.int p2), .val (.int p3), .val (.ref b30), .val (.int (4 : Int32)), .val (.ref (A 4)), .val (.int (p2 ||| (-2147483648 : Int32))), .val (.int ((p3 &&& (2147483647 : Int32)) ||| (1 : Int32))), .val (.int (1 : Int32)), .val (.int (1 : Int32)), .unset] [(.int (1 : Int32)), (.int (0 : Int32))])) (fun t k => st62.trans k) ?_
    refine own_st (V := T62.setTop (mkF m 108 #[.val (.int p1), .val (.int p2), .val (.int p3), .val (.ref b30), .val (.int (4 : Int32)), .val (.ref (A 4)), .val (.int (p2 ||| (-2147483648 : Int32))), .val (.int ((p3 &&& (2147483647 : Int32)) ||| (1 : Int32))), .val (.int (1 : Int32)), .val (.int (1 : Int32)), .unset] [])) (fun t k => XS.icmpNo X62.here hx rfl (hb hby at_105) rfl (feq (by decide : ¬ ((0 : Int32) = (1 : Int32)))).1 k) ?_
    refine own_st (V := T62.setTop (mkF m 109 #[.val (.int p1), .val (.int p2), .val (.int p3), .val (.ref b30), .val (.int (4 : Int32)), .val (.ref (A 4)), .val (.int (p2 ||| (-2147483648 : Int32))), .val (.int ((p3 &&& (2147483647 : Int32)) ||| (1 : Int32))), .val (.int (1 : Int32)), .val (.int (1 : Int32)), .unset] [(.int (1 : Int32))])) (fun t k => XS.iconst X62.here hx rfl (hb hby at_108) k) ?_
    refine own_st (V := T62.setTop (mkF m 113 #[.val (.int p1), .val (.int p2), .val (.int p3), .val (.ref b30), .val (.int (4 : Int32)), .val (.ref (A 4)), .val (.int (p2 ||| (-2147483648 : Int32))), .val (.int ((p3 &&& (2147483647 : Int32)) ||| (1 : Int32))), .val (.int (1 : Int32)), .val (.int (1 : Int32)), .unset] [(.int (1 : Int32))])) (fun t k => XS.goto X62.here hx rfl (pc0 := 109) (pc' := 113) rfl (hb hby at_109) (by decide) (by decide) k) ?_
    refine own_st (V := T62.setTop (mkF m 115 #[.val (.int p1), .val (.int p2), .val (.int p3), .val (.ref b30), .val (.int (4 : Int32)), .val (.ref (A 4)), .val (.int (p2 ||| (-2147483648 : Int32))), .val (.int ((p3 &&& (2147483647 : Int32)) ||| (1 : Int32))), .val (.int (1 : Int32)), .val (.int (1 : Int32)), .val (.int (1 : Int32))] [])) (fun t k => XS.istore X62.here hx rfl (hb hby at_113) rfl (l' := #[.val (.int p1), .val (.int p2), .val (.int p3), .val (.ref b30), .val (.int (4 : Int32)), .val (.ref (A 4)), .val (.int (p2 ||| (-2147483648 : Int32))), .val (.int ((p3 &&& (2147483647 : Int32)) ||| (1 : Int32))), .val (.int (1 : Int32)), .val (.int (1 : Int32)), .val (.int (1 : Int32))]) rfl k) ?_
    refine own_st (V := T62.setTop (mkF m 117 #[.val (.int p1), .val (.int p2), .val (.int p3), .val (.ref b30), .val (.int (4 : Int32)), .val (.ref (A 4)), .val (.int (p2 ||| (-2147483648 : Int32))), .val (.int ((p3 &&& (2147483647 : Int32)) ||| (1 : Int32))), .val (.int (1 : Int32)), .val (.int (1 : Int32)), .val (.int (1 : Int32))] [(.int (1 : Int32))])) (fun t k => XS.iload X62.here hx rfl (hb hby at_115) rfl k) ?_
    refine own_st (V := T62.setTop (mkF m 119 #[.val (.int p1), .val (.int p2), .val (.int p3), .val (.ref b30), .val (.int (4 : Int32)), .val (.ref (A 4)), .val (.int (p2 ||| (-2147483648 : Int32))), .val (.int ((p3 &&& (2147483647 : Int32)) ||| (1 : Int32))), .val (.int (1 : Int32)), .val (.int (1 : Int32)), .val (.int (1 : Int32))] [(.int (1 : Int32)), (.int (1 : Int32))])) (fun t k => XS.iload X62.here hx rfl (hb hby at_117) rfl k) ?_
    refine own_st (V := T62.setTop (mkF m 122 #[.val (.int p1), .val (.int p2), .val (.int p3), .val (.ref b30), .val (.int (4 : Int32)), .val (.ref (A 4)), .val (.int (p2 ||| (-2147483648 : Int32))), .val (.int ((p3 &&& (2147483647 : Int32)) ||| (1 : Int32))), .val (.int (1 : Int32)), .val (.int (1 : Int32)), .val (.int (1 : Int32))] [])) (fun t k => XS.icmpNo X62.here hx rfl (hb hby at_119) rfl (teq (by decide : (1 : Int32) = (1 : Int32))).2 k) ?_
    refine own_st (V := T62.setTop (mkF m 124 #[.val (.int p1), .val (.int p2), .val (.int p3), .val (.ref b30), .val (.int (4 : Int32)), .val (.ref (A 4)), .val (.int (p2 ||| (-2147483648 : Int32))), .val (.int ((p3 &&& (2147483647 : Int32)) ||| (1 : Int32))), .val (.int (1 : Int32)), .val (.int (1 : Int32)), .val (.int (1 : Int32))] [(.int (1 : Int32))])) (fun t k => XS.iload X62.here hx rfl (hb hby at_122) rfl k) ?_
    refine own_st (V := T62.setTop (mkF m 126 #[.val (.int p1), .val (.int p2), .val (.int p3), .val (.ref b30), .val (.int (4 : Int32)), .val (.ref (A 4)), .val (.int (p2 ||| (-2147483648 : Int32))), .val (.int ((p3 &&& (2147483647 : Int32)) ||| (1 : Int32))), .val (.int (1 : Int32)), .val (.int (1 : Int32)), .val (.int (1 : Int32))] [(.int (1 : Int32)), (.int (1 : Int32))])) (fun t k => XS.iload X62.here hx rfl (hb hby at_124) rfl k) ?_
    refine own_st (V := T62.setTop (mkF m 129 #[.val (.int p1), .val (.int p2), .val (.int p3), .val (.ref b30), .val (.int (4 : Int32)), .val (.ref (A 4)), .val (.int (p2 ||| (-2147483648 : Int32))), .val (.int ((p3 &&& (2147483647 : Int32)) ||| (1 : Int32))), .val (.int (1 : Int32)), .val (.int (1 : Int32)), .val (.int (1 : Int32))] [])) (fun t k => XS.icmpNo X62.here hx rfl (hb hby at_126) rfl (teq (by decide : (1 : Int32) = (1 : Int32))).2 k) ?_
    refine own_st (V := T62.setTop (mkF m 130 #[.val (.int p1), .val (.int p2), .val (.int p3), .val (.ref b30), .val (.int (4 : Int32)), .val (.ref (A 4)), .val (.int (p2 ||| (-2147483648 : Int32))), .val (.int ((p3 &&& (2147483647 : Int32)) ||| (1 : Int32))), .val (.int (1 : Int32)), .val (.int (1 : Int32)), .val (.int (1 : Int32))] [(.int (1 : Int32))])) (fun t k => XS.iconst X62.here hx rfl (hb hby at_129) k) ?_
    refine own_st (V := T62.setTop (mkF m 134 #[.val (.int p1), .val (.int p2), .val (.int p3), .val (.ref b30), .val (.int (4 : Int32)), .val (.ref (A 4)), .val (.int (p2 ||| (-2147483648 : Int32))), .val (.int ((p3 &&& (2147483647 : Int32)) ||| (1 : Int32))), .val (.int (1 : Int32)), .val (.int (1 : Int32)), .val (.int (1 : Int32))] [(.int (1 : Int32))])) (fun t k => XS.goto X62.here hx rfl (pc0 := 130) (pc' := 134) rfl (hb hby at_130) (by decide) (by decide) k) ?_
    exact own_ret X62 hx hlk Bd.returns (by decide +kernel) (Or.inl ⟨rfl, by simp, _, rfl⟩) (hb hby at_134) (by decide) (by decide) ⟨rfl, N62⟩
  · rw [hs49]
    refine own_st (V := T42.setTop (mkF m 51 #[.val (.int p1), .val (.int p2), .val (.int p3), .val (.ref b30), .val (.int (5 : Int32)), .unset, .unset, .unset, .unset, .unset, .unset] [])) (fun t k => XS.istore X42.here hx rfl (hb hby at_49) rfl (l' := #[.val (.int p1), .val (.int p2), .val (.int p3), .val (.ref b30), .val (.int (5 : Int32)), .unset, .unset, .unset, .unset, .unset, .unset]) rfl k) ?_
    refine own_st (V := T42.setTop (mkF m 52 #[.val (.int p1), .val (.int p2), .val (.int p3), .val (.ref b30), .val (.int (5 : Int32)), .unset, .unset, .unset, .unset, .unset, .unset] [(.ref b30)])) (fun t k => XS.aloadN X42.here hx rfl (hb hby at_51) rfl rfl k) ?_
    refine own_st (V := T42.setTop (mkF m 54 #[.val (.int p1), .val (.int p2), .val (.int p3), .val (.ref b30), .val (.int (5 : Int32)), .unset, .unset, .unset, .unset, .unset, .unset] [(.int (5 : Int32)), (.ref b30)])) (fun t k => XS.iload X42.here hx rfl (hb hby at_52) rfl k) ?_
    have V_b30_63 := V_b30_42
    obtain ⟨cl63, Ar63, qk63, sz63, nn63, hs63, fs63⟩ := V_b30_42
    have hin63 : ¬ ((5 : Int32) < 0 ∨ cl63.slots.size ≤ ((5 : Int32)).toNatClampNeg) := inb_of sz63 ⟨by decide, by decide⟩
    refine own_st (V := T42.setTop (mkF m 55 #[.val (.int p1), .val (.int p2), .val (.int p3), .val (.ref b30), .val (.int (5 : Int32)), .unset, .unset, .unset, .unset, .unset, .unset] [(.ref (A 5))])) (fun t k => X42.aaload hx (j := (5 : Int32)) (v := (.ref (A 5))) (by rw [e42]; exact Ar63.1) (State.isArrayOf_alike hZ.alike Ar63.2.1) rfl Ar63.2.2 hin63 (Has.at hs63 hin63 rfl) (g := (mkF m 54 #[.val (.int p1), .val (.int p2), .val (.int p3), .val (.ref b30), .val (.int (5 : Int32)), .unset, .unset, .unset, .unset, .unset, .unset] [(.int (5 : Int32)), (.ref b30)])) rfl rfl (hb hby at_54) _ k) ?_
    refine own_st (V := T42.setTop (mkF m 57 #[.val (.int p1), .val (.int p2), .val (.int p3), .val (.ref b30), .val (.int (5 : Int32)), .val (.ref (A 5)), .unset, .unset, .unset, .unset, .unset] [])) (fun t k => XS.astore X42.here hx rfl (hb hby at_55) rfl rfl (l' := #[.val (.int p1), .val (.int p2), .val (.int p3), .val (.ref b30), .val (.int (5 : Int32)), .val (.ref (A 5)), .unset, .unset, .unset, .unset, .unset]) rfl k) ?_
    refine own_st (V := T42.setTop (mkF m 58 #[.val (.int p1), .val (.int p2), .val (.int p3), .val (.ref b30), .val (.int (5 : Int32)), .val (.ref (A 5)), .unset, .unset, .unset, .unset, .unset] [(.int p2)])) (fun t k => XS.iloadN X42.here hx rfl (hb hby at_57) rfl k) ?_
    refine own_st (V := T42.setTop (mkF m 60 #[.val (.int p1), .val (.int p2), .val (.int p3), .val (.ref b30), .val (.int (5 : Int32)), .val (.ref (A 5)), .unset, .unset, .unset, .unset, .unset] [(.int (-2147483648 : Int32)), (.int p2)])) (fun t k => X42.ldcInt hx hown (mvT hZ (hw _ (List.mem_of_getElem? (i := 17) rfl))) (g := (mkF m 58 #[.val (.int p1), .val (.int p2), .val (.int p3), .val (.ref b30), .val (.int (5 : Int32)), .val (.ref (A 5)), .unset, .unset, .unset, .unset, .unset] [(.int p2)])) rfl (hb hby at_58) t k) ?_
    refine own_st (V := T42.setTop (mkF m 61 #[.val (.int p1), .val (.int p2), .val (.int p3), .val (.ref b30), .val (.int (5 : Int32)), .val (.ref (A 5)), .unset, .unset, .unset, .unset, .unset] [(.int (p2 ||| (-2147483648 : Int32)))])) (fun t k => XS.ior X42.here hx rfl (hb hby at_60) rfl k) ?_
    refine own_st (V := T42.setTop (mkF m 63 #[.val (.int p1), .val (.int p2), .val (.int p3), .val (.ref b30), .val (.int (5 : Int32)), .val (.ref (A 5)), .val (.int (p2 ||| (-2147483648 : Int32))), .unset, .unset, .unset, .unset] [])) (fun t k => XS.istore X42.here hx rfl (hb hby at_61) rfl (l' := #[.val (.int p1), .val (.int p2), .val (.int p3), .val (.ref b30), .val (.int (5 : Int32)), .val (.ref (A 5)), .val (.int (p2 ||| (-2147483648 : Int32))), .unset, .unset, .unset, .unset]) rfl k) ?_
    refine own_st (V := T42.setTop (mkF m 64 #[.val (.int p1), .val (.int p2), .val (.int p3), .val (.ref b30), .val (.int (5 : Int32)), .val (.ref (A 5)), .val (.int (p2 ||| (-2147483648 : Int32))), .unset, .unset, .unset, .unset] [(.int p3)])) (fun t k => XS.iloadN X42.here hx rfl (hb hby at_63) rfl k) ?_
    refine own_st (V := T42.setTop (mkF m 66 #[.val (.int p1), .val (.int p2), .val (.int p3), .val (.ref b30), .val (.int (5 : Int32)), .val (.ref (A 5)), .val (.int (p2 ||| (-2147483648 : Int32))), .unset, .unset, .unset, .unset] [(.int (2147483647 : Int32)), (.int p3)])) (fun t k => X42.ldcInt hx hown (mvT hZ (hw _ (List.mem_of_getElem? (i := 16) rfl))) (g := (mkF m 64 #[.val (.int p1), .val (.int p2), .val (.int p3), .val (.ref b30), .val (.int (5 : Int32)), .val (.ref (A 5)), .val (.int (p2 ||| (-2147483648 : Int32))), .unset, .unset, .unset, .unset] [(.int p3)])) rfl (hb hby at_64) t k) ?_
    refine own_st (V := T42.setTop (mkF m 67 #[.val (.int p1), .val (.int p2), .val (.int p3), .val (.ref b30), .val (.int (5 : Int32)), .val (.ref (A 5)), .val (.int (p2 ||| (-2147483648 : Int32))), .unset, .unset, .unset, .unset] [(.int (p3 &&& (2147483647 : Int32)))])) (fun t k => XS.iand X42.here hx rfl (hb hby at_66) rfl k) ?_
    refine own_st (V := T42.setTop (mkF m 68 #[.val (.int p1), .val (.int p2), .val (.int p3), .val (.ref b30), .val (.int (5 : Int32)), .val (.ref (A 5)), .val (.int (p2 ||| (-2147483648 : Int32))), .unset, .unset, .unset, .unset] [(.int (1 : Int32)), (.int (p3 &&& (2147483647 : Int32)))])) (fun t k => XS.iconst X42.here hx rfl (hb hby at_67) k) ?_
    refine own_st (V := T42.setTop (mkF m 69 #[.val (.int p1), .val (.int p2), .val (.int p3), .val (.ref b30), .val (.int (5 : Int32)), .val (.ref (A 5)), .val (.int (p2 ||| (-2147483648 : Int32))), .unset, .unset, .unset, .unset] [(.int ((p3 &&& (2147483647 : Int32)) ||| (1 : Int32)))])) (fun t k => XS.ior X42.here hx rfl (hb hby at_68) rfl k) ?_
    refine own_st (V := T42.setTop (mkF m 71 #[.val (.int p1), .val (.int p2), .val (.int p3), .val (.ref b30), .val (.int (5 : Int32)), .val (.ref (A 5)), .val (.int (p2 ||| (-2147483648 : Int32))), .val (.int ((p3 &&& (2147483647 : Int32)) ||| (1 : Int32))), .unset, .unset, .unset] [])) (fun t k => XS.istore X42.here hx rfl (hb hby at_69) rfl (l' := #[.val (.int p1), .val (.int p2), .val (.int p3), .val (.ref b30), .val (.int (5 : Int32)), .val (.ref (A 5)), .val (.int (p2 ||| (-2147483648 : Int32))), .val (.int ((p3 &&& (2147483647 : Int32)) ||| (1 : Int32))), .unset, .unset, .unset]) rfl k) ?_
    refine own_st (V := T42.setTop (mkF m 73 #[.val (.int p1), .val (.int p2), .val (.int p3), .val (.ref b30), .val (.int (5 : Int32)), .val (.ref (A 5)), .val (.int (p2 ||| (-2147483648 : Int32))), .val (.int ((p3 &&& (2147483647 : Int32)) ||| (1 : Int32))), .unset, .unset, .unset] [(.ref (A 5))])) (fun t k => XS.aload X42.here hx rfl (hb hby at_71) rfl rfl k) ?_
    obtain ⟨cq64, kq64, q64a, q64b, q64c⟩ := isOf hZ e42 (own_E En_42 5 (i := 5) (n := "GREATER_OR_EQUAL") rfl)
    obtain ⟨_, _, ⟨T64, L64, k64, n64⟩, -, X64, ⟨Lc64, hQ64, l64, y64, z64⟩, st64⟩ := X42.virtualBack hx (y := (⟨"com/example/affirm_rows/affirmrows/rules/Comparison", "needsOrder", "()Z"⟩ : MethodName)) (z := (⟨"com/example/affirm_rows/affirmrows/rules/Comparison", "needsOrder", "()Z"⟩ : MethodName)) hown (mvT hZ (hw _ (List.mem_of_getElem? (i := 18) rfl))) (mvT hZ (hw _ (List.mem_of_getElem? (i := 19) rfl))) (notFace_of_selects (args := #[]) (mvT hZ (hw _ (List.mem_of_getElem? (i := 21) rfl)))) (mvT hZ (hw _ (List.mem_of_getElem? (i := 21) rfl))) (mvT hZ (hw _ (List.mem_of_getElem? (i := 20) rfl))) (by decide) (backOf (W := 0) (own_no5 l Z a0 hw [] A h42 n0 Z0_42 En_42 ) hZ (hw _ (List.mem_of_getElem? (i := 22) rfl)) (hw _ (List.mem_of_getElem? (i := 3) rfl)) (by decide) (by decide)) q64a q64c (g := (mkF m 73 #[.val (.int p1), .val (.int p2), .val (.int p3), .val (.ref b30), .val (.int (5 : Int32)), .val (.ref (A 5)), .val (.int (p2 ||| (-2147483648 : Int32))), .val (.int ((p3 &&& (2147483647 : Int32)) ||| (1 : Int32))), .unset, .unset, .unset] [(.ref (A 5))])) rfl (by rw [hml]; rfl) (Steps.refl _) (argsL := []) (rest := []) (lenOf own_pd1 rfl) rfl (by show 2 * 0 + _ ≤ _; exact Nat.le_of_eq rfl) (hb hby at_73) (fun _ _ => ⟨rfl, e42, (by decide : 1 + 0 ≤ _), (by decide : 6 + 0 ≤ _)⟩)
    dsimp only [Pt.U, Pt.locs, Pt.cells, Pt.slots] at X64 l64 y64 z64 st64 hQ64
    subst l64 y64 z64
    obtain ⟨rfl, N64q, e64⟩ := hQ64
    have N64 := Fr.app N42 N64q
    refine own_st (V := T64.setTop (mkF m 76 #[.val (.int p1), .val (.int p2), .val (.int p3), .val (.ref b30), .val (.int (5 : Int32)), .val (.ref (A 5)), .val (.int (p2 ||| (-2147483648 : Int32))), .val (.int ((p3 &&& (2147483647 : Int32)) ||| (1 : Int32))), .unset, .unset, .unset] [(.int (1 : Int32))])) (fun t k => st64.trans k) ?_
    refine own_st (V := T64.setTop (mkF m 78 #[.val (.int p1), .val (.int p2), .val (.int p3), .val (.ref b30), .val (.int (5 : Int32)), .val (.ref (A 5)), .val (.int (p2 ||| (-2147483648 : Int32))), .val (.int ((p3 &&& (2147483647 : Int32)) ||| (1 : Int32))), .val (.int (1 : Int32)), .unset, .unset] [])) (fun t k => XS.istore X64.here hx rfl (hb hby at_76) rfl (l' := #[.val (.int p1), .val (.int p2), .val (.int p3), .val (.ref b30), .val (.int (5 : Int32)), .val (.ref (A 5)), .val (.int (p2 ||| (-2147483648 : Int32))), .val (.int ((p3 &&& (2147483647 : Int32)) ||| (1 : Int32))), .val (.int (1 : Int32)), .unset, .unset]) rfl k) ?_
    refine own_st (V := T64.setTop (mkF m 80 #[.val (.int p1), .val (.int p2), .val (.int p3), .val (.ref b30), .val (.int (5 : Int32)), .val (.ref (A 5)), .val (.int (p2 ||| (-2147483648 : Int32))), .val (.int ((p3 &&& (2147483647 : Int32)) ||| (1 : Int32))), .val (.int (1 : Int32)), .unset, .unset] [(.int (5 : Int32))])) (fun t k => XS.iload X64.here hx rfl (hb hby at_78) rfl k) ?_
    refine own_st (V := T64.setTop (mkF m 81 #[.val (.int p1), .val (.int p2), .val (.int p3), .val (.ref b30), .val (.int (5 : Int32)), .val (.ref (A 5)), .val (.int (p2 ||| (-2147483648 : Int32))), .val (.int ((p3 &&& (2147483647 : Int32)) ||| (1 : Int32))), .val (.int (1 : Int32)), .unset, .unset] [(.int (2 : Int32)), (.int (5 : Int32))])) (fun t k => XS.iconst X64.here hx rfl (hb hby at_80) k) ?_
    refine own_st (V := T64.setTop (mkF m 84 #[.val (.int p1), .val (.int p2), .val (.int p3), .val (.ref b30), .val (.int (5 : Int32)), .val (.ref (A 5)), .val (.int (p2 ||| (-2147483648 : Int32))), .val (.int ((p3 &&& (2147483647 : Int32)) ||| (1 : Int32))), .val (.int (1 : Int32)), .unset, .unset] [])) (fun t k => XS.icmpNo X64.here hx rfl (hb hby at_81) rfl (flt (by decide : ¬ ((5 : Int32) < (2 : Int32)))).1 k) ?_
    refine own_st (V := T64.setTop (mkF m 85 #[.val (.int p1), .val (.int p2), .val (.int p3), .val (.ref b30), .val (.int (5 : Int32)), .val (.ref (A 5)), .val (.int (p2 ||| (-2147483648 : Int32))), .val (.int ((p3 &&& (2147483647 : Int32)) ||| (1 : Int32))), .val (.int (1 : Int32)), .unset, .unset] [(.int (1 : Int32))])) (fun t k => XS.iconst X64.here hx rfl (hb hby at_84) k) ?_
    refine own_st (V := T64.setTop (mkF m 89 #[.val (.int p1), .val (.int p2), .val (.int p3), .val (.ref b30), .val (.int (5 : Int32)), .val (.ref (A 5)), .val (.int (p2 ||| (-2147483648 : Int32))), .val (.int ((p3 &&& (2147483647 : Int32)) ||| (1 : Int32))), .val (.int (1 : Int32)), .unset, .unset] [(.int (1 : Int32))])) (fun t k => XS.goto X64.here hx rfl (pc0 := 85) (pc' := 89) rfl (hb hby at_85) (by decide) (by decide) k) ?_
    refine own_st (V := T64.setTop (mkF m 91 #[.val (.int p1), .val (.int p2), .val (.int p3), .val (.ref b30), .val (.int (5 : Int32)), .val (.ref (A 5)), .val (.int (p2 ||| (-2147483648 : Int32))), .val (.int ((p3 &&& (2147483647 : Int32)) ||| (1 : Int32))), .val (.int (1 : Int32)), .val (.int (1 : Int32)), .unset] [])) (fun t k => XS.istore X64.here hx rfl (hb hby at_89) rfl (l' := #[.val (.int p1), .val (.int p2), .val (.int p3), .val (.ref b30), .val (.int (5 : Int32)), .val (.ref (A 5)), .val (.int (p2 ||| (-2147483648 : Int32))), .val (.int ((p3 &&& (2147483647 : Int32)) ||| (1 : Int32))), .val (.int (1 : Int32)), .val (.int (1 : Int32)), .unset]) rfl k) ?_
    refine own_st (V := T64.setTop (mkF m 93 #[.val (.int p1), .val (.int p2), .val (.int p3), .val (.ref b30), .val (.int (5 : Int32)), .val (.ref (A 5)), .val (.int (p2 ||| (-2147483648 : Int32))), .val (.int ((p3 &&& (2147483647 : Int32)) ||| (1 : Int32))), .val (.int (1 : Int32)), .val (.int (1 : Int32)), .unset] [(.ref (A 5))])) (fun t k => XS.aload X64.here hx rfl (hb hby at_91) rfl rfl k) ?_
    refine own_st (V := T64.setTop (mkF m 95 #[.val (.int p1), .val (.int p2), .val (.int p3), .val (.ref b30), .val (.int (5 : Int32)), .val (.ref (A 5)), .val (.int (p2 ||| (-2147483648 : Int32))), .val (.int ((p3 &&& (2147483647 : Int32)) ||| (1 : Int32))), .val (.int (1 : Int32)), .val (.int (1 : Int32)), .unset] [(.int (p2 ||| (-2147483648 : Int32))), (.ref (A 5))])) (fun t k => XS.iload X64.here hx rfl (hb hby at_93) rfl k) ?_
    obtain ⟨cq65, kq65, q65a, q65b, q65c⟩ := isOf hZ e64 (own_E En_42 5 (i := 5) (n := "GREATER_OR_EQUAL") rfl)
    obtain ⟨_, _, ⟨T65, L65, k65, n65⟩, -, X65, ⟨Lc65, hQ65, l65, y65, z65⟩, st65⟩ := X64.virtualBack hx (y := (⟨"com/example/affirm_rows/affirmrows/rules/Comparison", "holds", "(I)Z"⟩ : MethodName)) (z := (⟨"com/example/affirm_rows/affirmrows/rules/Comparison", "holds", "(I)Z"⟩ : MethodName)) hown (mvT hZ (hw _ (List.mem_of_getElem? (i := 24) rfl))) (mvT hZ (hw _ (List.mem_of_getElem? (i := 25) rfl))) (notFace_of_selects (args := #[]) (mvT hZ (hw _ (List.mem_of_getElem? (i := 27) rfl)))) (mvT hZ (hw _ (List.mem_of_getElem? (i := 27) rfl))) (mvT hZ (hw _ (List.mem_of_getElem? (i := 26) rfl))) (by decide) (backOf (W := 0) (own_ho5n l Z a0 hw [] (p2 ||| (-2147483648 : Int32)) A h42 n0 Z0_42 En_42 (own_neg p2)) hZ (hw _ (List.mem_of_getElem? (i := 28) rfl)) (hw _ (List.mem_of_getElem? (i := 3) rfl)) (by decide) (by decide)) q65a q65c (g := (mkF m 95 #[.val (.int p1), .val (.int p2), .val (.int p3), .val (.ref b30), .val (.int (5 : Int32)), .val (.ref (A 5)), .val (.int (p2 ||| (-2147483648 : Int32))), .val (.int ((p3 &&& (2147483647 : Int32)) ||| (1 : Int32))), .val (.int (1 : Int32)), .val (.int (1 : Int32)), .unset] [(.int (p2 ||| (-2147483648 : Int32))), (.ref (A 5))])) rfl (by rw [hml]; rfl) (Steps.refl _) (argsL := [(.int (p2 ||| (-2147483648 : Int32)))]) (rest := []) (lenOf own_pd2 rfl) rfl (by show 2 * 0 + _ ≤ _; exact Nat.le_of_eq rfl) (hb hby at_95) (fun _ _ => ⟨rfl, e64, (by decide : 1 + 0 ≤ _), (by decide : 6 + 0 ≤ _)⟩)
    dsimp only [Pt.U, Pt.locs, Pt.cells, Pt.slots] at X65 l65 y65 z65 st65 hQ65
    subst l65 y65 z65
    obtain ⟨rfl, N65q, e65⟩ := hQ65
    have N65 := Fr.app N64 N65q
    refine own_st (V := T65.setTop (mkF m 98 #[.val (.int p1), .val (.int p2), .val (.int p3), .val (.ref b30), .val (.int (5 : Int32)), .val (.ref (A 5)), .val (.int (p2 ||| (-2147483648 : Int32))), .val (.int ((p3 &&& (2147483647 : Int32)) ||| (1 : Int32))), .val (.int (1 : Int32)), .val (.int (1 : Int32)), .unset] [(.int (0 : Int32))])) (fun t k => st65.trans k) ?_
    refine own_st (V := T65.setTop (mkF m 100 #[.val (.int p1), .val (.int p2), .val (.int p3), .val (.ref b30), .val (.int (5 : Int32)), .val (.ref (A 5)), .val (.int (p2 ||| (-2147483648 : Int32))), .val (.int ((p3 &&& (2147483647 : Int32)) ||| (1 : Int32))), .val (.int (1 : Int32)), .val (.int (1 : Int32)), .unset] [(.ref (A 5)), (.int (0 : Int32))])) (fun t k => XS.aload X65.here hx rfl (hb hby at_98) rfl rfl k) ?_
    refine own_st (V := T65.setTop (mkF m 102 #[.val (.int p1), .val (.int p2), .val (.int p3), .val (.ref b30), .val (.int (5 : Int32)), .val (.ref (A 5)), .val (.int (p2 ||| (-2147483648 : Int32))), .val (.int ((p3 &&& (2147483647 : Int32)) ||| (1 : Int32))), .val (.int (1 : Int32)), .val (.int (1 : Int32)), .unset] [(.int ((p3 &&& (2147483647 : Int32)) ||| (1 : Int32))), (.ref (A 5)), (.int (0 : Int32))])) (fun t k => XS.iload X65.here hx rfl (hb hby at_100) rfl k) ?_
    obtain ⟨cq66, kq66, q66a, q66b, q66c⟩ := isOf hZ e65 (own_E En_42 5 (i := 5) (n := "GREATER_OR_EQUAL") rfl)
    obtain ⟨_, _, ⟨T66, L66, k66, n66⟩, -, X66, ⟨Lc66, hQ66, l66, y66, z66⟩, st66⟩ := X65.virtualBack hx (y := (⟨"com/example/affirm_rows/affirmrows/rules/Comparison", "holds", "(I)Z"⟩ : MethodName)) (z := (⟨"com/example/affirm_rows/affirmrows/rules/Comparison", "holds", "(I)Z"⟩ : MethodName)) hown (mvT hZ (hw _ (List.mem_of_getElem? (i := 24) rfl))) (mvT hZ (hw _ (List.mem_of_getElem? (i := 25) rfl))) (notFace_of_selects (args := #[]) (mvT hZ (hw _ (List.mem_of_getElem? (i := 27) rfl)))) (mvT hZ (hw _ (List.mem_of_getElem? (i := 27) rfl))) (mvT hZ (hw _ (List.mem_of_getElem? (i := 26) rfl))) (by decide) (backOf (W := 1) (own_ho5p l Z a0 hw [] ((p3 &&& (2147483647 : Int32)) ||| (1 : Int32)) A h42 n0 Z0_42 En_42 (own_pos p3)) hZ (hw _ (List.mem_of_getElem? (i := 28) rfl)) (hw _ (List.mem_of_getElem? (i := 3) rfl)) (by decide) (by decide)) q66a q66c (g := (mkF m 102 #[.val (.int p1), .val (.int p2), .val (.int p3), .val (.ref b30), .val (.int (5 : Int32)), .val (.ref (A 5)), .val (.int (p2 ||| (-2147483648 : Int32))), .val (.int ((p3 &&& (2147483647 : Int32)) ||| (1 : Int32))), .val (.int (1 : Int32)), .val (.int (1 : Int32)), .unset] [(.int ((p3 &&& (2147483647 : Int32)) ||| (1 : Int32))), (.ref (A 5)), (.int (0 : Int32))])) rfl (by rw [hml]; rfl) (Steps.refl _) (argsL := [(.int ((p3 &&& (2147483647 : Int32)) ||| (1 : Int32)))]) (rest := [(.int (0 : Int32))]) (lenOf own_pd2 rfl) rfl (by show 2 * 0 + _ ≤ _; exact Nat.le_of_eq rfl) (hb hby at_102) (fun _ _ => ⟨rfl, e65, (by decide : 1 + 0 ≤ _), (by decide : 6 + 0 ≤ _)⟩)
    dsimp only [Pt.U, Pt.locs, Pt.cells, Pt.slots] at X66 l66 y66 z66 st66 hQ66
    subst l66 y66 z66
    obtain ⟨rfl, N66q, e66⟩ := hQ66
    have N66 := Fr.app N65 N66q
    refine own_st (V := T66.setTop (mkF m 105 #[.val (.int p1), .val (.int p2), .val (.int p3), .val (.ref b30), .val (.int (5 : Int32)), .val (.ref (A 5)), .val (.int (p2 ||| (-2147483648 : Int32))), .val (.int ((p3 &&& (2147483647 : Int32)) ||| (1 : Int32))), .val (.int (1 : Int32)), .val (.int (1 : Int32)), .unset] [(.int (1 : Int32)), (.int (0 : Int32))])) (fun t k => st66.trans k) ?_
    refine own_st (V := T66.setTop (mkF m 108 #[.val (.int p1), .val (.int p2), .val (.int p3), .val (.ref b30), .val (.int (5 : Int32)), .val (.ref (A 5)), .val (.int (p2 ||| (-2147483648 : Int32))), .val (.int ((p3 &&& (2147483647 : Int32)) ||| (1 : Int32))), .val (.int (1 : Int32)), .val (.int (1 : Int32)), .unset] [])) (fun t k => XS.icmpNo X66.here hx rfl (hb hby at_105) rfl (feq (by decide : ¬ ((0 : Int32) = (1 : Int32)))).1 k) ?_
    refine own_st (V := T66.setTop (mkF m 109 #[.val (.int p1), .val (.int p2), .val (.int p3), .val (.ref b30), .val (.int (5 : Int32)), .val (.ref (A 5)), .val (.int (p2 ||| (-2147483648 : Int32))), .val (.int ((p3 &&& (2147483647 : Int32)) ||| (1 : Int32))), .val (.int (1 : Int32)), .val (.int (1 : Int32)), .unset] [(.int (1 : Int32))])) (fun t k => XS.iconst X66.here hx rfl (hb hby at_108) k) ?_
    refine own_st (V := T66.setTop (mkF m 113 #[.val (.int p1), .val (.int p2), .val (.int p3), .val (.ref b30), .val (.int (5 : Int32)), .val (.ref (A 5)), .val (.int (p2 ||| (-2147483648 : Int32))), .val (.int ((p3 &&& (2147483647 : Int32)) ||| (1 : Int32))), .val (.int (1 : Int32)), .val (.int (1 : Int32)), .unset] [(.int (1 : Int32))])) (fun t k => XS.goto X66.here hx rfl (pc0 := 109) (pc' := 113) rfl (hb hby at_109) (by decide) (by decide) k) ?_
    refine own_st (V := T66.setTop (mkF m 115 #[.val (.int p1), .val (.int p2), .val (.int p3), .val (.ref b30), .val (.int (5 : Int32)), .val (.ref (A 5)), .val (.int (p2 ||| (-2147483648 : Int32))), .val (.int ((p3 &&& (2147483647 : Int32)) ||| (1 : Int32))), .val (.int (1 : Int32)), .val (.int (1 : Int32)), .val (.int (1 : Int32))] [])) (fun t k => XS.istore X66.here hx rfl (hb hby at_113) rfl (l' := #[.val (.int p1), .val (.int p2), .val (.int p3), .val (.ref b30), .val (.int (5 : Int32)), .val (.ref (A 5)), .val (.int (p2 ||| (-2147483648 : Int32))), .val (.int ((p3 &&& (2147483647 : Int32)) ||| (1 : Int32))), .val (.int (1 : Int32)), .val (.int (1 : Int32)), .val (.int (1 : Int32))]) rfl k) ?_
    refine own_st (V := T66.setTop (mkF m 117 #[.val (.int p1), .val (.int p2), .val (.int p3), .val (.ref b30), .val (.int (5 : Int32)), .val (.ref (A 5)), .val (.int (p2 ||| (-2147483648 : Int32))), .val (.int ((p3 &&& (2147483647 : Int32)) ||| (1 : Int32))), .val (.int (1 : Int32)), .val (.int (1 : Int32)), .val (.int (1 : Int32))] [(.int (1 : Int32))])) (fun t k => XS.iload X66.here hx rfl (hb hby at_115) rfl k) ?_
    refine own_st (V := T66.setTop (mkF m 119 #[.val (.int p1), .val (.int p2), .val (.int p3), .val (.ref b30), .val (.int (5 : Int32)), .val (.ref (A 5)), .val (.int (p2 ||| (-2147483648 : Int32))), .val (.int ((p3 &&& (2147483647 : Int32)) ||| (1 : Int32))), .val (.int (1 : Int32)), .val (.int (1 : Int32)), .val (.int (1 : Int32))] [(.int (1 : Int32)), (.int (1 : Int32))])) (fun t k => XS.iload X66.here hx rfl (hb hby at_117) rfl k) ?_
    refine own_st (V := T66.setTop (mkF m 122 #[.val (.int p1), .val (.int p2), .val (.int p3), .val (.ref b30), .val (.int (5 : Int32)), .val (.ref (A 5)), .val (.int (p2 ||| (-2147483648 : Int32))), .val (.int ((p3 &&& (2147483647 : Int32)) ||| (1 : Int32))), .val (.int (1 : Int32)), .val (.int (1 : Int32)), .val (.int (1 : Int32))] [])) (fun t k => XS.icmpNo X66.here hx rfl (hb hby at_119) rfl (teq (by decide : (1 : Int32) = (1 : Int32))).2 k) ?_
    refine own_st (V := T66.setTop (mkF m 124 #[.val (.int p1), .val (.int p2), .val (.int p3), .val (.ref b30), .val (.int (5 : Int32)), .val (.ref (A 5)), .val (.int (p2 ||| (-2147483648 : Int32))), .val (.int ((p3 &&& (2147483647 : Int32)) ||| (1 : Int32))), .val (.int (1 : Int32)), .val (.int (1 : Int32)), .val (.int (1 : Int32))] [(.int (1 : Int32))])) (fun t k => XS.iload X66.here hx rfl (hb hby at_122) rfl k) ?_
    refine own_st (V := T66.setTop (mkF m 126 #[.val (.int p1), .val (.int p2), .val (.int p3), .val (.ref b30), .val (.int (5 : Int32)), .val (.ref (A 5)), .val (.int (p2 ||| (-2147483648 : Int32))), .val (.int ((p3 &&& (2147483647 : Int32)) ||| (1 : Int32))), .val (.int (1 : Int32)), .val (.int (1 : Int32)), .val (.int (1 : Int32))] [(.int (1 : Int32)), (.int (1 : Int32))])) (fun t k => XS.iload X66.here hx rfl (hb hby at_124) rfl k) ?_
    refine own_st (V := T66.setTop (mkF m 129 #[.val (.int p1), .val (.int p2), .val (.int p3), .val (.ref b30), .val (.int (5 : Int32)), .val (.ref (A 5)), .val (.int (p2 ||| (-2147483648 : Int32))), .val (.int ((p3 &&& (2147483647 : Int32)) ||| (1 : Int32))), .val (.int (1 : Int32)), .val (.int (1 : Int32)), .val (.int (1 : Int32))] [])) (fun t k => XS.icmpNo X66.here hx rfl (hb hby at_126) rfl (teq (by decide : (1 : Int32) = (1 : Int32))).2 k) ?_
    refine own_st (V := T66.setTop (mkF m 130 #[.val (.int p1), .val (.int p2), .val (.int p3), .val (.ref b30), .val (.int (5 : Int32)), .val (.ref (A 5)), .val (.int (p2 ||| (-2147483648 : Int32))), .val (.int ((p3 &&& (2147483647 : Int32)) ||| (1 : Int32))), .val (.int (1 : Int32)), .val (.int (1 : Int32)), .val (.int (1 : Int32))] [(.int (1 : Int32))])) (fun t k => XS.iconst X66.here hx rfl (hb hby at_129) k) ?_
    refine own_st (V := T66.setTop (mkF m 134 #[.val (.int p1), .val (.int p2), .val (.int p3), .val (.ref b30), .val (.int (5 : Int32)), .val (.ref (A 5)), .val (.int (p2 ||| (-2147483648 : Int32))), .val (.int ((p3 &&& (2147483647 : Int32)) ||| (1 : Int32))), .val (.int (1 : Int32)), .val (.int (1 : Int32)), .val (.int (1 : Int32))] [(.int (1 : Int32))])) (fun t k => XS.goto X66.here hx rfl (pc0 := 130) (pc' := 134) rfl (hb hby at_130) (by decide) (by decide) k) ?_
    exact own_ret X66 hx hlk Bd.returns (by decide +kernel) (Or.inl ⟨rfl, by simp, _, rfl⟩) (hb hby at_134) (by decide) (by decide) ⟨rfl, N66⟩
theorem own_law (l : Launch) (Z : State) (a0 : Array Value) (hw : ∀ d ∈ tables_1, d.before a0 Z = true) (ws : List Jvm.Cond) (p1 : Int32) (p2 : Int32) (p3 : Int32) (A : Nat → Addr) (h0 : Heap) (n0 : Nat) (Z0 : n0 ≤ h0.size) (En : own_En Z h0 A) :
    MetFree l x (head1 (Jvm.Cond.code x code maxLocals ret :: ws) room_1) (fun a U => a = #[(.int p1), (.int p2), (.int p3)] ∧ Z.Warmed39 U.vm ∧ U.heap = h0) (fun _ _ _ _ _ => True) (fun _ U o U' => ∃ v L, o = .returned v ∧ own_Q0 Z p1 p2 p3 A h0 n0 v U'.heap L ∧ FrameEnd U o U' L room_1.cells room_1.slots) := by
  exact own_law0 l Z a0 hw ws p1 p2 p3 A h0 n0 Z0 En
set_option maxRecDepth 65536 in
set_option maxHeartbeats 40000000 in
theorem comes_1 {Post : Tables → Env → Array Value → State → Outcome → State → Prop} (hpost : ∀ tb e args s v u, (limb_1_1.after args s (.returned v) u = true ∧ limb_1_2.after args s (.returned v) u = true ∧ True) → FrameEnd s (.returned v) u (Jvm.fieldLocs frame_1_writes args s ++ Jvm.arrayLocs frame_1_arrays args s ++ Jvm.staticLocs frame_1_statics s) 16 128 → Post tb e args s (.returned v) u) :
    ArmFor flags0 classFile x code maxLocals ret World_1 tables_1 room_1 Calls_1 rest_1 Pre_1 Post := by
  intro l hfl _ _ p e ha hc hk s m args below hf hA hF happ hP
  obtain ⟨hcalls, hrest, hpre⟩ := hP
  obtain ⟨-, -, -, hnamed, -, -, -, hat⟩ := (Spec.applies_iff hf).mp happ
  obtain ⟨hg, hn⟩ := and_e (Cond.before_iff.mp (show (Jvm.Cond.and given_1 narrow_1).before args s = true from hpre))
  obtain ⟨g0, g1⟩ := and_e hg
  obtain ⟨ga0, gr0⟩ := and_e g1
  obtain ⟨ga1, gr1⟩ := and_e gr0
  obtain ⟨w0, w1, w2, rfl⟩ : ∃ w0 w1 w2 : Value, args = #[w0, w1, w2] := by
    have hs : args.size = 3 := by simpa [Cond.value, given_1] using g0
    obtain ⟨L⟩ := args
    match L, hs with
    | [w0, w1, w2], _ => exact ⟨w0, w1, w2, rfl⟩
  have hw := fun d (hd : d ∈ tables_1) => atoms_spec (ws := Jvm.Cond.code x code maxLocals ret :: tables_1) hat d (List.mem_cons_of_mem _ hd)
  have hfit : Fit s := fun {y c} hc i hi => by
    obtain ⟨ha, rfl⟩ := Array.getElem?_eq_some_iff.mp hc
    have q := List.all_eq_true.mp ((Array.all_eq_true_iff_forall_mem.mp hF) _ (Array.getElem_mem ha)) i (List.mem_range.mpr hi)
    simpa [Array.getElem?_eq_getElem hi] using q
  obtain ⟨i0, ei0⟩ := is_v ga0
  obtain rfl : w0 = (.int i0) := Option.some.inj ei0
  obtain ⟨i1, ei1⟩ := is_v ga1
  obtain rfl : w1 = (.int i1) := Option.some.inj ei1
  obtain ⟨i2, ei2⟩ := is_v gr1
  obtain rfl : w2 = (.int i2) := Option.some.inj ei2
  obtain ⟨nz0, nr0⟩ := and_e hn
  obtain ⟨nz1, nr1⟩ := and_e nr0
  obtain ⟨nz2, nr2⟩ := and_e nr1
  obtain ⟨nz3, nr3⟩ := and_e nr2
  obtain ⟨nz4, nr4⟩ := and_e nr3
  obtain ⟨nz5, nr5⟩ := and_e nr4
  obtain ⟨nz6, nr6⟩ := and_e nr5
  obtain ⟨nz7, nr7⟩ := and_e nr6
  obtain ⟨nz8, nr8⟩ := and_e nr7
  obtain ⟨nz9, nr9⟩ := and_e nr8
  obtain ⟨nz10, nr10⟩ := and_e nr9
  have nz11 := nr10
  obtain ⟨a0, S0, E0, v0⟩ := own_sta nz0 (hw _ (List.mem_of_getElem? (i := 3) rfl)) (hw _ (List.mem_of_getElem? (i := 4) rfl))
  obtain ⟨a1, S1, E1, v1⟩ := own_sta nz1 (hw _ (List.mem_of_getElem? (i := 3) rfl)) (hw _ (List.mem_of_getElem? (i := 7) rfl))
  obtain ⟨a2, S2, E2, v2⟩ := own_sta nz2 (hw _ (List.mem_of_getElem? (i := 3) rfl)) (hw _ (List.mem_of_getElem? (i := 9) rfl))
  obtain ⟨a3, S3, E3, v3⟩ := own_sta nz3 (hw _ (List.mem_of_getElem? (i := 3) rfl)) (hw _ (List.mem_of_getElem? (i := 11) rfl))
  obtain ⟨a4, S4, E4, v4⟩ := own_sta nz4 (hw _ (List.mem_of_getElem? (i := 3) rfl)) (hw _ (List.mem_of_getElem? (i := 13) rfl))
  obtain ⟨a5, S5, E5, v5⟩ := own_sta nz5 (hw _ (List.mem_of_getElem? (i := 3) rfl)) (hw _ (List.mem_of_getElem? (i := 15) rfl))
  let A : Nat → Addr := fun i => [a0, a1, a2, a3, a4, a5].getD i 0
  have En : own_En s s.heap A := by
    intro q hq
    simp only [own_cs, List.mem_cons, List.not_mem_nil, or_false] at hq
    rcases hq with rfl | rfl | rfl | rfl | rfl | rfl
    · exact ⟨S0, E0, own_fld v0 nz6⟩
    · exact ⟨S1, E1, own_fld v1 nz7⟩
    · exact ⟨S2, E2, own_fld v2 nz8⟩
    · exact ⟨S3, E3, own_fld v3 nz10⟩
    · exact ⟨S4, E4, own_fld v4 nz11⟩
    · exact ⟨S5, E5, own_fld v5 nz9⟩
  obtain ⟨n, o, h1, h2, h3, _, L, rfl, ⟨rfl, N⟩, hq⟩ := own_law l s _ hw tables_1 i0 i1 i2 A s.heap s.heap.size (Nat.le_refl _) En p e ha hc hk s m _ below hf ((Spec.applies_iff_loose hf).mp happ).1 ⟨rfl, State.Warmed39.refl s, rfl⟩ trivial
  refine ⟨n, _, h1, h2, h3, hpost _ _ _ _ _ _ ⟨Cond.after_iff.mpr rfl, Cond.after_iff.mpr (eq_i res_at (Term.int_eval (1)) rfl), trivial⟩ ⟨hq.1, hq.2.1, (hq.2.2.sift fun y hy => Or.inr (N y hy)).mono (by decide) (by decide)⟩⟩
theorem main_1_1 : Claimed_1_1 := comes_1 fun _ _ _ _ _ _ h hF => ⟨h.1, hF⟩
theorem main_1_2 : Claimed_1_2 := comes_1 fun _ _ _ _ _ _ h hF => ⟨h.2.1, hF⟩
end Jvm.Pilot.@@N@@
namespace Jvm.Pilot.@@N@@
open Jvm Jvm.ClassFile Sem Op Lib Jvm.Free Jvm.Stand Jvm.Pilot.@@N@@.Jvm.D
/-! MADE BY PROGRAM (witnessworld.py) out of the Statement's table words and the real class files: 14 classes; the members and pool entries that the words name. The judged class is class 1, her method 1. -/
namespace start1
open Jvm.ClassFile
def u (s : String) : CpInfo := .utf8 (stringToUtf16 s)
/-- a pool by its gaps: so many unusable entries, then the entry; so many at the end -/
def gap : Nat → List CpInfo → List CpInfo
  | 0, r => r
  | n + 1, r => .unusable :: gap n r
def poolList (es : List (Nat × CpInfo)) (last : Nat) : List CpInfo := es.foldr (fun e r => gap e.1 (e.2 :: r)) (gap last [])
def pool (es : List (Nat × CpInfo)) (last : Nat) : Array CpInfo := ⟨poolList es last⟩
def fileOf (pool : Array CpInfo) (this : Nat) (attrs : Array Attribute := #[]) (ms : Array MethodInfo := #[]) (fl : Nat := 33) (sup : Nat := 0) (ifs : Array Nat := #[]) (fds : Array FieldInfo := #[]) : ClassFile where
  minorVersion := 0
  majorVersion := 65
  constantPool := pool
  accessFlags := fl
  thisClass := this
  superClass := sup
  interfaces := ifs
  fields := fds
  methods := ms
  attributes := attrs
def plain (name : String) (sup : Option ClassId) : Class where
  name := name
  kind := .ordinary
  loader := none
  accessFlags := 33
  super := sup
  interfaces := #[]
  cf := none
  fields := #[]
  methods := #[]
  instanceTypes := #[]
  staticTypes := #[]
  resolved := #[]
  callSites := []
  init := .initialized
  statics := none
  mirror := none

def pool0 : Array CpInfo := pool [(5, u "<init>"), (0, u "()V"), (1, .class_ 10), (1, u "java/lang/Object")] 113

def k0m0 : Method := { name := "<init>", desc := "()V", sig := { parameters := [], returnType := none }, accessFlags := 1, code := none }
/-- java/lang/Object -/
def k0 : Class := { plain "java/lang/Object" none with
  accessFlags := 33
  interfaces := #[]
  cf := some (fileOf pool0 8 #[] #[{ accessFlags := 1, nameIndex := 5, descriptorIndex := 6, attributes := #[] }] 33 0 #[] #[])
  fields := #[]
  methods := #[k0m0]
  instanceTypes := #[]
  staticTypes := #[]
  resolved := Array.replicate 124 none
  statics := none }

def pool1 : Array CpInfo := pool [(2, .class_ 4), (1, u "java/lang/Object"), (0, u "<init>"), (0, u "()V"), (0, .class_ 8), (0, u "com/example/affirm_rows/affirmrows/rules/Comparison"), (0, .fieldref 7 10), (0, .nameAndType 11 12), (0, u "EQUAL"), (0, u "Lcom/example/affirm_rows/affirmrows/rules/Comparison;"), (0, .fieldref 7 14), (0, .nameAndType 15 12), (0, u "NOT_EQUAL"), (0, .fieldref 7 17), (0, .nameAndType 18 12), (0, u "LESS"), (0, .fieldref 7 20), (0, .nameAndType 21 12), (0, u "LESS_OR_EQUAL"), (0, .fieldref 7 23), (0, .nameAndType 24 12), (0, u "GREATER"), (0, .fieldref 7 26), (0, .nameAndType 27 12), (0, u "GREATER_OR_EQUAL"), (0, .integer 2147483647), (2, .integer 2147483648), (0, .methodref 7 33), (0, .nameAndType 34 35), (0, u "needsOrder"), (0, u "()Z"), (0, .methodref 7 37), (0, .nameAndType 38 39), (0, u "holds"), (0, u "(I)Z"), (0, .class_ 41), (0, u "com/example/affirm_rows/affirmrows/rules/ComparisonNeedsOrderPinLaw"), (2, u "law"), (0, u "(III)Z")] 5

def k1m0 : Method := { name := "<init>", desc := "()V", sig := { parameters := [], returnType := none }, accessFlags := 2, code := none }
def k1c1 : Code := { maxStack := 4, maxLocals := 11, code := code, exceptionTable := #[], attributes := #[] }
def k1m1 : Method := { name := "law", desc := "(III)Z", sig := { parameters := [.int, .int, .int], returnType := some .boolean }, accessFlags := 9, code := some k1c1 }
/-- com/example/affirm_rows/affirmrows/rules/ComparisonNeedsOrderPinLaw -/
def k1 : Class := { plain "com/example/affirm_rows/affirmrows/rules/ComparisonNeedsOrderPinLaw" (some 0) with
  accessFlags := 49
  interfaces := #[]
  cf := some (fileOf pool1 40 #[] #[{ accessFlags := 2, nameIndex := 5, descriptorIndex := 6, attributes := #[] }, { accessFlags := 9, nameIndex := 44, descriptorIndex := 45, attributes := #[] }] 49 2 #[] #[])
  fields := #[]
  methods := #[k1m0, k1m1]
  instanceTypes := #[]
  staticTypes := #[]
  resolved := Array.replicate 51 none
  statics := none }

def pool2 : Array CpInfo := pool [(1, .class_ 2), (0, u "java/lang/constant/Constable"), (0, .class_ 4), (0, u "java/lang/Object")] 6

/-- java/lang/constant/Constable -/
def k2 : Class := { plain "java/lang/constant/Constable" (some 0) with
  accessFlags := 1537
  interfaces := #[]
  cf := some (fileOf pool2 1 #[] #[] 1537 3 #[] #[])
  fields := #[]
  methods := #[]
  instanceTypes := #[]
  staticTypes := #[]
  resolved := Array.replicate 11 none
  statics := none }

def pool3 : Array CpInfo := pool [(1, .class_ 2), (0, u "java/lang/Comparable"), (0, .class_ 4), (0, u "java/lang/Object")] 7

/-- java/lang/Comparable -/
def k3 : Class := { plain "java/lang/Comparable" (some 0) with
  accessFlags := 1537
  interfaces := #[]
  cf := some (fileOf pool3 1 #[] #[] 1537 3 #[] #[])
  fields := #[]
  methods := #[]
  instanceTypes := #[]
  staticTypes := #[]
  resolved := Array.replicate 12 none
  statics := none }

def pool4 : Array CpInfo := pool [(1, .class_ 2), (0, u "java/io/Serializable"), (0, .class_ 4), (0, u "java/lang/Object")] 2

/-- java/io/Serializable -/
def k4 : Class := { plain "java/io/Serializable" (some 0) with
  accessFlags := 1537
  interfaces := #[]
  cf := some (fileOf pool4 1 #[] #[] 1537 3 #[] #[])
  fields := #[]
  methods := #[]
  instanceTypes := #[]
  staticTypes := #[]
  resolved := Array.replicate 7 none
  statics := none }

def pool5 : Array CpInfo := pool [(2, .class_ 4), (1, u "java/lang/Enum"), (0, u "name"), (0, u "Ljava/lang/String;"), (0, .fieldref 2 8), (0, .nameAndType 9 10), (0, u "ordinal"), (0, u "I"), (1, .class_ 14), (1, u "java/lang/Object"), (4, u "hash"), (86, .class_ 108), (1, u "java/lang/Enum$EnumDesc"), (2, .class_ 112), (0, u "java/lang/constant/Constable"), (0, .class_ 114), (0, u "java/lang/Comparable"), (0, .class_ 116), (0, u "java/io/Serializable"), (9, u "()I")] 77

def k5c0 : Code := { maxStack := 1, maxLocals := 1, code := jdk_37_method_2_code, exceptionTable := #[], attributes := #[] }
def k5m0 : Method := { name := "ordinal", desc := "()I", sig := { parameters := [], returnType := some .int }, accessFlags := 17, code := some k5c0 }
/-- java/lang/Enum -/
def k5 : Class := { plain "java/lang/Enum" (some 0) with
  accessFlags := 1057
  interfaces := #[2, 3, 4]
  cf := some (fileOf pool5 2 #[.nestMembers #[106]] #[{ accessFlags := 17, nameIndex := 9, descriptorIndex := 126, attributes := #[] }] 1057 12 #[111, 113, 115] #[{ accessFlags := 18, nameIndex := 5, descriptorIndex := 6, attributes := #[] }, { accessFlags := 18, nameIndex := 9, descriptorIndex := 10, attributes := #[] }, { accessFlags := 2, nameIndex := 19, descriptorIndex := 10, attributes := #[] }])
  fields := #[{ name := "name", type := (.object "java/lang/String"), accessFlags := 18, slot := 0, constantValue := 0 }, { name := "ordinal", type := .int, accessFlags := 18, slot := 1, constantValue := 0 }, { name := "hash", type := .int, accessFlags := 2, slot := 2, constantValue := 0 }]
  methods := #[k5m0]
  instanceTypes := #[(.object "java/lang/String"), .int, .int]
  staticTypes := #[]
  resolved := Array.replicate 204 none
  statics := none }

def pool6 : Array CpInfo := pool [(2, .class_ 4), (1, u "com/example/affirm_rows/affirmrows/rules/Keyword"), (18, .class_ 24), (0, u "java/lang/Object")] 5

/-- com/example/affirm_rows/affirmrows/rules/Keyword -/
def k6 : Class := { plain "com/example/affirm_rows/affirmrows/rules/Keyword" (some 0) with
  accessFlags := 1537
  interfaces := #[]
  cf := some (fileOf pool6 2 #[] #[] 1537 23 #[] #[])
  fields := #[]
  methods := #[]
  instanceTypes := #[]
  staticTypes := #[]
  resolved := Array.replicate 30 none
  statics := none }

def pool7 : Array CpInfo := pool [(1, .class_ 2), (0, u "com/example/affirm_rows/affirmrows/rules/Comparison"), (0, .fieldref 1 4), (0, .nameAndType 5 6), (0, u "EQUAL"), (0, u "Lcom/example/affirm_rows/affirmrows/rules/Comparison;"), (0, .fieldref 1 8), (0, .nameAndType 9 6), (0, u "NOT_EQUAL"), (2, u "LESS"), (2, u "LESS_OR_EQUAL"), (2, u "GREATER"), (2, u "GREATER_OR_EQUAL"), (2, u "$VALUES"), (0, u "[Lcom/example/affirm_rows/affirmrows/rules/Comparison;"), (6, .class_ 34), (1, u "java/lang/Enum"), (8, u "broken"), (0, u "Lcom/example/affirm_rows/affirmrows/messages/Outcome;"), (2, u "needsOrder"), (0, u "()Z"), (21, .methodref 1 71), (0, .nameAndType 72 73), (0, u "ordinal"), (0, u "()I"), (46, .class_ 121), (0, u "com/example/affirm_rows/affirmrows/rules/Keyword"), (10, u "holds"), (0, u "(I)Z")] 21

def k7c0 : Code := { maxStack := 2, maxLocals := 1, code := prog_45_method_4_code, exceptionTable := #[], attributes := #[] }
def k7m0 : Method := { name := "needsOrder", desc := "()Z", sig := { parameters := [], returnType := some .boolean }, accessFlags := 1, code := some k7c0 }
def k7c1 : Code := { maxStack := 4, maxLocals := 2, code := prog_45_method_6_code, exceptionTable := #[], attributes := #[] }
def k7m1 : Method := { name := "holds", desc := "(I)Z", sig := { parameters := [.int], returnType := some .boolean }, accessFlags := 1, code := some k7c1 }
/-- com/example/affirm_rows/affirmrows/rules/Comparison -/
def k7 : Class := { plain "com/example/affirm_rows/affirmrows/rules/Comparison" (some 5) with
  accessFlags := 16433
  interfaces := #[6]
  cf := some (fileOf pool7 1 #[] #[{ accessFlags := 1, nameIndex := 47, descriptorIndex := 48, attributes := #[] }, { accessFlags := 1, nameIndex := 132, descriptorIndex := 133, attributes := #[] }] 16433 32 #[120] #[{ accessFlags := 16409, nameIndex := 5, descriptorIndex := 6, attributes := #[] }, { accessFlags := 16409, nameIndex := 9, descriptorIndex := 6, attributes := #[] }, { accessFlags := 16409, nameIndex := 12, descriptorIndex := 6, attributes := #[] }, { accessFlags := 16409, nameIndex := 15, descriptorIndex := 6, attributes := #[] }, { accessFlags := 16409, nameIndex := 18, descriptorIndex := 6, attributes := #[] }, { accessFlags := 16409, nameIndex := 21, descriptorIndex := 6, attributes := #[] }, { accessFlags := 18, nameIndex := 43, descriptorIndex := 44, attributes := #[] }, { accessFlags := 4122, nameIndex := 24, descriptorIndex := 25, attributes := #[] }])
  fields := #[{ name := "EQUAL", type := (.object "com/example/affirm_rows/affirmrows/rules/Comparison"), accessFlags := 16409, slot := 0, constantValue := 0 }, { name := "NOT_EQUAL", type := (.object "com/example/affirm_rows/affirmrows/rules/Comparison"), accessFlags := 16409, slot := 1, constantValue := 0 }, { name := "LESS", type := (.object "com/example/affirm_rows/affirmrows/rules/Comparison"), accessFlags := 16409, slot := 2, constantValue := 0 }, { name := "LESS_OR_EQUAL", type := (.object "com/example/affirm_rows/affirmrows/rules/Comparison"), accessFlags := 16409, slot := 3, constantValue := 0 }, { name := "GREATER", type := (.object "com/example/affirm_rows/affirmrows/rules/Comparison"), accessFlags := 16409, slot := 4, constantValue := 0 }, { name := "GREATER_OR_EQUAL", type := (.object "com/example/affirm_rows/affirmrows/rules/Comparison"), accessFlags := 16409, slot := 5, constantValue := 0 }, { name := "broken", type := (.object "com/example/affirm_rows/affirmrows/messages/Outcome"), accessFlags := 18, slot := 3, constantValue := 0 }, { name := "$VALUES", type := (.array (.object "com/example/affirm_rows/affirmrows/rules/Comparison")), accessFlags := 4122, slot := 6, constantValue := 0 }]
  methods := #[k7m0, k7m1]
  instanceTypes := #[(.object "java/lang/String"), .int, .int, (.object "com/example/affirm_rows/affirmrows/messages/Outcome")]
  staticTypes := #[(.object "com/example/affirm_rows/affirmrows/rules/Comparison"), (.object "com/example/affirm_rows/affirmrows/rules/Comparison"), (.object "com/example/affirm_rows/affirmrows/rules/Comparison"), (.object "com/example/affirm_rows/affirmrows/rules/Comparison"), (.object "com/example/affirm_rows/affirmrows/rules/Comparison"), (.object "com/example/affirm_rows/affirmrows/rules/Comparison"), (.array (.object "com/example/affirm_rows/affirmrows/rules/Comparison"))]
  resolved := Array.replicate 155 none
  statics := some 0 }

def pool8 : Array CpInfo := pool [(1, u "java/lang/Cloneable"), (0, .class_ 1), (0, u "java/lang/Object"), (0, .class_ 3)] 3

/-- java/lang/Cloneable -/
def k8 : Class := { plain "java/lang/Cloneable" (some 0) with
  accessFlags := 1537
  interfaces := #[]
  cf := some (fileOf pool8 2 #[] #[] 1537 4 #[] #[])
  fields := #[]
  methods := #[]
  instanceTypes := #[]
  staticTypes := #[]
  resolved := Array.replicate 8 none
  statics := none }

/-- the primitive byte -/
def k9 : Class := { plain "byte" none with kind := .primitive 'B', accessFlags := 0x411 }
/-- [B -/
def k10 : Class := { plain "[B" (some 0) with kind := .array 9 .byte, interfaces := #[8, 4], accessFlags := 1041 }

/-- the primitive int -/
def k11 : Class := { plain "int" none with kind := .primitive 'I', accessFlags := 0x411 }
/-- [I -/
def k12 : Class := { plain "[I" (some 0) with kind := .array 11 .int, interfaces := #[8, 4], accessFlags := 1041 }

/-- [Lcom/example/affirm_rows/affirmrows/rules/Comparison; -/
def k13 : Class := { plain "[Lcom/example/affirm_rows/affirmrows/rules/Comparison;" (some 0) with kind := .array 7 (.object "com/example/affirm_rows/affirmrows/rules/Comparison"), interfaces := #[8, 4], accessFlags := 1041 }

def heap : Heap := #[{ cls := 7, slots := #[.ref 1, .ref 2, .ref 3, .ref 4, .ref 5, .ref 6, .null], vm := .statics 7 },
  { cls := 7, slots := #[.null, .int 0, .int 0, .null], vm := .none },
  { cls := 7, slots := #[.null, .int 1, .int 0, .null], vm := .none },
  { cls := 7, slots := #[.null, .int 2, .int 0, .null], vm := .none },
  { cls := 7, slots := #[.null, .int 3, .int 0, .null], vm := .none },
  { cls := 7, slots := #[.null, .int 4, .int 0, .null], vm := .none },
  { cls := 7, slots := #[.null, .int 5, .int 0, .null], vm := .none }]
def classes : Array Class := #[k0, k1, k2, k3, k4, k5, k6, k7, k8, k9, k10, k11, k12, k13]
def interned : List (Array UInt16 × Addr) := []
def slotsUsed : Nat := 31
def theMethod : MethodId := ⟨1, 1⟩
def args0 : Array Value := #[.int 5, .int 3, .int 7]
def aboutOver (below : List Frame) : State where
  vm := { classes := classes, interned := interned.toArray }
  heap := heap
  slotsUsed := slotsUsed
  threads := #[{ frames := .invoking theMethod args0 :: below }]
def below0 : List Frame := [.native { method := ⟨0, 0⟩, args := #[] }]
def about1 : State := aboutOver below0
def p0 : Program := .bare "" "" ""
def e0 : Env := launch0.env 0 0 0
theorem w_frames : about1.frames = Frame.invoking theMethod args0 :: below0 := rfl
set_option maxRecDepth 65536 in
theorem w_args : argsFit about1.vm theMethod args0 = true := by decide +kernel
set_option maxRecDepth 65536 in
theorem w_heap : heapFits about1 = true := by decide +kernel
set_option maxRecDepth 65536 in
theorem w_runnable : about1.curStatus? = some .runnable := by decide +kernel
set_option maxRecDepth 65536 in
theorem w_alone : about1.alone = true := by decide +kernel
set_option maxRecDepth 65536 in
theorem w_named : about1.methodNamed? x = some theMethod := by decide +kernel
set_option maxRecDepth 65536 in
theorem w_hears : about1.hears theMethod below0 = true := by decide +kernel
set_option maxRecDepth 65536 in
theorem w_ripe : about1.ripe theMethod args0 below0 = true := by decide +kernel
theorem w_running : about1.status = .running := rfl
set_option maxRecDepth 65536 in
theorem w_room : about1.hasRoom e0.platform room_1 = true :=
  launch0.hasRoom_least _ room_1 (by decide +kernel) (by decide +kernel) (by decide +kernel) (by decide +kernel) (by decide +kernel) (by decide +kernel)
theorem allAtoms_all (ts : List Jvm.Cond) (a : Array Jvm.Value) (st : Jvm.State) : (allAtoms ts).before a st = ts.all (fun c => c.before a st) := by
  induction ts with
  | nil => rfl
  | cons c t ih =>
    show (Jvm.Cond.and c (allAtoms t)).before a st = _
    rw [Jvm.Cond.before_and, ih, List.all_cons]
def words1 : List Jvm.Cond := Jvm.Cond.code x code maxLocals ret :: tables_1
/-- a 'code' word, met by the world's own term for the bytes: nothing is compared byte by byte -/
theorem code_word {y : MethodName} {bytes : ByteArray} {mx : Nat} {rt : Option FieldType} {a : Array Value} {s : State} {m : MethodId} {meth : Method} {c : Code} (h1 : s.methodNamed? y = some m) (h2 : s.vm.method? m = some meth) (h3 : meth.code = some c) (h4 : c.code = bytes)
    (h5 : (c.maxLocals == mx && c.exceptionTable.isEmpty && decide (c.maxStack ≤ mostOperands) && decide (meth.sig.returnType = rt) && !meth.locks && decide (parseMethodDescriptor y.desc = some meth.sig)) = true) : (Jvm.Cond.code y bytes mx rt).before a s = true := by
  simp only [Bool.and_eq_true, beq_iff_eq, Bool.not_eq_true', decide_eq_true_eq] at h5
  obtain ⟨⟨⟨⟨⟨g1, g2⟩, g3⟩, g4⟩, g5⟩, g6⟩ := h5
  simp [Cond.before, Cond.holds, Cond.value, h1, h2, h3, h4, g1, g2, g3, g4, g5, g6]
def isCode : Jvm.Cond → Bool
  | .code _ _ _ _ => true
  | _ => false
theorem all_split {L : List Jvm.Cond} {P : Jvm.Cond → Bool} (h1 : L.all (fun c => isCode c || P c) = true) (h2 : ∀ c ∈ L.filter isCode, P c = true) : L.all P = true := by
  refine List.all_eq_true.mpr fun c hc => ?_
  have h := List.all_eq_true.mp h1 c hc
  rcases Bool.eq_false_or_eq_true (isCode c) with hi | hi
  · exact h2 c (List.mem_filter.mpr ⟨hc, hi⟩)
  · simpa [hi] using h
set_option maxRecDepth 65536 in
theorem w_c0 : (Jvm.Cond.code x code maxLocals ret).before args0 about1 = true := code_word (m := ⟨1, 1⟩) (meth := k1m1) (c := k1c1) (by decide +kernel) rfl rfl rfl (by decide +kernel)
set_option maxRecDepth 65536 in
theorem w_c1 : (Jvm.Cond.code ({ cls := "com/example/affirm_rows/affirmrows/rules/Comparison", name := "needsOrder", desc := "()Z" } : Jvm.MethodName) prog_45_method_4_code (1 : Nat) (Option.some Jvm.ClassFile.FieldType.boolean)).before args0 about1 = true := code_word (m := ⟨7, 0⟩) (meth := k7m0) (c := k7c0) (by decide +kernel) rfl rfl rfl (by decide +kernel)
set_option maxRecDepth 65536 in
theorem w_c2 : (Jvm.Cond.code ({ cls := "com/example/affirm_rows/affirmrows/rules/Comparison", name := "holds", desc := "(I)Z" } : Jvm.MethodName) prog_45_method_6_code (2 : Nat) (Option.some Jvm.ClassFile.FieldType.boolean)).before args0 about1 = true := code_word (m := ⟨7, 1⟩) (meth := k7m1) (c := k7c1) (by decide +kernel) rfl rfl rfl (by decide +kernel)
set_option maxRecDepth 65536 in
theorem w_c3 : (Jvm.Cond.code ({ cls := "java/lang/Enum", name := "ordinal", desc := "()I" } : Jvm.MethodName) jdk_37_method_2_code (1 : Nat) (Option.some Jvm.ClassFile.FieldType.int)).before args0 about1 = true := code_word (m := ⟨5, 0⟩) (meth := k5m0) (c := k5c0) (by decide +kernel) rfl rfl rfl (by decide +kernel)
def codes1 : List Jvm.Cond := [Jvm.Cond.code x code maxLocals ret, Jvm.Cond.code ({ cls := "com/example/affirm_rows/affirmrows/rules/Comparison", name := "needsOrder", desc := "()Z" } : Jvm.MethodName) prog_45_method_4_code (1 : Nat) (Option.some Jvm.ClassFile.FieldType.boolean), Jvm.Cond.code ({ cls := "com/example/affirm_rows/affirmrows/rules/Comparison", name := "holds", desc := "(I)Z" } : Jvm.MethodName) prog_45_method_6_code (2 : Nat) (Option.some Jvm.ClassFile.FieldType.boolean), Jvm.Cond.code ({ cls := "java/lang/Enum", name := "ordinal", desc := "()I" } : Jvm.MethodName) jdk_37_method_2_code (1 : Nat) (Option.some Jvm.ClassFile.FieldType.int)]
set_option maxRecDepth 65536 in
theorem codes_eq : words1.filter isCode = codes1 := rfl
theorem w_codes : ∀ c ∈ words1.filter isCode, c.before args0 about1 = true := by
  rw [codes_eq]
  intro c hc
  simp only [codes1, List.mem_cons, List.not_mem_nil, or_false] at hc
  rcases hc with rfl | rfl | rfl | rfl
  · exact w_c0
  · exact w_c1
  · exact w_c2
  · exact w_c3
set_option maxRecDepth 65536 in
theorem w_t1 : (words1.take 24).all (fun c => isCode c || c.before args0 about1) = true := by decide +kernel
set_option maxRecDepth 65536 in
theorem w_t2 : (words1.drop 24).all (fun c => isCode c || c.before args0 about1) = true := by decide +kernel
theorem w_tables : (allAtoms (Jvm.Cond.code x code maxLocals ret :: tables_1)).before args0 about1 = true := by
  rw [allAtoms_all]
  show words1.all (fun c => c.before args0 about1) = true
  refine all_split ?_ w_codes
  rw [← List.take_append_drop 24 words1, List.all_append, w_t1, w_t2]
  rfl
set_option maxRecDepth 65536 in
theorem w_case : (Jvm.Cond.and given_1 narrow_1).before args0 about1 = true := by decide +kernel
theorem w_applies : (headSpec (Jvm.Cond.code x code maxLocals ret :: tables_1) room_1).applies x e0.platform about1 = true :=
  (Spec.applies_iff w_frames).mpr ⟨w_running, w_runnable, w_alone, w_named, w_hears, w_ripe, w_room, w_tables⟩
theorem atStart : AtStart classFile x code maxLocals ret World_1 tables_1 room_1 Calls_1 rest_1 Pre_1 launch0 p0 e0 about1 theMethod args0 below0 :=
  ⟨lists_1, trivial, launch0.admits_env _ _ _, launch0.least_env, fairChoices_fair.cas, fairChoices_fair.clock, w_frames, w_args, w_heap, w_applies, trivial, trivial, w_case⟩
end start1
theorem witness_1 : WitnessClaimed_1 := ⟨start1.p0, start1.e0, start1.about1, start1.theMethod, start1.args0, start1.below0, start1.atStart⟩
end Jvm.Pilot.@@N@@
