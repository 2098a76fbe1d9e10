import JvmDerived
import JvmDerived.Pilot.@@N@@Statement
import JvmDerived.Pilot.@@N@@Code
set_option linter.unusedVariables false
set_option linter.unusedSimpArgs false
namespace Jvm.RoadKit
open Sem ClassFile Op Lib Jvm.Stand Jvm.Free Jvm.LawKit
section Own
variable {p : Program} {l : Launch} {e : Env} {R : Room} {s : State} {m : MethodId} {args : Array Value} {below : List Frame} {meth : Method} {c : Code} {T : State} {locs : List Loc} {cells slots : Nat}
/-- the run from U comes to its end, and the end meets Q -/
def own_Go (p : Program) (e : Env) (below : List Frame) (args : Array Value) (s : State) (Q : Array Value → State → Outcome → State → Prop) (U : State) : Prop := ∃ s₂ o, Steps p.tables e below U s₂ ∧ s₂.status = .running ∧ Ended s₂ below o ∧ Q args s o s₂
theorem own_st {Q : Array Value → State → Outcome → State → Prop} {U V : State} (k : ∀ t, Steps p.tables e below V t → Steps p.tables e below U t) (h : own_Go p e below args s Q V) : own_Go p e below args s Q U := by
  obtain ⟨s2, o, h1, h2⟩ := h
  exact ⟨s2, o, k _ h1, h2⟩
theorem own_ret {Q : Option Value → Heap → List Loc → Prop} {rc rs : Nat} (X : Stand p l e R s m args below meth c T locs cells slots) (hx : p.tables.exec = Jvm.exec) {pc : Nat} {Ls : Array Slot} {w : Value} {t : FieldType} {i : Instr} {rest : List Value} (hlk : meth.locks = false) (hret : meth.sig.returnType = some t) (hn : narrow t w = w)
    (hi : (i = .ireturn ∧ (t = .int ∨ t = .boolean ∨ t = .byte ∨ t = .char ∨ t = .short) ∧ ∃ z, w = .int z) ∨ (i = .lreturn ∧ t = .long ∧ ∃ z, w = .long z) ∨ (i = .dreturn ∧ t = .double ∧ ∃ z, w = .double z) ∨ (i = .freturn ∧ t = .float ∧ ∃ z, w = .float z) ∨ (i = .areturn ∧ t.isReference = true ∧ w.isRef = true))
    (hd : decode c.code pc = .ok (i, 1)) (hc : cells ≤ rc) (hs : slots ≤ rs) (hQ : Q (some w) T.heap locs) :
    own_Go p e below args s (fun _ U o U' => ∃ v L, o = .returned v ∧ Q v U'.heap L ∧ FrameEnd U o U' L rc rs) (T.setTop (mkF m pc Ls (w :: rest))) := by
  obtain ⟨fs, hr, hrun, hended, hW, hsame⟩ := X.leave (v := some w) (fun h => by rw [hret] at h; cases h) hlk
  exact ⟨_, _, retOut X hx hret hn hi hd hr, hrun, hended, _, _, rfl, hQ, ⟨_, rfl⟩, hW, hsame.mono hc hs⟩
theorem own_ret0 {Q : Option Value → Heap → List Loc → Prop} {rc rs : Nat} (X : Stand p l e R s m args below meth c T locs cells slots) (hx : p.tables.exec = Jvm.exec) {pc : Nat} {Ls : Array Slot} (hlk : meth.locks = false) (hret : meth.sig.returnType = none)
    (hd : decode c.code pc = .ok (.return_, 1)) (hc : cells ≤ rc) (hs : slots ≤ rs) (hQ : Q none T.heap locs) :
    own_Go p e below args s (fun _ U o U' => ∃ v L, o = .returned v ∧ Q v U'.heap L ∧ FrameEnd U o U' L rc rs) (T.setTop (mkF m pc Ls [])) := by
  obtain ⟨fs, hr, hrun, hended, hW, hsame⟩ := X.leave (v := none) (fun _ => rfl) hlk
  exact ⟨_, _, X.returnOut hx hret hd hr, hrun, hended, _, _, rfl, hQ, ⟨_, rfl⟩, hW, hsame.mono hc hs⟩
/-- what the sheet says of a static that holds an object of its class -/
theorem own_sta {Z : State} {args : Array Value} {C n d K : String} (hx : (Jvm.Cond.exactly (.static C n d) K).value args Z none Z [] = some true) (wi : (Jvm.Cond.initialized C).before args Z = true) (wl : (Jvm.Cond.laysStatic C n d).before args Z = true) :
    ∃ a, Sta Z Z.heap C n d (.ref a) ∧ Exa Z Z.heap a K ∧ (Jvm.Term.static C n d).eval args Z none [] Z = some (.ref a) := by
  obtain ⟨a, ev⟩ := exa_v hx
  exact ⟨a, Sta.start ev (Or.inr ⟨wi, wl⟩), Exa.start ev hx, ev⟩
theorem own_eqi {Z : State} {args : Array Value} {t : Jvm.Term} {k : Int32} (h : (Jvm.Cond.eq t (.int k)).value args Z none Z [] = some true) : t.eval args Z none [] Z = some (.int k) := by
  cases hv : t.eval args Z none [] Z with
  | none => simp [Cond.value, Term.eval, hv] at h
  | some v => cases v <;> simp [Cond.value, Term.eval, hv] at h ⊢ <;> exact h
theorem own_fld {Z : State} {args : Array Value} {t : Jvm.Term} {C n d : String} {a : Addr} {k : Int32} (ev : t.eval args Z none [] Z = some (.ref a)) (h : (Jvm.Cond.eq (.field t C n d) (.int k)).value args Z none Z [] = some true) : Fld Z Z.heap a C n d (.int k) :=
  Fld.start ((fld_at ev).symm.trans (own_eqi h))
end Own
end Jvm.RoadKit
namespace Jvm.Pilot.@@N@@
open Jvm Jvm.ClassFile Sem Op Lib Jvm.Free Jvm.Stand Jvm.LawKit Jvm.RoadKit Bundle Jvm.Pilot.@@N@@.Jvm.D
def own_cs : List (Nat × String) := [(0, "FETCH"), (1, "LIST_OFFSETS"), (2, "METADATA"), (3, "OFFSET_COMMIT"), (4, "OFFSET_FETCH"), (5, "FIND_COORDINATOR"), (6, "JOIN_GROUP"), (7, "HEARTBEAT"), (8, "LEAVE_GROUP"), (9, "SYNC_GROUP"), (10, "DESCRIBE_GROUPS"), (11, "LIST_GROUPS"), (12, "API_VERSIONS")]
def own_fv0 (i : Nat) : Int32 := ([0, 0, 0, 0, 0, 0, 0, 0, 0, 0, 0, 0, 0] : List Int32).getD i 0
def own_fv1 (i : Nat) : Int32 := ([4, 2, 5, 3, 3, 2, 3, 2, 2, 2, 1, 1, 2] : List Int32).getD i 0
def own_En (Z : State) (h : Heap) (A : Nat → Addr) : Prop := ∀ q ∈ own_cs, Sta Z h "com/example/bhaga/bhaga/wire/Api" q.2 "Lcom/example/bhaga/bhaga/wire/Api;" (.ref (A q.1)) ∧ Exa Z h (A q.1) "com/example/bhaga/bhaga/wire/Api" ∧ Fld Z h (A q.1) "com/example/bhaga/bhaga/wire/Api" "minVersion" "S" (.int (own_fv0 q.1)) ∧ Fld Z h (A q.1) "com/example/bhaga/bhaga/wire/Api" "maxVersion" "S" (.int (own_fv1 q.1))
theorem own_S {Z : State} {h : Heap} {A : Nat → Addr} (En : own_En Z h A) (k : Nat) {i : Nat} {n : String} (q : own_cs[k]? = some (i, n)) : Sta Z h "com/example/bhaga/bhaga/wire/Api" n "Lcom/example/bhaga/bhaga/wire/Api;" (.ref (A i)) := (En _ (List.mem_of_getElem? q)).1
theorem own_E {Z : State} {h : Heap} {A : Nat → Addr} (En : own_En Z h A) (k : Nat) {i : Nat} {n : String} (q : own_cs[k]? = some (i, n)) : Exa Z h (A i) "com/example/bhaga/bhaga/wire/Api" := (En _ (List.mem_of_getElem? q)).2.1
theorem own_F0 {Z : State} {h : Heap} {A : Nat → Addr} (En : own_En Z h A) (k : Nat) {i : Nat} {n : String} (q : own_cs[k]? = some (i, n)) : Fld Z h (A i) "com/example/bhaga/bhaga/wire/Api" "minVersion" "S" (.int (own_fv0 i)) := (En _ (List.mem_of_getElem? q)).2.2.1
theorem own_F1 {Z : State} {h : Heap} {A : Nat → Addr} (En : own_En Z h A) (k : Nat) {i : Nat} {n : String} (q : own_cs[k]? = some (i, n)) : Fld Z h (A i) "com/example/bhaga/bhaga/wire/Api" "maxVersion" "S" (.int (own_fv1 i)) := (En _ (List.mem_of_getElem? q)).2.2.2
theorem own_En.ext {Z : State} {h h' : Heap} {A : Nat → Addr} (En : own_En Z h A) (E : Ext h h') : own_En Z h' A := fun q hq => by
  have r := En q hq
  exact ⟨r.1.ext E, r.2.1.ext E, r.2.2.1.ext E, r.2.2.2.ext E⟩
theorem own_En.wr {Z : State} {h h' : Heap} {A : Nat → Addr} {a : Addr} {sl : Nat} {v : Value} (En : own_En Z h A) (W : Wr h h' a sl v) (hne : ∀ q ∈ own_cs, A q.1 ≠ a) : own_En Z h' A := fun q hq => by
  have r := En q hq
  exact ⟨r.1.wr W, r.2.1.wr W, r.2.2.1.other W (Or.inl (hne q hq)), r.2.2.2.other W (Or.inl (hne q hq))⟩
def Q_own_ma (Z : State) (o1 : Addr) (q1 f1 : Int32)  (h0 : Heap) (n0 : Nat) (v : Option Value) (h : Heap) (L : List Loc) : Prop := v = some (.int (0 : Int32)) ∧ Fr n0 L ∧ h = h0
theorem own_d3_0 : decode prog_40_method_8_code 0 = .ok (.iload_n 1, 1) := by decide +kernel
theorem own_d3_1 : decode prog_40_method_8_code 1 = .ok (.aload_n 0, 1) := by decide +kernel
theorem own_d3_2 : decode prog_40_method_8_code 2 = .ok (.getfield 70, 3) := by decide +kernel
theorem own_d3_5 : decode prog_40_method_8_code 5 = .ok (.if_icmp .lt 15, 3) := by decide +kernel
theorem own_d3_20 : decode prog_40_method_8_code 20 = .ok (.iconst 0, 1) := by decide +kernel
theorem own_d3_21 : decode prog_40_method_8_code 21 = .ok (.ireturn, 1) := by decide +kernel
theorem own_pn_com_example_bhaga_bhaga_wire_Api : plainName "com/example/bhaga/bhaga/wire/Api" = true := by first | (simp [plainName, overriddenIn]; done) | decide +kernel
set_option maxRecDepth 65536 in
set_option maxHeartbeats 40000000 in
theorem own_ma (l : Launch) (Z : State) (a0 : Array Value) (hw : ∀ d ∈ tables_1, d.before a0 Z = true) (ws : List Jvm.Cond) (o1 : Addr) (q1 f1 : Int32)  (h0 : Heap) (n0 : Nat) (Z0 : n0 ≤ h0.size) (F0 : Fld Z h0 o1 "com/example/bhaga/bhaga/wire/Api" "minVersion" "S" (.int (0 : Int32))) (F1 : Fld Z h0 o1 "com/example/bhaga/bhaga/wire/Api" "maxVersion" "S" (.int f1)) (ha : q1 < (0 : Int32)) :
    MetFree l (⟨"com/example/bhaga/bhaga/wire/Api", "serves", "(S)Z"⟩ : MethodName) (head1 (Jvm.Cond.code (⟨"com/example/bhaga/bhaga/wire/Api", "serves", "(S)Z"⟩ : MethodName) prog_40_method_8_code 2 (some .boolean) :: ws) ({ frames := 0, cells := 0, slots := 0, locals := 0 } : Room)) (fun a U => a = #[(.ref o1), (.int q1)] ∧ Z.Warmed39 U.vm ∧ U.heap = h0) (fun _ _ _ _ _ => True) (fun _ U o U' => ∃ v L, o = .returned v ∧ Q_own_ma Z o1 q1 f1 h0 n0 v U'.heap L ∧ FrameEnd U o U' L ({ frames := 0, cells := 0, slots := 0, locals := 0 } : Room).cells ({ frames := 0, cells := 0, slots := 0, locals := 0 } : Room).slots) := by
  refine MetFree.of_bodySF (plainFor_of_name own_pn_com_example_bhaga_bhaga_wire_Api) hisR ?_
  intro p e s m args below meth c s₁ Bd hml0 hP hK
  obtain ⟨rfl, hZ, hh⟩ := hP
  have hx := Bd.exec
  have hby := Bd.bytes
  have hml : c.maxLocals = 2 := hml0
  have hown : s.vm.findClass "com/example/bhaga/bhaga/wire/Api" = some m.cls := findClass_of_methodNamed Bd.named
  have hnm := (name_of_methodNamed Bd.named Bd.method).1
  have hlk : meth.locks = false := BodyLoose.notSynchronized Bd
  have X0 : Stand p l e ({ frames := 0, cells := 0, slots := 0, locals := 0 } : Room) s m #[(.ref o1), (.int q1)] below meth c s₁ [] 0 0 := Stand.of_body Bd
  have e0 : s₁.heap = h0 := by rw [← hh, Bd.state]; rfl
  have N0 := Fr.nil n0
  show own_Go p e below #[(.ref o1), (.int q1)] s (fun _ U o U' => ∃ v L, o = .returned v ∧ Q_own_ma Z o1 q1 f1 h0 n0 v U'.heap L ∧ FrameEnd U o U' L ({ frames := 0, cells := 0, slots := 0, locals := 0 } : Room).cells ({ frames := 0, cells := 0, slots := 0, locals := 0 } : Room).slots) (s₁.setTop (entryFrame m #[(.ref o1), (.int q1)] 2))
  refine own_st (V := s₁.setTop (mkF m 0 #[.val (.ref o1), .val (.int q1)] [])) (fun t k => castTop (by first | (simp [entryFrame, mkF, argsToLocals, Value.category]; done) | rfl) k) ?_
  refine own_st (V := s₁.setTop (mkF m 1 #[.val (.ref o1), .val (.int q1)] [(.int q1)])) (fun t k => XS.iloadN X0.here hx rfl (hb hby own_d3_0) rfl k) ?_
  refine own_st (V := s₁.setTop (mkF m 2 #[.val (.ref o1), .val (.int q1)] [(.ref o1), (.int q1)])) (fun t k => XS.aloadN X0.here hx rfl (hb hby own_d3_1) rfl rfl k) ?_
  obtain ⟨T1, X1, e1, st1⟩ := getF X0 hx hZ hown (host := "") (Or.inl (hw _ (List.mem_of_getElem? (i := 16) rfl))) Via.refl e0 F0 (g := (mkF m 2 #[.val (.ref o1), .val (.int q1)] [(.ref o1), (.int q1)])) rfl rfl (hb hby own_d3_2)
  refine own_st (V := T1.setTop (mkF m 5 #[.val (.ref o1), .val (.int q1)] [(.int (0 : Int32)), (.int q1)])) (fun t k => st1 _ k) ?_
  refine own_st (V := T1.setTop (mkF m 20 #[.val (.ref o1), .val (.int q1)] [])) (fun t k => XS.icmpYes X1.here hx rfl (pc0 := 5) (pc' := 20) rfl (hb hby own_d3_5) rfl (tlt ha).1 (by decide) (by decide) k) ?_
  refine own_st (V := T1.setTop (mkF m 21 #[.val (.ref o1), .val (.int q1)] [(.int (0 : Int32))])) (fun t k => XS.iconst X1.here hx rfl (hb hby own_d3_20) k) ?_
  exact own_ret X1 hx hlk Bd.returns (by decide +kernel) (Or.inl ⟨rfl, by simp, _, rfl⟩) (hb hby own_d3_21) (by decide) (by decide) (by show Q_own_ma Z o1 q1 f1 h0 n0 _ T1.heap _; rw [e1]; exact ⟨rfl, N0, rfl⟩)
def Q_own_mb (Z : State) (o1 : Addr) (q1 f1 : Int32)  (h0 : Heap) (n0 : Nat) (v : Option Value) (h : Heap) (L : List Loc) : Prop := v = some (.int (0 : Int32)) ∧ Fr n0 L ∧ h = h0
theorem own_d3_8 : decode prog_40_method_8_code 8 = .ok (.iload_n 1, 1) := by decide +kernel
theorem own_d3_9 : decode prog_40_method_8_code 9 = .ok (.aload_n 0, 1) := by decide +kernel
theorem own_d3_10 : decode prog_40_method_8_code 10 = .ok (.getfield 73, 3) := by decide +kernel
theorem own_d3_13 : decode prog_40_method_8_code 13 = .ok (.if_icmp .gt 7, 3) := by decide +kernel
set_option maxRecDepth 65536 in
set_option maxHeartbeats 40000000 in
theorem own_mb (l : Launch) (Z : State) (a0 : Array Value) (hw : ∀ d ∈ tables_1, d.before a0 Z = true) (ws : List Jvm.Cond) (o1 : Addr) (q1 f1 : Int32)  (h0 : Heap) (n0 : Nat) (Z0 : n0 ≤ h0.size) (F0 : Fld Z h0 o1 "com/example/bhaga/bhaga/wire/Api" "minVersion" "S" (.int (0 : Int32))) (F1 : Fld Z h0 o1 "com/example/bhaga/bhaga/wire/Api" "maxVersion" "S" (.int f1)) (ha : ¬ (q1 < (0 : Int32))) (hc : f1 < q1) :
    MetFree l (⟨"com/example/bhaga/bhaga/wire/Api", "serves", "(S)Z"⟩ : MethodName) (head1 (Jvm.Cond.code (⟨"com/example/bhaga/bhaga/wire/Api", "serves", "(S)Z"⟩ : MethodName) prog_40_method_8_code 2 (some .boolean) :: ws) ({ frames := 0, cells := 0, slots := 0, locals := 0 } : Room)) (fun a U => a = #[(.ref o1), (.int q1)] ∧ Z.Warmed39 U.vm ∧ U.heap = h0) (fun _ _ _ _ _ => True) (fun _ U o U' => ∃ v L, o = .returned v ∧ Q_own_mb Z o1 q1 f1 h0 n0 v U'.heap L ∧ FrameEnd U o U' L ({ frames := 0, cells := 0, slots := 0, locals := 0 } : Room).cells ({ frames := 0, cells := 0, slots := 0, locals := 0 } : Room).slots) := by
  refine MetFree.of_bodySF (plainFor_of_name own_pn_com_example_bhaga_bhaga_wire_Api) hisR ?_
  intro p e s m args below meth c s₁ Bd hml0 hP hK
  obtain ⟨rfl, hZ, hh⟩ := hP
  have hx := Bd.exec
  have hby := Bd.bytes
  have hml : c.maxLocals = 2 := hml0
  have hown : s.vm.findClass "com/example/bhaga/bhaga/wire/Api" = some m.cls := findClass_of_methodNamed Bd.named
  have hnm := (name_of_methodNamed Bd.named Bd.method).1
  have hlk : meth.locks = false := BodyLoose.notSynchronized Bd
  have X0 : Stand p l e ({ frames := 0, cells := 0, slots := 0, locals := 0 } : Room) s m #[(.ref o1), (.int q1)] below meth c s₁ [] 0 0 := Stand.of_body Bd
  have e0 : s₁.heap = h0 := by rw [← hh, Bd.state]; rfl
  have N0 := Fr.nil n0
  show own_Go p e below #[(.ref o1), (.int q1)] s (fun _ U o U' => ∃ v L, o = .returned v ∧ Q_own_mb Z o1 q1 f1 h0 n0 v U'.heap L ∧ FrameEnd U o U' L ({ frames := 0, cells := 0, slots := 0, locals := 0 } : Room).cells ({ frames := 0, cells := 0, slots := 0, locals := 0 } : Room).slots) (s₁.setTop (entryFrame m #[(.ref o1), (.int q1)] 2))
  refine own_st (V := s₁.setTop (mkF m 0 #[.val (.ref o1), .val (.int q1)] [])) (fun t k => castTop (by first | (simp [entryFrame, mkF, argsToLocals, Value.category]; done) | rfl) k) ?_
  refine own_st (V := s₁.setTop (mkF m 1 #[.val (.ref o1), .val (.int q1)] [(.int q1)])) (fun t k => XS.iloadN X0.here hx rfl (hb hby own_d3_0) rfl k) ?_
  refine own_st (V := s₁.setTop (mkF m 2 #[.val (.ref o1), .val (.int q1)] [(.ref o1), (.int q1)])) (fun t k => XS.aloadN X0.here hx rfl (hb hby own_d3_1) rfl rfl k) ?_
  obtain ⟨T2, X2, e2, st2⟩ := getF X0 hx hZ hown (host := "") (Or.inl (hw _ (List.mem_of_getElem? (i := 16) rfl))) Via.refl e0 F0 (g := (mkF m 2 #[.val (.ref o1), .val (.int q1)] [(.ref o1), (.int q1)])) rfl rfl (hb hby own_d3_2)
  refine own_st (V := T2.setTop (mkF m 5 #[.val (.ref o1), .val (.int q1)] [(.int (0 : Int32)), (.int q1)])) (fun t k => st2 _ k) ?_
  refine own_st (V := T2.setTop (mkF m 8 #[.val (.ref o1), .val (.int q1)] [])) (fun t k => XS.icmpNo X2.here hx rfl (hb hby own_d3_5) rfl (flt ha).1 k) ?_
  refine own_st (V := T2.setTop (mkF m 9 #[.val (.ref o1), .val (.int q1)] [(.int q1)])) (fun t k => XS.iloadN X2.here hx rfl (hb hby own_d3_8) rfl k) ?_
  refine own_st (V := T2.setTop (mkF m 10 #[.val (.ref o1), .val (.int q1)] [(.ref o1), (.int q1)])) (fun t k => XS.aloadN X2.here hx rfl (hb hby own_d3_9) rfl rfl k) ?_
  obtain ⟨T3, X3, e3, st3⟩ := getF X2 hx hZ hown (host := "") (Or.inl (hw _ (List.mem_of_getElem? (i := 18) rfl))) Via.refl e2 F1 (g := (mkF m 10 #[.val (.ref o1), .val (.int q1)] [(.ref o1), (.int q1)])) rfl rfl (hb hby own_d3_10)
  refine own_st (V := T3.setTop (mkF m 13 #[.val (.ref o1), .val (.int q1)] [(.int f1), (.int q1)])) (fun t k => st3 _ k) ?_
  refine own_st (V := T3.setTop (mkF m 20 #[.val (.ref o1), .val (.int q1)] [])) (fun t k => XS.icmpYes X3.here hx rfl (pc0 := 13) (pc' := 20) rfl (hb hby own_d3_13) rfl (tlt hc).2.2.1 (by decide) (by decide) k) ?_
  refine own_st (V := T3.setTop (mkF m 21 #[.val (.ref o1), .val (.int q1)] [(.int (0 : Int32))])) (fun t k => XS.iconst X3.here hx rfl (hb hby own_d3_20) k) ?_
  exact own_ret X3 hx hlk Bd.returns (by decide +kernel) (Or.inl ⟨rfl, by simp, _, rfl⟩) (hb hby own_d3_21) (by decide) (by decide) (by show Q_own_mb Z o1 q1 f1 h0 n0 _ T3.heap _; rw [e3]; exact ⟨rfl, N0, rfl⟩)
def Q_own_mc (Z : State) (o1 : Addr) (q1 f1 : Int32)  (h0 : Heap) (n0 : Nat) (v : Option Value) (h : Heap) (L : List Loc) : Prop := v = some (.int (1 : Int32)) ∧ Fr n0 L ∧ h = h0
theorem own_d3_16 : decode prog_40_method_8_code 16 = .ok (.iconst 1, 1) := by decide +kernel
theorem own_d3_17 : decode prog_40_method_8_code 17 = .ok (.goto 4, 3) := by decide +kernel
set_option maxRecDepth 65536 in
set_option maxHeartbeats 40000000 in
theorem own_mc (l : Launch) (Z : State) (a0 : Array Value) (hw : ∀ d ∈ tables_1, d.before a0 Z = true) (ws : List Jvm.Cond) (o1 : Addr) (q1 f1 : Int32)  (h0 : Heap) (n0 : Nat) (Z0 : n0 ≤ h0.size) (F0 : Fld Z h0 o1 "com/example/bhaga/bhaga/wire/Api" "minVersion" "S" (.int (0 : Int32))) (F1 : Fld Z h0 o1 "com/example/bhaga/bhaga/wire/Api" "maxVersion" "S" (.int f1)) (ha : ¬ (q1 < (0 : Int32))) (hc : ¬ (f1 < q1)) :
    MetFree l (⟨"com/example/bhaga/bhaga/wire/Api", "serves", "(S)Z"⟩ : MethodName) (head1 (Jvm.Cond.code (⟨"com/example/bhaga/bhaga/wire/Api", "serves", "(S)Z"⟩ : MethodName) prog_40_method_8_code 2 (some .boolean) :: ws) ({ frames := 0, cells := 0, slots := 0, locals := 0 } : Room)) (fun a U => a = #[(.ref o1), (.int q1)] ∧ Z.Warmed39 U.vm ∧ U.heap = h0) (fun _ _ _ _ _ => True) (fun _ U o U' => ∃ v L, o = .returned v ∧ Q_own_mc Z o1 q1 f1 h0 n0 v U'.heap L ∧ FrameEnd U o U' L ({ frames := 0, cells := 0, slots := 0, locals := 0 } : Room).cells ({ frames := 0, cells := 0, slots := 0, locals := 0 } : Room).slots) := by
  refine MetFree.of_bodySF (plainFor_of_name own_pn_com_example_bhaga_bhaga_wire_Api) hisR ?_
  intro p e s m args below meth c s₁ Bd hml0 hP hK
  obtain ⟨rfl, hZ, hh⟩ := hP
  have hx := Bd.exec
  have hby := Bd.bytes
  have hml : c.maxLocals = 2 := hml0
  have hown : s.vm.findClass "com/example/bhaga/bhaga/wire/Api" = some m.cls := findClass_of_methodNamed Bd.named
  have hnm := (name_of_methodNamed Bd.named Bd.method).1
  have hlk : meth.locks = false := BodyLoose.notSynchronized Bd
  have X0 : Stand p l e ({ frames := 0, cells := 0, slots := 0, locals := 0 } : Room) s m #[(.ref o1), (.int q1)] below meth c s₁ [] 0 0 := Stand.of_body Bd
  have e0 : s₁.heap = h0 := by rw [← hh, Bd.state]; rfl
  have N0 := Fr.nil n0
  show own_Go p e below #[(.ref o1), (.int q1)] s (fun _ U o U' => ∃ v L, o = .returned v ∧ Q_own_mc Z o1 q1 f1 h0 n0 v U'.heap L ∧ FrameEnd U o U' L ({ frames := 0, cells := 0, slots := 0, locals := 0 } : Room).cells ({ frames := 0, cells := 0, slots := 0, locals := 0 } : Room).slots) (s₁.setTop (entryFrame m #[(.ref o1), (.int q1)] 2))
  refine own_st (V := s₁.setTop (mkF m 0 #[.val (.ref o1), .val (.int q1)] [])) (fun t k => castTop (by first | (simp [entryFrame, mkF, argsToLocals, Value.category]; done) | rfl) k) ?_
  refine own_st (V := s₁.setTop (mkF m 1 #[.val (.ref o1), .val (.int q1)] [(.int q1)])) (fun t k => XS.iloadN X0.here hx rfl (hb hby own_d3_0) rfl k) ?_
  refine own_st (V := s₁.setTop (mkF m 2 #[.val (.ref o1), .val (.int q1)] [(.ref o1), (.int q1)])) (fun t k => XS.aloadN X0.here hx rfl (hb hby own_d3_1) rfl rfl k) ?_
  obtain ⟨T4, X4, e4, st4⟩ := getF X0 hx hZ hown (host := "") (Or.inl (hw _ (List.mem_of_getElem? (i := 16) rfl))) Via.refl e0 F0 (g := (mkF m 2 #[.val (.ref o1), .val (.int q1)] [(.ref o1), (.int q1)])) rfl rfl (hb hby own_d3_2)
  refine own_st (V := T4.setTop (mkF m 5 #[.val (.ref o1), .val (.int q1)] [(.int (0 : Int32)), (.int q1)])) (fun t k => st4 _ k) ?_
  refine own_st (V := T4.setTop (mkF m 8 #[.val (.ref o1), .val (.int q1)] [])) (fun t k => XS.icmpNo X4.here hx rfl (hb hby own_d3_5) rfl (flt ha).1 k) ?_
  refine own_st (V := T4.setTop (mkF m 9 #[.val (.ref o1), .val (.int q1)] [(.int q1)])) (fun t k => XS.iloadN X4.here hx rfl (hb hby own_d3_8) rfl k) ?_
  refine own_st (V := T4.setTop (mkF m 10 #[.val (.ref o1), .val (.int q1)] [(.ref o1), (.int q1)])) (fun t k => XS.aloadN X4.here hx rfl (hb hby own_d3_9) rfl rfl k) ?_
  obtain ⟨T5, X5, e5, st5⟩ := getF X4 hx hZ hown (host := "") (Or.inl (hw _ (List.mem_of_getElem? (i := 18) rfl))) Via.refl e4 F1 (g := (mkF m 10 #[.val (.ref o1), .val (.int q1)] [(.ref o1), (.int q1)])) rfl rfl (hb hby own_d3_10)
  refine own_st (V := T5.setTop (mkF m 13 #[.val (.ref o1), .val (.int q1)] [(.int f1), (.int q1)])) (fun t k => st5 _ k) ?_
  refine own_st (V := T5.setTop (mkF m 16 #[.val (.ref o1), .val (.int q1)] [])) (fun t k => XS.icmpNo X5.here hx rfl (hb hby own_d3_13) rfl (flt hc).2.2.1 k) ?_
  refine own_st (V := T5.setTop (mkF m 17 #[.val (.ref o1), .val (.int q1)] [(.int (1 : Int32))])) (fun t k => XS.iconst X5.here hx rfl (hb hby own_d3_16) k) ?_
  refine own_st (V := T5.setTop (mkF m 21 #[.val (.ref o1), .val (.int q1)] [(.int (1 : Int32))])) (fun t k => XS.goto X5.here hx rfl (pc0 := 17) (pc' := 21) rfl (hb hby own_d3_17) (by decide) (by decide) k) ?_
  exact own_ret X5 hx hlk Bd.returns (by decide +kernel) (Or.inl ⟨rfl, by simp, _, rfl⟩) (hb hby own_d3_21) (by decide) (by decide) (by show Q_own_mc Z o1 q1 f1 h0 n0 _ T5.heap _; rw [e5]; exact ⟨rfl, N0, rfl⟩)
def Q_own_pick0 (Z : State) (A : Nat → Addr) (h0 : Heap) (n0 : Nat) (v : Option Value) (h : Heap) (L : List Loc) : Prop := v = some (.ref (A 0)) ∧ Fr n0 L ∧ h = h0
theorem own_d1_0 : decode method_3_code 0 = .ok (.iload_n 0, 1) := by decide +kernel
theorem own_d1_1 : decode method_3_code 1 = .ok (.ifCond .ne 7, 3) := by decide +kernel
theorem own_d1_4 : decode method_3_code 4 = .ok (.getstatic 24, 3) := by decide +kernel
theorem own_d1_7 : decode method_3_code 7 = .ok (.areturn, 1) := by decide +kernel
theorem own_pn_com_example_bhaga_bhaga_wire_ApiServesPinLaw : plainName "com/example/bhaga/bhaga/wire/ApiServesPinLaw" = true := by first | (simp [plainName, overriddenIn]; done) | decide +kernel
set_option maxRecDepth 65536 in
set_option maxHeartbeats 40000000 in
theorem own_pick0 (l : Launch) (Z : State) (a0 : Array Value) (hw : ∀ d ∈ tables_1, d.before a0 Z = true) (ws : List Jvm.Cond) (A : Nat → Addr) (h0 : Heap) (n0 : Nat) (Z0 : n0 ≤ h0.size) (En : own_En Z h0 A) :
    MetFree l (⟨"com/example/bhaga/bhaga/wire/ApiServesPinLaw", "pick", "(I)Lcom/example/bhaga/bhaga/wire/Api;"⟩ : MethodName) (head1 (Jvm.Cond.code (⟨"com/example/bhaga/bhaga/wire/ApiServesPinLaw", "pick", "(I)Lcom/example/bhaga/bhaga/wire/Api;"⟩ : MethodName) method_3_code 1 (some (.object "com/example/bhaga/bhaga/wire/Api")) :: ws) ({ frames := 0, cells := 0, slots := 0, locals := 0 } : Room)) (fun a U => a = #[(.int (0 : Int32))] ∧ Z.Warmed39 U.vm ∧ U.heap = h0) (fun _ _ _ _ _ => True) (fun _ U o U' => ∃ v L, o = .returned v ∧ Q_own_pick0 Z A h0 n0 v U'.heap L ∧ FrameEnd U o U' L ({ frames := 0, cells := 0, slots := 0, locals := 0 } : Room).cells ({ frames := 0, cells := 0, slots := 0, locals := 0 } : Room).slots) := by
  refine MetFree.of_bodySF (plainFor_of_name own_pn_com_example_bhaga_bhaga_wire_ApiServesPinLaw) hisR ?_
  intro p e s m args below meth c s₁ Bd hml0 hP hK
  obtain ⟨rfl, hZ, hh⟩ := hP
  have hx := Bd.exec
  have hby := Bd.bytes
  have hml : c.maxLocals = 1 := hml0
  have hown : s.vm.findClass "com/example/bhaga/bhaga/wire/ApiServesPinLaw" = some m.cls := findClass_of_methodNamed Bd.named
  have hnm := (name_of_methodNamed Bd.named Bd.method).1
  have hlk : meth.locks = false := BodyLoose.notSynchronized Bd
  have X0 : Stand p l e ({ frames := 0, cells := 0, slots := 0, locals := 0 } : Room) s m #[(.int (0 : Int32))] below meth c s₁ [] 0 0 := Stand.of_body Bd
  have e0 : s₁.heap = h0 := by rw [← hh, Bd.state]; rfl
  have N0 := Fr.nil n0
  show own_Go p e below #[(.int (0 : Int32))] s (fun _ U o U' => ∃ v L, o = .returned v ∧ Q_own_pick0 Z A h0 n0 v U'.heap L ∧ FrameEnd U o U' L ({ frames := 0, cells := 0, slots := 0, locals := 0 } : Room).cells ({ frames := 0, cells := 0, slots := 0, locals := 0 } : Room).slots) (s₁.setTop (entryFrame m #[(.int (0 : Int32))] 1))
  refine own_st (V := s₁.setTop (mkF m 0 #[.val (.int (0 : Int32))] [])) (fun t k => castTop (by first | (simp [entryFrame, mkF, argsToLocals, Value.category]; done) | rfl) k) ?_
  refine own_st (V := s₁.setTop (mkF m 1 #[.val (.int (0 : Int32))] [(.int (0 : Int32))])) (fun t k => XS.iloadN X0.here hx rfl (hb hby own_d1_0) rfl k) ?_
  refine own_st (V := s₁.setTop (mkF m 4 #[.val (.int (0 : Int32))] [])) (fun t k => XS.ifNo X0.here hx rfl (hb hby own_d1_1) rfl ((if0 _ _).trans (teq (by decide : (0 : Int32) = (0 : Int32))).2) k) ?_
  obtain ⟨T6, X6, e6, st6⟩ := getS2 X0 hx hZ hown (host := "") (Or.inl (hw _ (List.mem_of_getElem? (i := 5) rfl))) Via.refl e0 (own_S En 0 (i := 0) (n := "FETCH") rfl) (g := (mkF m 4 #[.val (.int (0 : Int32))] [])) rfl (hb hby own_d1_4)
  refine own_st (V := T6.setTop (mkF m 7 #[.val (.int (0 : Int32))] [(.ref (A 0))])) (fun t k => st6 _ k) ?_
  exact own_ret X6 hx hlk Bd.returns rfl (Or.inr (Or.inr (Or.inr (Or.inr ⟨rfl, rfl, rfl⟩)))) (hb hby own_d1_7) (by decide) (by decide) (by show Q_own_pick0 Z A h0 n0 _ T6.heap _; rw [e6]; exact ⟨rfl, N0, rfl⟩)
def Q_own_em0 (Z : State)  (h0 : Heap) (n0 : Nat) (v : Option Value) (h : Heap) (L : List Loc) : Prop := v = some (.int (4 : Int32)) ∧ Fr n0 L ∧ h = h0
theorem own_d2_0 : decode method_4_code 0 = .ok (.iload_n 0, 1) := by decide +kernel
theorem own_d2_1 : decode method_4_code 1 = .ok (.ifCond .ne 5, 3) := by decide +kernel
theorem own_d2_4 : decode method_4_code 4 = .ok (.iconst 4, 1) := by decide +kernel
theorem own_d2_5 : decode method_4_code 5 = .ok (.ireturn, 1) := by decide +kernel
set_option maxRecDepth 65536 in
set_option maxHeartbeats 40000000 in
theorem own_em0 (l : Launch) (Z : State) (a0 : Array Value) (hw : ∀ d ∈ tables_1, d.before a0 Z = true) (ws : List Jvm.Cond)  (h0 : Heap) (n0 : Nat) (Z0 : n0 ≤ h0.size) :
    MetFree l (⟨"com/example/bhaga/bhaga/wire/ApiServesPinLaw", "expectedMax", "(I)I"⟩ : MethodName) (head1 (Jvm.Cond.code (⟨"com/example/bhaga/bhaga/wire/ApiServesPinLaw", "expectedMax", "(I)I"⟩ : MethodName) method_4_code 1 (some .int) :: ws) ({ frames := 0, cells := 0, slots := 0, locals := 0 } : Room)) (fun a U => a = #[(.int (0 : Int32))] ∧ Z.Warmed39 U.vm ∧ U.heap = h0) (fun _ _ _ _ _ => True) (fun _ U o U' => ∃ v L, o = .returned v ∧ Q_own_em0 Z  h0 n0 v U'.heap L ∧ FrameEnd U o U' L ({ frames := 0, cells := 0, slots := 0, locals := 0 } : Room).cells ({ frames := 0, cells := 0, slots := 0, locals := 0 } : Room).slots) := by
  refine MetFree.of_bodySF (plainFor_of_name own_pn_com_example_bhaga_bhaga_wire_ApiServesPinLaw) hisR ?_
  intro p e s m args below meth c s₁ Bd hml0 hP hK
  obtain ⟨rfl, hZ, hh⟩ := hP
  have hx := Bd.exec
  have hby := Bd.bytes
  have hml : c.maxLocals = 1 := hml0
  have hown : s.vm.findClass "com/example/bhaga/bhaga/wire/ApiServesPinLaw" = some m.cls := findClass_of_methodNamed Bd.named
  have hnm := (name_of_methodNamed Bd.named Bd.method).1
  have hlk : meth.locks = false := BodyLoose.notSynchronized Bd
  have X0 : Stand p l e ({ frames := 0, cells := 0, slots := 0, locals := 0 } : Room) s m #[(.int (0 : Int32))] below meth c s₁ [] 0 0 := Stand.of_body Bd
  have e0 : s₁.heap = h0 := by rw [← hh, Bd.state]; rfl
  have N0 := Fr.nil n0
  show own_Go p e below #[(.int (0 : Int32))] s (fun _ U o U' => ∃ v L, o = .returned v ∧ Q_own_em0 Z  h0 n0 v U'.heap L ∧ FrameEnd U o U' L ({ frames := 0, cells := 0, slots := 0, locals := 0 } : Room).cells ({ frames := 0, cells := 0, slots := 0, locals := 0 } : Room).slots) (s₁.setTop (entryFrame m #[(.int (0 : Int32))] 1))
  refine own_st (V := s₁.setTop (mkF m 0 #[.val (.int (0 : Int32))] [])) (fun t k => castTop (by first | (simp [entryFrame, mkF, argsToLocals, Value.category]; done) | rfl) k) ?_
  refine own_st (V := s₁.setTop (mkF m 1 #[.val (.int (0 : Int32))] [(.int (0 : Int32))])) (fun t k => XS.iloadN X0.here hx rfl (hb hby own_d2_0) rfl k) ?_
  refine own_st (V := s₁.setTop (mkF m 4 #[.val (.int (0 : Int32))] [])) (fun t k => XS.ifNo X0.here hx rfl (hb hby own_d2_1) rfl ((if0 _ _).trans (teq (by decide : (0 : Int32) = (0 : Int32))).2) k) ?_
  refine own_st (V := s₁.setTop (mkF m 5 #[.val (.int (0 : Int32))] [(.int (4 : Int32))])) (fun t k => XS.iconst X0.here hx rfl (hb hby own_d2_4) k) ?_
  exact own_ret X0 hx hlk Bd.returns rfl (Or.inl ⟨rfl, by simp, _, rfl⟩) (hb hby own_d2_5) (by decide) (by decide) (by show Q_own_em0 Z  h0 n0 _ s₁.heap _; rw [e0]; exact ⟨rfl, N0, rfl⟩)
def Q_own_pick1 (Z : State) (A : Nat → Addr) (h0 : Heap) (n0 : Nat) (v : Option Value) (h : Heap) (L : List Loc) : Prop := v = some (.ref (A 1)) ∧ Fr n0 L ∧ h = h0
theorem own_d1_8 : decode method_3_code 8 = .ok (.iload_n 0, 1) := by decide +kernel
theorem own_d1_9 : decode method_3_code 9 = .ok (.iconst 1, 1) := by decide +kernel
theorem own_d1_10 : decode method_3_code 10 = .ok (.if_icmp .ne 7, 3) := by decide +kernel
theorem own_d1_13 : decode method_3_code 13 = .ok (.getstatic 28, 3) := by decide +kernel
theorem own_d1_16 : decode method_3_code 16 = .ok (.areturn, 1) := by decide +kernel
set_option maxRecDepth 65536 in
set_option maxHeartbeats 40000000 in
theorem own_pick1 (l : Launch) (Z : State) (a0 : Array Value) (hw : ∀ d ∈ tables_1, d.before a0 Z = true) (ws : List Jvm.Cond) (A : Nat → Addr) (h0 : Heap) (n0 : Nat) (Z0 : n0 ≤ h0.size) (En : own_En Z h0 A) :
    MetFree l (⟨"com/example/bhaga/bhaga/wire/ApiServesPinLaw", "pick", "(I)Lcom/example/bhaga/bhaga/wire/Api;"⟩ : MethodName) (head1 (Jvm.Cond.code (⟨"com/example/bhaga/bhaga/wire/ApiServesPinLaw", "pick", "(I)Lcom/example/bhaga/bhaga/wire/Api;"⟩ : MethodName) method_3_code 1 (some (.object "com/example/bhaga/bhaga/wire/Api")) :: ws) ({ frames := 0, cells := 0, slots := 0, locals := 0 } : Room)) (fun a U => a = #[(.int (1 : Int32))] ∧ Z.Warmed39 U.vm ∧ U.heap = h0) (fun _ _ _ _ _ => True) (fun _ U o U' => ∃ v L, o = .returned v ∧ Q_own_pick1 Z A h0 n0 v U'.heap L ∧ FrameEnd U o U' L ({ frames := 0, cells := 0, slots := 0, locals := 0 } : Room).cells ({ frames := 0, cells := 0, slots := 0, locals := 0 } : Room).slots) := by
  refine MetFree.of_bodySF (plainFor_of_name own_pn_com_example_bhaga_bhaga_wire_ApiServesPinLaw) hisR ?_
  intro p e s m args below meth c s₁ Bd hml0 hP hK
  obtain ⟨rfl, hZ, hh⟩ := hP
  have hx := Bd.exec
  have hby := Bd.bytes
  have hml : c.maxLocals = 1 := hml0
  have hown : s.vm.findClass "com/example/bhaga/bhaga/wire/ApiServesPinLaw" = some m.cls := findClass_of_methodNamed Bd.named
  have hnm := (name_of_methodNamed Bd.named Bd.method).1
  have hlk : meth.locks = false := BodyLoose.notSynchronized Bd
  have X0 : Stand p l e ({ frames := 0, cells := 0, slots := 0, locals := 0 } : Room) s m #[(.int (1 : Int32))] below meth c s₁ [] 0 0 := Stand.of_body Bd
  have e0 : s₁.heap = h0 := by rw [← hh, Bd.state]; rfl
  have N0 := Fr.nil n0
  show own_Go p e below #[(.int (1 : Int32))] s (fun _ U o U' => ∃ v L, o = .returned v ∧ Q_own_pick1 Z A h0 n0 v U'.heap L ∧ FrameEnd U o U' L ({ frames := 0, cells := 0, slots := 0, locals := 0 } : Room).cells ({ frames := 0, cells := 0, slots := 0, locals := 0 } : Room).slots) (s₁.setTop (entryFrame m #[(.int (1 : Int32))] 1))
  refine own_st (V := s₁.setTop (mkF m 0 #[.val (.int (1 : Int32))] [])) (fun t k => castTop (by first | (simp [entryFrame, mkF, argsToLocals, Value.category]; done) | rfl) k) ?_
  refine own_st (V := s₁.setTop (mkF m 1 #[.val (.int (1 : Int32))] [(.int (1 : Int32))])) (fun t k => XS.iloadN X0.here hx rfl (hb hby own_d1_0) rfl k) ?_
  refine own_st (V := s₁.setTop (mkF m 8 #[.val (.int (1 : Int32))] [])) (fun t k => XS.ifYes X0.here hx rfl (pc0 := 1) (pc' := 8) rfl (hb hby own_d1_1) rfl ((if0 _ _).trans (feq (by decide : ¬ ((1 : Int32) = (0 : Int32)))).2) (by decide) (by decide) k) ?_
  refine own_st (V := s₁.setTop (mkF m 9 #[.val (.int (1 : Int32))] [(.int (1 : Int32))])) (fun t k => XS.iloadN X0.here hx rfl (hb hby own_d1_8) rfl k) ?_
  refine own_st (V := s₁.setTop (mkF m 10 #[.val (.int (1 : Int32))] [(.int (1 : Int32)), (.int (1 : Int32))])) (fun t k => XS.iconst X0.here hx rfl (hb hby own_d1_9) k) ?_
  refine own_st (V := s₁.setTop (mkF m 13 #[.val (.int (1 : Int32))] [])) (fun t k => XS.icmpNo X0.here hx rfl (hb hby own_d1_10) rfl (teq (by decide : (1 : Int32) = (1 : Int32))).2 k) ?_
  obtain ⟨T7, X7, e7, st7⟩ := getS2 X0 hx hZ hown (host := "") (Or.inl (hw _ (List.mem_of_getElem? (i := 20) rfl))) Via.refl e0 (own_S En 1 (i := 1) (n := "LIST_OFFSETS") rfl) (g := (mkF m 13 #[.val (.int (1 : Int32))] [])) rfl (hb hby own_d1_13)
  refine own_st (V := T7.setTop (mkF m 16 #[.val (.int (1 : Int32))] [(.ref (A 1))])) (fun t k => st7 _ k) ?_
  exact own_ret X7 hx hlk Bd.returns rfl (Or.inr (Or.inr (Or.inr (Or.inr ⟨rfl, rfl, rfl⟩)))) (hb hby own_d1_16) (by decide) (by decide) (by show Q_own_pick1 Z A h0 n0 _ T7.heap _; rw [e7]; exact ⟨rfl, N0, rfl⟩)
def Q_own_em1 (Z : State)  (h0 : Heap) (n0 : Nat) (v : Option Value) (h : Heap) (L : List Loc) : Prop := v = some (.int (2 : Int32)) ∧ Fr n0 L ∧ h = h0
theorem own_d2_6 : decode method_4_code 6 = .ok (.iload_n 0, 1) := by decide +kernel
theorem own_d2_7 : decode method_4_code 7 = .ok (.iconst 1, 1) := by decide +kernel
theorem own_d2_8 : decode method_4_code 8 = .ok (.if_icmp .ne 5, 3) := by decide +kernel
theorem own_d2_11 : decode method_4_code 11 = .ok (.iconst 2, 1) := by decide +kernel
theorem own_d2_12 : decode method_4_code 12 = .ok (.ireturn, 1) := by decide +kernel
set_option maxRecDepth 65536 in
set_option maxHeartbeats 40000000 in
theorem own_em1 (l : Launch) (Z : State) (a0 : Array Value) (hw : ∀ d ∈ tables_1, d.before a0 Z = true) (ws : List Jvm.Cond)  (h0 : Heap) (n0 : Nat) (Z0 : n0 ≤ h0.size) :
    MetFree l (⟨"com/example/bhaga/bhaga/wire/ApiServesPinLaw", "expectedMax", "(I)I"⟩ : MethodName) (head1 (Jvm.Cond.code (⟨"com/example/bhaga/bhaga/wire/ApiServesPinLaw", "expectedMax", "(I)I"⟩ : MethodName) method_4_code 1 (some .int) :: ws) ({ frames := 0, cells := 0, slots := 0, locals := 0 } : Room)) (fun a U => a = #[(.int (1 : Int32))] ∧ Z.Warmed39 U.vm ∧ U.heap = h0) (fun _ _ _ _ _ => True) (fun _ U o U' => ∃ v L, o = .returned v ∧ Q_own_em1 Z  h0 n0 v U'.heap L ∧ FrameEnd U o U' L ({ frames := 0, cells := 0, slots := 0, locals := 0 } : Room).cells ({ frames := 0, cells := 0, slots := 0, locals := 0 } : Room).slots) := by
  refine MetFree.of_bodySF (plainFor_of_name own_pn_com_example_bhaga_bhaga_wire_ApiServesPinLaw) hisR ?_
  intro p e s m args below meth c s₁ Bd hml0 hP hK
  obtain ⟨rfl, hZ, hh⟩ := hP
  have hx := Bd.exec
  have hby := Bd.bytes
  have hml : c.maxLocals = 1 := hml0
  have hown : s.vm.findClass "com/example/bhaga/bhaga/wire/ApiServesPinLaw" = some m.cls := findClass_of_methodNamed Bd.named
  have hnm := (name_of_methodNamed Bd.named Bd.method).1
  have hlk : meth.locks = false := BodyLoose.notSynchronized Bd
  have X0 : Stand p l e ({ frames := 0, cells := 0, slots := 0, locals := 0 } : Room) s m #[(.int (1 : Int32))] below meth c s₁ [] 0 0 := Stand.of_body Bd
  have e0 : s₁.heap = h0 := by rw [← hh, Bd.state]; rfl
  have N0 := Fr.nil n0
  show own_Go p e below #[(.int (1 : Int32))] s (fun _ U o U' => ∃ v L, o = .returned v ∧ Q_own_em1 Z  h0 n0 v U'.heap L ∧ FrameEnd U o U' L ({ frames := 0, cells := 0, slots := 0, locals := 0 } : Room).cells ({ frames := 0, cells := 0, slots := 0, locals := 0 } : Room).slots) (s₁.setTop (entryFrame m #[(.int (1 : Int32))] 1))
  refine own_st (V := s₁.setTop (mkF m 0 #[.val (.int (1 : Int32))] [])) (fun t k => castTop (by first | (simp [entryFrame, mkF, argsToLocals, Value.category]; done) | rfl) k) ?_
  refine own_st (V := s₁.setTop (mkF m 1 #[.val (.int (1 : Int32))] [(.int (1 : Int32))])) (fun t k => XS.iloadN X0.here hx rfl (hb hby own_d2_0) rfl k) ?_
  refine own_st (V := s₁.setTop (mkF m 6 #[.val (.int (1 : Int32))] [])) (fun t k => XS.ifYes X0.here hx rfl (pc0 := 1) (pc' := 6) rfl (hb hby own_d2_1) rfl ((if0 _ _).trans (feq (by decide : ¬ ((1 : Int32) = (0 : Int32)))).2) (by decide) (by decide) k) ?_
  refine own_st (V := s₁.setTop (mkF m 7 #[.val (.int (1 : Int32))] [(.int (1 : Int32))])) (fun t k => XS.iloadN X0.here hx rfl (hb hby own_d2_6) rfl k) ?_
  refine own_st (V := s₁.setTop (mkF m 8 #[.val (.int (1 : Int32))] [(.int (1 : Int32)), (.int (1 : Int32))])) (fun t k => XS.iconst X0.here hx rfl (hb hby own_d2_7) k) ?_
  refine own_st (V := s₁.setTop (mkF m 11 #[.val (.int (1 : Int32))] [])) (fun t k => XS.icmpNo X0.here hx rfl (hb hby own_d2_8) rfl (teq (by decide : (1 : Int32) = (1 : Int32))).2 k) ?_
  refine own_st (V := s₁.setTop (mkF m 12 #[.val (.int (1 : Int32))] [(.int (2 : Int32))])) (fun t k => XS.iconst X0.here hx rfl (hb hby own_d2_11) k) ?_
  exact own_ret X0 hx hlk Bd.returns rfl (Or.inl ⟨rfl, by simp, _, rfl⟩) (hb hby own_d2_12) (by decide) (by decide) (by show Q_own_em1 Z  h0 n0 _ s₁.heap _; rw [e0]; exact ⟨rfl, N0, rfl⟩)
def Q_own_pick2 (Z : State) (A : Nat → Addr) (h0 : Heap) (n0 : Nat) (v : Option Value) (h : Heap) (L : List Loc) : Prop := v = some (.ref (A 2)) ∧ Fr n0 L ∧ h = h0
theorem own_d1_17 : decode method_3_code 17 = .ok (.iload_n 0, 1) := by decide +kernel
theorem own_d1_18 : decode method_3_code 18 = .ok (.iconst 2, 1) := by decide +kernel
theorem own_d1_19 : decode method_3_code 19 = .ok (.if_icmp .ne 7, 3) := by decide +kernel
theorem own_d1_22 : decode method_3_code 22 = .ok (.getstatic 31, 3) := by decide +kernel
theorem own_d1_25 : decode method_3_code 25 = .ok (.areturn, 1) := by decide +kernel
set_option maxRecDepth 65536 in
set_option maxHeartbeats 40000000 in
theorem own_pick2 (l : Launch) (Z : State) (a0 : Array Value) (hw : ∀ d ∈ tables_1, d.before a0 Z = true) (ws : List Jvm.Cond) (A : Nat → Addr) (h0 : Heap) (n0 : Nat) (Z0 : n0 ≤ h0.size) (En : own_En Z h0 A) :
    MetFree l (⟨"com/example/bhaga/bhaga/wire/ApiServesPinLaw", "pick", "(I)Lcom/example/bhaga/bhaga/wire/Api;"⟩ : MethodName) (head1 (Jvm.Cond.code (⟨"com/example/bhaga/bhaga/wire/ApiServesPinLaw", "pick", "(I)Lcom/example/bhaga/bhaga/wire/Api;"⟩ : MethodName) method_3_code 1 (some (.object "com/example/bhaga/bhaga/wire/Api")) :: ws) ({ frames := 0, cells := 0, slots := 0, locals := 0 } : Room)) (fun a U => a = #[(.int (2 : Int32))] ∧ Z.Warmed39 U.vm ∧ U.heap = h0) (fun _ _ _ _ _ => True) (fun _ U o U' => ∃ v L, o = .returned v ∧ Q_own_pick2 Z A h0 n0 v U'.heap L ∧ FrameEnd U o U' L ({ frames := 0, cells := 0, slots := 0, locals := 0 } : Room).cells ({ frames := 0, cells := 0, slots := 0, locals := 0 } : Room).slots) := by
  refine MetFree.of_bodySF (plainFor_of_name own_pn_com_example_bhaga_bhaga_wire_ApiServesPinLaw) hisR ?_
  intro p e s m args below meth c s₁ Bd hml0 hP hK
  obtain ⟨rfl, hZ, hh⟩ := hP
  have hx := Bd.exec
  have hby := Bd.bytes
  have hml : c.maxLocals = 1 := hml0
  have hown : s.vm.findClass "com/example/bhaga/bhaga/wire/ApiServesPinLaw" = some m.cls := findClass_of_methodNamed Bd.named
  have hnm := (name_of_methodNamed Bd.named Bd.method).1
  have hlk : meth.locks = false := BodyLoose.notSynchronized Bd
  have X0 : Stand p l e ({ frames := 0, cells := 0, slots := 0, locals := 0 } : Room) s m #[(.int (2 : Int32))] below meth c s₁ [] 0 0 := Stand.of_body Bd
  have e0 : s₁.heap = h0 := by rw [← hh, Bd.state]; rfl
  have N0 := Fr.nil n0
  show own_Go p e below #[(.int (2 : Int32))] s (fun _ U o U' => ∃ v L, o = .returned v ∧ Q_own_pick2 Z A h0 n0 v U'.heap L ∧ FrameEnd U o U' L ({ frames := 0, cells := 0, slots := 0, locals := 0 } : Room).cells ({ frames := 0, cells := 0, slots := 0, locals := 0 } : Room).slots) (s₁.setTop (entryFrame m #[(.int (2 : Int32))] 1))
  refine own_st (V := s₁.setTop (mkF m 0 #[.val (.int (2 : Int32))] [])) (fun t k => castTop (by first | (simp [entryFrame, mkF, argsToLocals, Value.category]; done) | rfl) k) ?_
  refine own_st (V := s₁.setTop (mkF m 1 #[.val (.int (2 : Int32))] [(.int (2 : Int32))])) (fun t k => XS.iloadN X0.here hx rfl (hb hby own_d1_0) rfl k) ?_
  refine own_st (V := s₁.setTop (mkF m 8 #[.val (.int (2 : Int32))] [])) (fun t k => XS.ifYes X0.here hx rfl (pc0 := 1) (pc' := 8) rfl (hb hby own_d1_1) rfl ((if0 _ _).trans (feq (by decide : ¬ ((2 : Int32) = (0 : Int32)))).2) (by decide) (by decide) k) ?_
  refine own_st (V := s₁.setTop (mkF m 9 #[.val (.int (2 : Int32))] [(.int (2 : Int32))])) (fun t k => XS.iloadN X0.here hx rfl (hb hby own_d1_8) rfl k) ?_
  refine own_st (V := s₁.setTop (mkF m 10 #[.val (.int (2 : Int32))] [(.int (1 : Int32)), (.int (2 : Int32))])) (fun t k => XS.iconst X0.here hx rfl (hb hby own_d1_9) k) ?_
  refine own_st (V := s₁.setTop (mkF m 17 #[.val (.int (2 : Int32))] [])) (fun t k => XS.icmpYes X0.here hx rfl (pc0 := 10) (pc' := 17) rfl (hb hby own_d1_10) rfl (feq (by decide : ¬ ((2 : Int32) = (1 : Int32)))).2 (by decide) (by decide) k) ?_
  refine own_st (V := s₁.setTop (mkF m 18 #[.val (.int (2 : Int32))] [(.int (2 : Int32))])) (fun t k => XS.iloadN X0.here hx rfl (hb hby own_d1_17) rfl k) ?_
  refine own_st (V := s₁.setTop (mkF m 19 #[.val (.int (2 : Int32))] [(.int (2 : Int32)), (.int (2 : Int32))])) (fun t k => XS.iconst X0.here hx rfl (hb hby own_d1_18) k) ?_
  refine own_st (V := s₁.setTop (mkF m 22 #[.val (.int (2 : Int32))] [])) (fun t k => XS.icmpNo X0.here hx rfl (hb hby own_d1_19) rfl (teq (by decide : (2 : Int32) = (2 : Int32))).2 k) ?_
  obtain ⟨T8, X8, e8, st8⟩ := getS2 X0 hx hZ hown (host := "") (Or.inl (hw _ (List.mem_of_getElem? (i := 36) rfl))) Via.refl e0 (own_S En 2 (i := 2) (n := "METADATA") rfl) (g := (mkF m 22 #[.val (.int (2 : Int32))] [])) rfl (hb hby own_d1_22)
  refine own_st (V := T8.setTop (mkF m 25 #[.val (.int (2 : Int32))] [(.ref (A 2))])) (fun t k => st8 _ k) ?_
  exact own_ret X8 hx hlk Bd.returns rfl (Or.inr (Or.inr (Or.inr (Or.inr ⟨rfl, rfl, rfl⟩)))) (hb hby own_d1_25) (by decide) (by decide) (by show Q_own_pick2 Z A h0 n0 _ T8.heap _; rw [e8]; exact ⟨rfl, N0, rfl⟩)
def Q_own_em2 (Z : State)  (h0 : Heap) (n0 : Nat) (v : Option Value) (h : Heap) (L : List Loc) : Prop := v = some (.int (5 : Int32)) ∧ Fr n0 L ∧ h = h0
theorem own_d2_13 : decode method_4_code 13 = .ok (.iload_n 0, 1) := by decide +kernel
theorem own_d2_14 : decode method_4_code 14 = .ok (.iconst 2, 1) := by decide +kernel
theorem own_d2_15 : decode method_4_code 15 = .ok (.if_icmp .ne 5, 3) := by decide +kernel
theorem own_d2_18 : decode method_4_code 18 = .ok (.iconst 5, 1) := by decide +kernel
theorem own_d2_19 : decode method_4_code 19 = .ok (.ireturn, 1) := by decide +kernel
set_option maxRecDepth 65536 in
set_option maxHeartbeats 40000000 in
theorem own_em2 (l : Launch) (Z : State) (a0 : Array Value) (hw : ∀ d ∈ tables_1, d.before a0 Z = true) (ws : List Jvm.Cond)  (h0 : Heap) (n0 : Nat) (Z0 : n0 ≤ h0.size) :
    MetFree l (⟨"com/example/bhaga/bhaga/wire/ApiServesPinLaw", "expectedMax", "(I)I"⟩ : MethodName) (head1 (Jvm.Cond.code (⟨"com/example/bhaga/bhaga/wire/ApiServesPinLaw", "expectedMax", "(I)I"⟩ : MethodName) method_4_code 1 (some .int) :: ws) ({ frames := 0, cells := 0, slots := 0, locals := 0 } : Room)) (fun a U => a = #[(.int (2 : Int32))] ∧ Z.Warmed39 U.vm ∧ U.heap = h0) (fun _ _ _ _ _ => True) (fun _ U o U' => ∃ v L, o = .returned v ∧ Q_own_em2 Z  h0 n0 v U'.heap L ∧ FrameEnd U o U' L ({ frames := 0, cells := 0, slots := 0, locals := 0 } : Room).cells ({ frames := 0, cells := 0, slots := 0, locals := 0 } : Room).slots) := by
  refine MetFree.of_bodySF (plainFor_of_name own_pn_com_example_bhaga_bhaga_wire_ApiServesPinLaw) hisR ?_
  intro p e s m args below meth c s₁ Bd hml0 hP hK
  obtain ⟨rfl, hZ, hh⟩ := hP
  have hx := Bd.exec
  have hby := Bd.bytes
  have hml : c.maxLocals = 1 := hml0
  have hown : s.vm.findClass "com/example/bhaga/bhaga/wire/ApiServesPinLaw" = some m.cls := findClass_of_methodNamed Bd.named
  have hnm := (name_of_methodNamed Bd.named Bd.method).1
  have hlk : meth.locks = false := BodyLoose.notSynchronized Bd
  have X0 : Stand p l e ({ frames := 0, cells := 0, slots := 0, locals := 0 } : Room) s m #[(.int (2 : Int32))] below meth c s₁ [] 0 0 := Stand.of_body Bd
  have e0 : s₁.heap = h0 := by rw [← hh, Bd.state]; rfl
  have N0 := Fr.nil n0
  show own_Go p e below #[(.int (2 : Int32))] s (fun _ U o U' => ∃ v L, o = .returned v ∧ Q_own_em2 Z  h0 n0 v U'.heap L ∧ FrameEnd U o U' L ({ frames := 0, cells := 0, slots := 0, locals := 0 } : Room).cells ({ frames := 0, cells := 0, slots := 0, locals := 0 } : Room).slots) (s₁.setTop (entryFrame m #[(.int (2 : Int32))] 1))
  refine own_st (V := s₁.setTop (mkF m 0 #[.val (.int (2 : Int32))] [])) (fun t k => castTop (by first | (simp [entryFrame, mkF, argsToLocals, Value.category]; done) | rfl) k) ?_
  refine own_st (V := s₁.setTop (mkF m 1 #[.val (.int (2 : Int32))] [(.int (2 : Int32))])) (fun t k => XS.iloadN X0.here hx rfl (hb hby own_d2_0) rfl k) ?_
  refine own_st (V := s₁.setTop (mkF m 6 #[.val (.int (2 : Int32))] [])) (fun t k => XS.ifYes X0.here hx rfl (pc0 := 1) (pc' := 6) rfl (hb hby own_d2_1) rfl ((if0 _ _).trans (feq (by decide : ¬ ((2 : Int32) = (0 : Int32)))).2) (by decide) (by decide) k) ?_
  refine own_st (V := s₁.setTop (mkF m 7 #[.val (.int (2 : Int32))] [(.int (2 : Int32))])) (fun t k => XS.iloadN X0.here hx rfl (hb hby own_d2_6) rfl k) ?_
  refine own_st (V := s₁.setTop (mkF m 8 #[.val (.int (2 : Int32))] [(.int (1 : Int32)), (.int (2 : Int32))])) (fun t k => XS.iconst X0.here hx rfl (hb hby own_d2_7) k) ?_
  refine own_st (V := s₁.setTop (mkF m 13 #[.val (.int (2 : Int32))] [])) (fun t k => XS.icmpYes X0.here hx rfl (pc0 := 8) (pc' := 13) rfl (hb hby own_d2_8) rfl (feq (by decide : ¬ ((2 : Int32) = (1 : Int32)))).2 (by decide) (by decide) k) ?_
  refine own_st (V := s₁.setTop (mkF m 14 #[.val (.int (2 : Int32))] [(.int (2 : Int32))])) (fun t k => XS.iloadN X0.here hx rfl (hb hby own_d2_13) rfl k) ?_
  refine own_st (V := s₁.setTop (mkF m 15 #[.val (.int (2 : Int32))] [(.int (2 : Int32)), (.int (2 : Int32))])) (fun t k => XS.iconst X0.here hx rfl (hb hby own_d2_14) k) ?_
  refine own_st (V := s₁.setTop (mkF m 18 #[.val (.int (2 : Int32))] [])) (fun t k => XS.icmpNo X0.here hx rfl (hb hby own_d2_15) rfl (teq (by decide : (2 : Int32) = (2 : Int32))).2 k) ?_
  refine own_st (V := s₁.setTop (mkF m 19 #[.val (.int (2 : Int32))] [(.int (5 : Int32))])) (fun t k => XS.iconst X0.here hx rfl (hb hby own_d2_18) k) ?_
  exact own_ret X0 hx hlk Bd.returns rfl (Or.inl ⟨rfl, by simp, _, rfl⟩) (hb hby own_d2_19) (by decide) (by decide) (by show Q_own_em2 Z  h0 n0 _ s₁.heap _; rw [e0]; exact ⟨rfl, N0, rfl⟩)
def Q_own_pick3 (Z : State) (A : Nat → Addr) (h0 : Heap) (n0 : Nat) (v : Option Value) (h : Heap) (L : List Loc) : Prop := v = some (.ref (A 3)) ∧ Fr n0 L ∧ h = h0
theorem own_d1_26 : decode method_3_code 26 = .ok (.iload_n 0, 1) := by decide +kernel
theorem own_d1_27 : decode method_3_code 27 = .ok (.iconst 3, 1) := by decide +kernel
theorem own_d1_28 : decode method_3_code 28 = .ok (.if_icmp .ne 7, 3) := by decide +kernel
theorem own_d1_31 : decode method_3_code 31 = .ok (.getstatic 34, 3) := by decide +kernel
theorem own_d1_34 : decode method_3_code 34 = .ok (.areturn, 1) := by decide +kernel
set_option maxRecDepth 65536 in
set_option maxHeartbeats 40000000 in
theorem own_pick3 (l : Launch) (Z : State) (a0 : Array Value) (hw : ∀ d ∈ tables_1, d.before a0 Z = true) (ws : List Jvm.Cond) (A : Nat → Addr) (h0 : Heap) (n0 : Nat) (Z0 : n0 ≤ h0.size) (En : own_En Z h0 A) :
    MetFree l (⟨"com/example/bhaga/bhaga/wire/ApiServesPinLaw", "pick", "(I)Lcom/example/bhaga/bhaga/wire/Api;"⟩ : MethodName) (head1 (Jvm.Cond.code (⟨"com/example/bhaga/bhaga/wire/ApiServesPinLaw", "pick", "(I)Lcom/example/bhaga/bhaga/wire/Api;"⟩ : MethodName) method_3_code 1 (some (.object "com/example/bhaga/bhaga/wire/Api")) :: ws) ({ frames := 0, cells := 0, slots := 0, locals := 0 } : Room)) (fun a U => a = #[(.int (3 : Int32))] ∧ Z.Warmed39 U.vm ∧ U.heap = h0) (fun _ _ _ _ _ => True) (fun _ U o U' => ∃ v L, o = .returned v ∧ Q_own_pick3 Z A h0 n0 v U'.heap L ∧ FrameEnd U o U' L ({ frames := 0, cells := 0, slots := 0, locals := 0 } : Room).cells ({ frames := 0, cells := 0, slots := 0, locals := 0 } : Room).slots) := by
  refine MetFree.of_bodySF (plainFor_of_name own_pn_com_example_bhaga_bhaga_wire_ApiServesPinLaw) hisR ?_
  intro p e s m args below meth c s₁ Bd hml0 hP hK
  obtain ⟨rfl, hZ, hh⟩ := hP
  have hx := Bd.exec
  have hby := Bd.bytes
  have hml : c.maxLocals = 1 := hml0
  have hown : s.vm.findClass "com/example/bhaga/bhaga/wire/ApiServesPinLaw" = some m.cls := findClass_of_methodNamed Bd.named
  have hnm := (name_of_methodNamed Bd.named Bd.method).1
  have hlk : meth.locks = false := BodyLoose.notSynchronized Bd
  have X0 : Stand p l e ({ frames := 0, cells := 0, slots := 0, locals := 0 } : Room) s m #[(.int (3 : Int32))] below meth c s₁ [] 0 0 := Stand.of_body Bd
  have e0 : s₁.heap = h0 := by rw [← hh, Bd.state]; rfl
  have N0 := Fr.nil n0
  show own_Go p e below #[(.int (3 : Int32))] s (fun _ U o U' => ∃ v L, o = .returned v ∧ Q_own_pick3 Z A h0 n0 v U'.heap L ∧ FrameEnd U o U' L ({ frames := 0, cells := 0, slots := 0, locals := 0 } : Room).cells ({ frames := 0, cells := 0, slots := 0, locals := 0 } : Room).slots) (s₁.setTop (entryFrame m #[(.int (3 : Int32))] 1))
  refine own_st (V := s₁.setTop (mkF m 0 #[.val (.int (3 : Int32))] [])) (fun t k => castTop (by first | (simp [entryFrame, mkF, argsToLocals, Value.category]; done) | rfl) k) ?_
  refine own_st (V := s₁.setTop (mkF m 1 #[.val (.int (3 : Int32))] [(.int (3 : Int32))])) (fun t k => XS.iloadN X0.here hx rfl (hb hby own_d1_0) rfl k) ?_
  refine own_st (V := s₁.setTop (mkF m 8 #[.val (.int (3 : Int32))] [])) (fun t k => XS.ifYes X0.here hx rfl (pc0 := 1) (pc' := 8) rfl (hb hby own_d1_1) rfl ((if0 _ _).trans (feq (by decide : ¬ ((3 : Int32) = (0 : Int32)))).2) (by decide) (by decide) k) ?_
  refine own_st (V := s₁.setTop (mkF m 9 #[.val (.int (3 : Int32))] [(.int (3 : Int32))])) (fun t k => XS.iloadN X0.here hx rfl (hb hby own_d1_8) rfl k) ?_
  refine own_st (V := s₁.setTop (mkF m 10 #[.val (.int (3 : Int32))] [(.int (1 : Int32)), (.int (3 : Int32))])) (fun t k => XS.iconst X0.here hx rfl (hb hby own_d1_9) k) ?_
  refine own_st (V := s₁.setTop (mkF m 17 #[.val (.int (3 : Int32))] [])) (fun t k => XS.icmpYes X0.here hx rfl (pc0 := 10) (pc' := 17) rfl (hb hby own_d1_10) rfl (feq (by decide : ¬ ((3 : Int32) = (1 : Int32)))).2 (by decide) (by decide) k) ?_
  refine own_st (V := s₁.setTop (mkF m 18 #[.val (.int (3 : Int32))] [(.int (3 : Int32))])) (fun t k => XS.iloadN X0.here hx rfl (hb hby own_d1_17) rfl k) ?_
  refine own_st (V := s₁.setTop (mkF m 19 #[.val (.int (3 : Int32))] [(.int (2 : Int32)), (.int (3 : Int32))])) (fun t k => XS.iconst X0.here hx rfl (hb hby own_d1_18) k) ?_
  refine own_st (V := s₁.setTop (mkF m 26 #[.val (.int (3 : Int32))] [])) (fun t k => XS.icmpYes X0.here hx rfl (pc0 := 19) (pc' := 26) rfl (hb hby own_d1_19) rfl (feq (by decide : ¬ ((3 : Int32) = (2 : Int32)))).2 (by decide) (by decide) k) ?_
  refine own_st (V := s₁.setTop (mkF m 27 #[.val (.int (3 : Int32))] [(.int (3 : Int32))])) (fun t k => XS.iloadN X0.here hx rfl (hb hby own_d1_26) rfl k) ?_
  refine own_st (V := s₁.setTop (mkF m 28 #[.val (.int (3 : Int32))] [(.int (3 : Int32)), (.int (3 : Int32))])) (fun t k => XS.iconst X0.here hx rfl (hb hby own_d1_27) k) ?_
  refine own_st (V := s₁.setTop (mkF m 31 #[.val (.int (3 : Int32))] [])) (fun t k => XS.icmpNo X0.here hx rfl (hb hby own_d1_28) rfl (teq (by decide : (3 : Int32) = (3 : Int32))).2 k) ?_
  obtain ⟨T9, X9, e9, st9⟩ := getS2 X0 hx hZ hown (host := "") (Or.inl (hw _ (List.mem_of_getElem? (i := 24) rfl))) Via.refl e0 (own_S En 3 (i := 3) (n := "OFFSET_COMMIT") rfl) (g := (mkF m 31 #[.val (.int (3 : Int32))] [])) rfl (hb hby own_d1_31)
  refine own_st (V := T9.setTop (mkF m 34 #[.val (.int (3 : Int32))] [(.ref (A 3))])) (fun t k => st9 _ k) ?_
  exact own_ret X9 hx hlk Bd.returns rfl (Or.inr (Or.inr (Or.inr (Or.inr ⟨rfl, rfl, rfl⟩)))) (hb hby own_d1_34) (by decide) (by decide) (by show Q_own_pick3 Z A h0 n0 _ T9.heap _; rw [e9]; exact ⟨rfl, N0, rfl⟩)
def Q_own_em3 (Z : State)  (h0 : Heap) (n0 : Nat) (v : Option Value) (h : Heap) (L : List Loc) : Prop := v = some (.int (3 : Int32)) ∧ Fr n0 L ∧ h = h0
theorem own_d2_20 : decode method_4_code 20 = .ok (.iload_n 0, 1) := by decide +kernel
theorem own_d2_21 : decode method_4_code 21 = .ok (.iconst 3, 1) := by decide +kernel
theorem own_d2_22 : decode method_4_code 22 = .ok (.if_icmp .ne 5, 3) := by decide +kernel
theorem own_d2_25 : decode method_4_code 25 = .ok (.iconst 3, 1) := by decide +kernel
theorem own_d2_26 : decode method_4_code 26 = .ok (.ireturn, 1) := by decide +kernel
set_option maxRecDepth 65536 in
set_option maxHeartbeats 40000000 in
theorem own_em3 (l : Launch) (Z : State) (a0 : Array Value) (hw : ∀ d ∈ tables_1, d.before a0 Z = true) (ws : List Jvm.Cond)  (h0 : Heap) (n0 : Nat) (Z0 : n0 ≤ h0.size) :
    MetFree l (⟨"com/example/bhaga/bhaga/wire/ApiServesPinLaw", "expectedMax", "(I)I"⟩ : MethodName) (head1 (Jvm.Cond.code (⟨"com/example/bhaga/bhaga/wire/ApiServesPinLaw", "expectedMax", "(I)I"⟩ : MethodName) method_4_code 1 (some .int) :: ws) ({ frames := 0, cells := 0, slots := 0, locals := 0 } : Room)) (fun a U => a = #[(.int (3 : Int32))] ∧ Z.Warmed39 U.vm ∧ U.heap = h0) (fun _ _ _ _ _ => True) (fun _ U o U' => ∃ v L, o = .returned v ∧ Q_own_em3 Z  h0 n0 v U'.heap L ∧ FrameEnd U o U' L ({ frames := 0, cells := 0, slots := 0, locals := 0 } : Room).cells ({ frames := 0, cells := 0, slots := 0, locals := 0 } : Room).slots) := by
  refine MetFree.of_bodySF (plainFor_of_name own_pn_com_example_bhaga_bhaga_wire_ApiServesPinLaw) hisR ?_
  intro p e s m args below meth c s₁ Bd hml0 hP hK
  obtain ⟨rfl, hZ, hh⟩ := hP
  have hx := Bd.exec
  have hby := Bd.bytes
  have hml : c.maxLocals = 1 := hml0
  have hown : s.vm.findClass "com/example/bhaga/bhaga/wire/ApiServesPinLaw" = some m.cls := findClass_of_methodNamed Bd.named
  have hnm := (name_of_methodNamed Bd.named Bd.method).1
  have hlk : meth.locks = false := BodyLoose.notSynchronized Bd
  have X0 : Stand p l e ({ frames := 0, cells := 0, slots := 0, locals := 0 } : Room) s m #[(.int (3 : Int32))] below meth c s₁ [] 0 0 := Stand.of_body Bd
  have e0 : s₁.heap = h0 := by rw [← hh, Bd.state]; rfl
  have N0 := Fr.nil n0
  show own_Go p e below #[(.int (3 : Int32))] s (fun _ U o U' => ∃ v L, o = .returned v ∧ Q_own_em3 Z  h0 n0 v U'.heap L ∧ FrameEnd U o U' L ({ frames := 0, cells := 0, slots := 0, locals := 0 } : Room).cells ({ frames := 0, cells := 0, slots := 0, locals := 0 } : Room).slots) (s₁.setTop (entryFrame m #[(.int (3 : Int32))] 1))
  refine own_st (V := s₁.setTop (mkF m 0 #[.val (.int (3 : Int32))] [])) (fun t k => castTop (by first | (simp [entryFrame, mkF, argsToLocals, Value.category]; done) | rfl) k) ?_
  refine own_st (V := s₁.setTop (mkF m 1 #[.val (.int (3 : Int32))] [(.int (3 : Int32))])) (fun t k => XS.iloadN X0.here hx rfl (hb hby own_d2_0) rfl k) ?_
  refine own_st (V := s₁.setTop (mkF m 6 #[.val (.int (3 : Int32))] [])) (fun t k => XS.ifYes X0.here hx rfl (pc0 := 1) (pc' := 6) rfl (hb hby own_d2_1) rfl ((if0 _ _).trans (feq (by decide : ¬ ((3 : Int32) = (0 : Int32)))).2) (by decide) (by decide) k) ?_
  refine own_st (V := s₁.setTop (mkF m 7 #[.val (.int (3 : Int32))] [(.int (3 : Int32))])) (fun t k => XS.iloadN X0.here hx rfl (hb hby own_d2_6) rfl k) ?_
  refine own_st (V := s₁.setTop (mkF m 8 #[.val (.int (3 : Int32))] [(.int (1 : Int32)), (.int (3 : Int32))])) (fun t k => XS.iconst X0.here hx rfl (hb hby own_d2_7) k) ?_
  refine own_st (V := s₁.setTop (mkF m 13 #[.val (.int (3 : Int32))] [])) (fun t k => XS.icmpYes X0.here hx rfl (pc0 := 8) (pc' := 13) rfl (hb hby own_d2_8) rfl (feq (by decide : ¬ ((3 : Int32) = (1 : Int32)))).2 (by decide) (by decide) k) ?_
  refine own_st (V := s₁.setTop (mkF m 14 #[.val (.int (3 : Int32))] [(.int (3 : Int32))])) (fun t k => XS.iloadN X0.here hx rfl (hb hby own_d2_13) rfl k) ?_
  refine own_st (V := s₁.setTop (mkF m 15 #[.val (.int (3 : Int32))] [(.int (2 : Int32)), (.int (3 : Int32))])) (fun t k => XS.iconst X0.here hx rfl (hb hby own_d2_14) k) ?_
  refine own_st (V := s₁.setTop (mkF m 20 #[.val (.int (3 : Int32))] [])) (fun t k => XS.icmpYes X0.here hx rfl (pc0 := 15) (pc' := 20) rfl (hb hby own_d2_15) rfl (feq (by decide : ¬ ((3 : Int32) = (2 : Int32)))).2 (by decide) (by decide) k) ?_
  refine own_st (V := s₁.setTop (mkF m 21 #[.val (.int (3 : Int32))] [(.int (3 : Int32))])) (fun t k => XS.iloadN X0.here hx rfl (hb hby own_d2_20) rfl k) ?_
  refine own_st (V := s₁.setTop (mkF m 22 #[.val (.int (3 : Int32))] [(.int (3 : Int32)), (.int (3 : Int32))])) (fun t k => XS.iconst X0.here hx rfl (hb hby own_d2_21) k) ?_
  refine own_st (V := s₁.setTop (mkF m 25 #[.val (.int (3 : Int32))] [])) (fun t k => XS.icmpNo X0.here hx rfl (hb hby own_d2_22) rfl (teq (by decide : (3 : Int32) = (3 : Int32))).2 k) ?_
  refine own_st (V := s₁.setTop (mkF m 26 #[.val (.int (3 : Int32))] [(.int (3 : Int32))])) (fun t k => XS.iconst X0.here hx rfl (hb hby own_d2_25) k) ?_
  exact own_ret X0 hx hlk Bd.returns rfl (Or.inl ⟨rfl, by simp, _, rfl⟩) (hb hby own_d2_26) (by decide) (by decide) (by show Q_own_em3 Z  h0 n0 _ s₁.heap _; rw [e0]; exact ⟨rfl, N0, rfl⟩)
def Q_own_pick4 (Z : State) (A : Nat → Addr) (h0 : Heap) (n0 : Nat) (v : Option Value) (h : Heap) (L : List Loc) : Prop := v = some (.ref (A 4)) ∧ Fr n0 L ∧ h = h0
theorem own_d1_35 : decode method_3_code 35 = .ok (.iload_n 0, 1) := by decide +kernel
theorem own_d1_36 : decode method_3_code 36 = .ok (.iconst 4, 1) := by decide +kernel
theorem own_d1_37 : decode method_3_code 37 = .ok (.if_icmp .ne 7, 3) := by decide +kernel
theorem own_d1_40 : decode method_3_code 40 = .ok (.getstatic 37, 3) := by decide +kernel
theorem own_d1_43 : decode method_3_code 43 = .ok (.areturn, 1) := by decide +kernel
set_option maxRecDepth 65536 in
set_option maxHeartbeats 40000000 in
theorem own_pick4 (l : Launch) (Z : State) (a0 : Array Value) (hw : ∀ d ∈ tables_1, d.before a0 Z = true) (ws : List Jvm.Cond) (A : Nat → Addr) (h0 : Heap) (n0 : Nat) (Z0 : n0 ≤ h0.size) (En : own_En Z h0 A) :
    MetFree l (⟨"com/example/bhaga/bhaga/wire/ApiServesPinLaw", "pick", "(I)Lcom/example/bhaga/bhaga/wire/Api;"⟩ : MethodName) (head1 (Jvm.Cond.code (⟨"com/example/bhaga/bhaga/wire/ApiServesPinLaw", "pick", "(I)Lcom/example/bhaga/bhaga/wire/Api;"⟩ : MethodName) method_3_code 1 (some (.object "com/example/bhaga/bhaga/wire/Api")) :: ws) ({ frames := 0, cells := 0, slots := 0, locals := 0 } : Room)) (fun a U => a = #[(.int (4 : Int32))] ∧ Z.Warmed39 U.vm ∧ U.heap = h0) (fun _ _ _ _ _ => True) (fun _ U o U' => ∃ v L, o = .returned v ∧ Q_own_pick4 Z A h0 n0 v U'.heap L ∧ FrameEnd U o U' L ({ frames := 0, cells := 0, slots := 0, locals := 0 } : Room).cells ({ frames := 0, cells := 0, slots := 0, locals := 0 } : Room).slots) := by
  refine MetFree.of_bodySF (plainFor_of_name own_pn_com_example_bhaga_bhaga_wire_ApiServesPinLaw) hisR ?_
  intro p e s m args below meth c s₁ Bd hml0 hP hK
  obtain ⟨rfl, hZ, hh⟩ := hP
  have hx := Bd.exec
  have hby := Bd.bytes
  have hml : c.maxLocals = 1 := hml0
  have hown : s.vm.findClass "com/example/bhaga/bhaga/wire/ApiServesPinLaw" = some m.cls := findClass_of_methodNamed Bd.named
  have hnm := (name_of_methodNamed Bd.named Bd.method).1
  have hlk : meth.locks = false := BodyLoose.notSynchronized Bd
  have X0 : Stand p l e ({ frames := 0, cells := 0, slots := 0, locals := 0 } : Room) s m #[(.int (4 : Int32))] below meth c s₁ [] 0 0 := Stand.of_body Bd
  have e0 : s₁.heap = h0 := by rw [← hh, Bd.state]; rfl
  have N0 := Fr.nil n0
  show own_Go p e below #[(.int (4 : Int32))] s (fun _ U o U' => ∃ v L, o = .returned v ∧ Q_own_pick4 Z A h0 n0 v U'.heap L ∧ FrameEnd U o U' L ({ frames := 0, cells := 0, slots := 0, locals := 0 } : Room).cells ({ frames := 0, cells := 0, slots := 0, locals := 0 } : Room).slots) (s₁.setTop (entryFrame m #[(.int (4 : Int32))] 1))
  refine own_st (V := s₁.setTop (mkF m 0 #[.val (.int (4 : Int32))] [])) (fun t k => castTop (by first | (simp [entryFrame, mkF, argsToLocals, Value.category]; done) | rfl) k) ?_
  refine own_st (V := s₁.setTop (mkF m 1 #[.val (.int (4 : Int32))] [(.int (4 : Int32))])) (fun t k => XS.iloadN X0.here hx rfl (hb hby own_d1_0) rfl k) ?_
  refine own_st (V := s₁.setTop (mkF m 8 #[.val (.int (4 : Int32))] [])) (fun t k => XS.ifYes X0.here hx rfl (pc0 := 1) (pc' := 8) rfl (hb hby own_d1_1) rfl ((if0 _ _).trans (feq (by decide : ¬ ((4 : Int32) = (0 : Int32)))).2) (by decide) (by decide) k) ?_
  refine own_st (V := s₁.setTop (mkF m 9 #[.val (.int (4 : Int32))] [(.int (4 : Int32))])) (fun t k => XS.iloadN X0.here hx rfl (hb hby own_d1_8) rfl k) ?_
  refine own_st (V := s₁.setTop (mkF m 10 #[.val (.int (4 : Int32))] [(.int (1 : Int32)), (.int (4 : Int32))])) (fun t k => XS.iconst X0.here hx rfl (hb hby own_d1_9) k) ?_
  refine own_st (V := s₁.setTop (mkF m 17 #[.val (.int (4 : Int32))] [])) (fun t k => XS.icmpYes X0.here hx rfl (pc0 := 10) (pc' := 17) rfl (hb hby own_d1_10) rfl (feq (by decide : ¬ ((4 : Int32) = (1 : Int32)))).2 (by decide) (by decide) k) ?_
  refine own_st (V := s₁.setTop (mkF m 18 #[.val (.int (4 : Int32))] [(.int (4 : Int32))])) (fun t k => XS.iloadN X0.here hx rfl (hb hby own_d1_17) rfl k) ?_
  refine own_st (V := s₁.setTop (mkF m 19 #[.val (.int (4 : Int32))] [(.int (2 : Int32)), (.int (4 : Int32))])) (fun t k => XS.iconst X0.here hx rfl (hb hby own_d1_18) k) ?_
  refine own_st (V := s₁.setTop (mkF m 26 #[.val (.int (4 : Int32))] [])) (fun t k => XS.icmpYes X0.here hx rfl (pc0 := 19) (pc' := 26) rfl (hb hby own_d1_19) rfl (feq (by decide : ¬ ((4 : Int32) = (2 : Int32)))).2 (by decide) (by decide) k) ?_
  refine own_st (V := s₁.setTop (mkF m 27 #[.val (.int (4 : Int32))] [(.int (4 : Int32))])) (fun t k => XS.iloadN X0.here hx rfl (hb hby own_d1_26) rfl k) ?_
  refine own_st (V := s₁.setTop (mkF m 28 #[.val (.int (4 : Int32))] [(.int (3 : Int32)), (.int (4 : Int32))])) (fun t k => XS.iconst X0.here hx rfl (hb hby own_d1_27) k) ?_
  refine own_st (V := s₁.setTop (mkF m 35 #[.val (.int (4 : Int32))] [])) (fun t k => XS.icmpYes X0.here hx rfl (pc0 := 28) (pc' := 35) rfl (hb hby own_d1_28) rfl (feq (by decide : ¬ ((4 : Int32) = (3 : Int32)))).2 (by decide) (by decide) k) ?_
  refine own_st (V := s₁.setTop (mkF m 36 #[.val (.int (4 : Int32))] [(.int (4 : Int32))])) (fun t k => XS.iloadN X0.here hx rfl (hb hby own_d1_35) rfl k) ?_
  refine own_st (V := s₁.setTop (mkF m 37 #[.val (.int (4 : Int32))] [(.int (4 : Int32)), (.int (4 : Int32))])) (fun t k => XS.iconst X0.here hx rfl (hb hby own_d1_36) k) ?_
  refine own_st (V := s₁.setTop (mkF m 40 #[.val (.int (4 : Int32))] [])) (fun t k => XS.icmpNo X0.here hx rfl (hb hby own_d1_37) rfl (teq (by decide : (4 : Int32) = (4 : Int32))).2 k) ?_
  obtain ⟨T10, X10, e10, st10⟩ := getS2 X0 hx hZ hown (host := "") (Or.inl (hw _ (List.mem_of_getElem? (i := 22) rfl))) Via.refl e0 (own_S En 4 (i := 4) (n := "OFFSET_FETCH") rfl) (g := (mkF m 40 #[.val (.int (4 : Int32))] [])) rfl (hb hby own_d1_40)
  refine own_st (V := T10.setTop (mkF m 43 #[.val (.int (4 : Int32))] [(.ref (A 4))])) (fun t k => st10 _ k) ?_
  exact own_ret X10 hx hlk Bd.returns rfl (Or.inr (Or.inr (Or.inr (Or.inr ⟨rfl, rfl, rfl⟩)))) (hb hby own_d1_43) (by decide) (by decide) (by show Q_own_pick4 Z A h0 n0 _ T10.heap _; rw [e10]; exact ⟨rfl, N0, rfl⟩)
def Q_own_em4 (Z : State)  (h0 : Heap) (n0 : Nat) (v : Option Value) (h : Heap) (L : List Loc) : Prop := v = some (.int (3 : Int32)) ∧ Fr n0 L ∧ h = h0
theorem own_d2_27 : decode method_4_code 27 = .ok (.iload_n 0, 1) := by decide +kernel
theorem own_d2_28 : decode method_4_code 28 = .ok (.iconst 4, 1) := by decide +kernel
theorem own_d2_29 : decode method_4_code 29 = .ok (.if_icmp .ne 5, 3) := by decide +kernel
theorem own_d2_32 : decode method_4_code 32 = .ok (.iconst 3, 1) := by decide +kernel
theorem own_d2_33 : decode method_4_code 33 = .ok (.ireturn, 1) := by decide +kernel
set_option maxRecDepth 65536 in
set_option maxHeartbeats 40000000 in
theorem own_em4 (l : Launch) (Z : State) (a0 : Array Value) (hw : ∀ d ∈ tables_1, d.before a0 Z = true) (ws : List Jvm.Cond)  (h0 : Heap) (n0 : Nat) (Z0 : n0 ≤ h0.size) :
    MetFree l (⟨"com/example/bhaga/bhaga/wire/ApiServesPinLaw", "expectedMax", "(I)I"⟩ : MethodName) (head1 (Jvm.Cond.code (⟨"com/example/bhaga/bhaga/wire/ApiServesPinLaw", "expectedMax", "(I)I"⟩ : MethodName) method_4_code 1 (some .int) :: ws) ({ frames := 0, cells := 0, slots := 0, locals := 0 } : Room)) (fun a U => a = #[(.int (4 : Int32))] ∧ Z.Warmed39 U.vm ∧ U.heap = h0) (fun _ _ _ _ _ => True) (fun _ U o U' => ∃ v L, o = .returned v ∧ Q_own_em4 Z  h0 n0 v U'.heap L ∧ FrameEnd U o U' L ({ frames := 0, cells := 0, slots := 0, locals := 0 } : Room).cells ({ frames := 0, cells := 0, slots := 0, locals := 0 } : Room).slots) := by
  refine MetFree.of_bodySF (plainFor_of_name own_pn_com_example_bhaga_bhaga_wire_ApiServesPinLaw) hisR ?_
  intro p e s m args below meth c s₁ Bd hml0 hP hK
  obtain ⟨rfl, hZ, hh⟩ := hP
  have hx := Bd.exec
  have hby := Bd.bytes
  have hml : c.maxLocals = 1 := hml0
  have hown : s.vm.findClass "com/example/bhaga/bhaga/wire/ApiServesPinLaw" = some m.cls := findClass_of_methodNamed Bd.named
  have hnm := (name_of_methodNamed Bd.named Bd.method).1
  have hlk : meth.locks = false := BodyLoose.notSynchronized Bd
  have X0 : Stand p l e ({ frames := 0, cells := 0, slots := 0, locals := 0 } : Room) s m #[(.int (4 : Int32))] below meth c s₁ [] 0 0 := Stand.of_body Bd
  have e0 : s₁.heap = h0 := by rw [← hh, Bd.state]; rfl
  have N0 := Fr.nil n0
  show own_Go p e below #[(.int (4 : Int32))] s (fun _ U o U' => ∃ v L, o = .returned v ∧ Q_own_em4 Z  h0 n0 v U'.heap L ∧ FrameEnd U o U' L ({ frames := 0, cells := 0, slots := 0, locals := 0 } : Room).cells ({ frames := 0, cells := 0, slots := 0, locals := 0 } : Room).slots) (s₁.setTop (entryFrame m #[(.int (4 : Int32))] 1))
  refine own_st (V := s₁.setTop (mkF m 0 #[.val (.int (4 : Int32))] [])) (fun t k => castTop (by first | (simp [entryFrame, mkF, argsToLocals, Value.category]; done) | rfl) k) ?_
  refine own_st (V := s₁.setTop (mkF m 1 #[.val (.int (4 : Int32))] [(.int (4 : Int32))])) (fun t k => XS.iloadN X0.here hx rfl (hb hby own_d2_0) rfl k) ?_
  refine own_st (V := s₁.setTop (mkF m 6 #[.val (.int (4 : Int32))] [])) (fun t k => XS.ifYes X0.here hx rfl (pc0 := 1) (pc' := 6) rfl (hb hby own_d2_1) rfl ((if0 _ _).trans (feq (by decide : ¬ ((4 : Int32) = (0 : Int32)))).2) (by decide) (by decide) k) ?_
  refine own_st (V := s₁.setTop (mkF m 7 #[.val (.int (4 : Int32))] [(.int (4 : Int32))])) (fun t k => XS.iloadN X0.here hx rfl (hb hby own_d2_6) rfl k) ?_
  refine own_st (V := s₁.setTop (mkF m 8 #[.val (.int (4 : Int32))] [(.int (1 : Int32)), (.int (4 : Int32))])) (fun t k => XS.iconst X0.here hx rfl (hb hby own_d2_7) k) ?_
  refine own_st (V := s₁.setTop (mkF m 13 #[.val (.int (4 : Int32))] [])) (fun t k => XS.icmpYes X0.here hx rfl (pc0 := 8) (pc' := 13) rfl (hb hby own_d2_8) rfl (feq (by decide : ¬ ((4 : Int32) = (1 : Int32)))).2 (by decide) (by decide) k) ?_
  refine own_st (V := s₁.setTop (mkF m 14 #[.val (.int (4 : Int32))] [(.int (4 : Int32))])) (fun t k => XS.iloadN X0.here hx rfl (hb hby own_d2_13) rfl k) ?_
  refine own_st (V := s₁.setTop (mkF m 15 #[.val (.int (4 : Int32))] [(.int (2 : Int32)), (.int (4 : Int32))])) (fun t k => XS.iconst X0.here hx rfl (hb hby own_d2_14) k) ?_
  refine own_st (V := s₁.setTop (mkF m 20 #[.val (.int (4 : Int32))] [])) (fun t k => XS.icmpYes X0.here hx rfl (pc0 := 15) (pc' := 20) rfl (hb hby own_d2_15) rfl (feq (by decide : ¬ ((4 : Int32) = (2 : Int32)))).2 (by decide) (by decide) k) ?_
  refine own_st (V := s₁.setTop (mkF m 21 #[.val (.int (4 : Int32))] [(.int (4 : Int32))])) (fun t k => XS.iloadN X0.here hx rfl (hb hby own_d2_20) rfl k) ?_
  refine own_st (V := s₁.setTop (mkF m 22 #[.val (.int (4 : Int32))] [(.int (3 : Int32)), (.int (4 : Int32))])) (fun t k => XS.iconst X0.here hx rfl (hb hby own_d2_21) k) ?_
  refine own_st (V := s₁.setTop (mkF m 27 #[.val (.int (4 : Int32))] [])) (fun t k => XS.icmpYes X0.here hx rfl (pc0 := 22) (pc' := 27) rfl (hb hby own_d2_22) rfl (feq (by decide : ¬ ((4 : Int32) = (3 : Int32)))).2 (by decide) (by decide) k) ?_
  refine own_st (V := s₁.setTop (mkF m 28 #[.val (.int (4 : Int32))] [(.int (4 : Int32))])) (fun t k => XS.iloadN X0.here hx rfl (hb hby own_d2_27) rfl k) ?_
  refine own_st (V := s₁.setTop (mkF m 29 #[.val (.int (4 : Int32))] [(.int (4 : Int32)), (.int (4 : Int32))])) (fun t k => XS.iconst X0.here hx rfl (hb hby own_d2_28) k) ?_
  refine own_st (V := s₁.setTop (mkF m 32 #[.val (.int (4 : Int32))] [])) (fun t k => XS.icmpNo X0.here hx rfl (hb hby own_d2_29) rfl (teq (by decide : (4 : Int32) = (4 : Int32))).2 k) ?_
  refine own_st (V := s₁.setTop (mkF m 33 #[.val (.int (4 : Int32))] [(.int (3 : Int32))])) (fun t k => XS.iconst X0.here hx rfl (hb hby own_d2_32) k) ?_
  exact own_ret X0 hx hlk Bd.returns rfl (Or.inl ⟨rfl, by simp, _, rfl⟩) (hb hby own_d2_33) (by decide) (by decide) (by show Q_own_em4 Z  h0 n0 _ s₁.heap _; rw [e0]; exact ⟨rfl, N0, rfl⟩)
def Q_own_pick5 (Z : State) (A : Nat → Addr) (h0 : Heap) (n0 : Nat) (v : Option Value) (h : Heap) (L : List Loc) : Prop := v = some (.ref (A 5)) ∧ Fr n0 L ∧ h = h0
theorem own_d1_44 : decode method_3_code 44 = .ok (.iload_n 0, 1) := by decide +kernel
theorem own_d1_45 : decode method_3_code 45 = .ok (.iconst 5, 1) := by decide +kernel
theorem own_d1_46 : decode method_3_code 46 = .ok (.if_icmp .ne 7, 3) := by decide +kernel
theorem own_d1_49 : decode method_3_code 49 = .ok (.getstatic 40, 3) := by decide +kernel
theorem own_d1_52 : decode method_3_code 52 = .ok (.areturn, 1) := by decide +kernel
set_option maxRecDepth 65536 in
set_option maxHeartbeats 40000000 in
theorem own_pick5 (l : Launch) (Z : State) (a0 : Array Value) (hw : ∀ d ∈ tables_1, d.before a0 Z = true) (ws : List Jvm.Cond) (A : Nat → Addr) (h0 : Heap) (n0 : Nat) (Z0 : n0 ≤ h0.size) (En : own_En Z h0 A) :
    MetFree l (⟨"com/example/bhaga/bhaga/wire/ApiServesPinLaw", "pick", "(I)Lcom/example/bhaga/bhaga/wire/Api;"⟩ : MethodName) (head1 (Jvm.Cond.code (⟨"com/example/bhaga/bhaga/wire/ApiServesPinLaw", "pick", "(I)Lcom/example/bhaga/bhaga/wire/Api;"⟩ : MethodName) method_3_code 1 (some (.object "com/example/bhaga/bhaga/wire/Api")) :: ws) ({ frames := 0, cells := 0, slots := 0, locals := 0 } : Room)) (fun a U => a = #[(.int (5 : Int32))] ∧ Z.Warmed39 U.vm ∧ U.heap = h0) (fun _ _ _ _ _ => True) (fun _ U o U' => ∃ v L, o = .returned v ∧ Q_own_pick5 Z A h0 n0 v U'.heap L ∧ FrameEnd U o U' L ({ frames := 0, cells := 0, slots := 0, locals := 0 } : Room).cells ({ frames := 0, cells := 0, slots := 0, locals := 0 } : Room).slots) := by
  refine MetFree.of_bodySF (plainFor_of_name own_pn_com_example_bhaga_bhaga_wire_ApiServesPinLaw) hisR ?_
  intro p e s m args below meth c s₁ Bd hml0 hP hK
  obtain ⟨rfl, hZ, hh⟩ := hP
  have hx := Bd.exec
  have hby := Bd.bytes
  have hml : c.maxLocals = 1 := hml0
  have hown : s.vm.findClass "com/example/bhaga/bhaga/wire/ApiServesPinLaw" = some m.cls := findClass_of_methodNamed Bd.named
  have hnm := (name_of_methodNamed Bd.named Bd.method).1
  have hlk : meth.locks = false := BodyLoose.notSynchronized Bd
  have X0 : Stand p l e ({ frames := 0, cells := 0, slots := 0, locals := 0 } : Room) s m #[(.int (5 : Int32))] below meth c s₁ [] 0 0 := Stand.of_body Bd
  have e0 : s₁.heap = h0 := by rw [← hh, Bd.state]; rfl
  have N0 := Fr.nil n0
  show own_Go p e below #[(.int (5 : Int32))] s (fun _ U o U' => ∃ v L, o = .returned v ∧ Q_own_pick5 Z A h0 n0 v U'.heap L ∧ FrameEnd U o U' L ({ frames := 0, cells := 0, slots := 0, locals := 0 } : Room).cells ({ frames := 0, cells := 0, slots := 0, locals := 0 } : Room).slots) (s₁.setTop (entryFrame m #[(.int (5 : Int32))] 1))
  refine own_st (V := s₁.setTop (mkF m 0 #[.val (.int (5 : Int32))] [])) (fun t k => castTop (by first | (simp [entryFrame, mkF, argsToLocals, Value.category]; done) | rfl) k) ?_
  refine own_st (V := s₁.setTop (mkF m 1 #[.val (.int (5 : Int32))] [(.int (5 : Int32))])) (fun t k => XS.iloadN X0.here hx rfl (hb hby own_d1_0) rfl k) ?_
  refine own_st (V := s₁.setTop (mkF m 8 #[.val (.int (5 : Int32))] [])) (fun t k => XS.ifYes X0.here hx rfl (pc0 := 1) (pc' := 8) rfl (hb hby own_d1_1) rfl ((if0 _ _).trans (feq (by decide : ¬ ((5 : Int32) = (0 : Int32)))).2) (by decide) (by decide) k) ?_
  refine own_st (V := s₁.setTop (mkF m 9 #[.val (.int (5 : Int32))] [(.int (5 : Int32))])) (fun t k => XS.iloadN X0.here hx rfl (hb hby own_d1_8) rfl k) ?_
  refine own_st (V := s₁.setTop (mkF m 10 #[.val (.int (5 : Int32))] [(.int (1 : Int32)), (.int (5 : Int32))])) (fun t k => XS.iconst X0.here hx rfl (hb hby own_d1_9) k) ?_
  refine own_st (V := s₁.setTop (mkF m 17 #[.val (.int (5 : Int32))] [])) (fun t k => XS.icmpYes X0.here hx rfl (pc0 := 10) (pc' := 17) rfl (hb hby own_d1_10) rfl (feq (by decide : ¬ ((5 : Int32) = (1 : Int32)))).2 (by decide) (by decide) k) ?_
  refine own_st (V := s₁.setTop (mkF m 18 #[.val (.int (5 : Int32))] [(.int (5 : Int32))])) (fun t k => XS.iloadN X0.here hx rfl (hb hby own_d1_17) rfl k) ?_
  refine own_st (V := s₁.setTop (mkF m 19 #[.val (.int (5 : Int32))] [(.int (2 : Int32)), (.int (5 : Int32))])) (fun t k => XS.iconst X0.here hx rfl (hb hby own_d1_18) k) ?_
  refine own_st (V := s₁.setTop (mkF m 26 #[.val (.int (5 : Int32))] [])) (fun t k => XS.icmpYes X0.here hx rfl (pc0 := 19) (pc' := 26) rfl (hb hby own_d1_19) rfl (feq (by decide : ¬ ((5 : Int32) = (2 : Int32)))).2 (by decide) (by decide) k) ?_
  refine own_st (V := s₁.setTop (mkF m 27 #[.val (.int (5 : Int32))] [(.int (5 : Int32))])) (fun t k => XS.iloadN X0.here hx rfl (hb hby own_d1_26) rfl k) ?_
  refine own_st (V := s₁.setTop (mkF m 28 #[.val (.int (5 : Int32))] [(.int (3 : Int32)), (.int (5 : Int32))])) (fun t k => XS.iconst X0.here hx rfl (hb hby own_d1_27) k) ?_
  refine own_st (V := s₁.setTop (mkF m 35 #[.val (.int (5 : Int32))] [])) (fun t k => XS.icmpYes X0.here hx rfl (pc0 := 28) (pc' := 35) rfl (hb hby own_d1_28) rfl (feq (by decide : ¬ ((5 : Int32) = (3 : Int32)))).2 (by decide) (by decide) k) ?_
  refine own_st (V := s₁.setTop (mkF m 36 #[.val (.int (5 : Int32))] [(.int (5 : Int32))])) (fun t k => XS.iloadN X0.here hx rfl (hb hby own_d1_35) rfl k) ?_
  refine own_st (V := s₁.setTop (mkF m 37 #[.val (.int (5 : Int32))] [(.int (4 : Int32)), (.int (5 : Int32))])) (fun t k => XS.iconst X0.here hx rfl (hb hby own_d1_36) k) ?_
  refine own_st (V := s₁.setTop (mkF m 44 #[.val (.int (5 : Int32))] [])) (fun t k => XS.icmpYes X0.here hx rfl (pc0 := 37) (pc' := 44) rfl (hb hby own_d1_37) rfl (feq (by decide : ¬ ((5 : Int32) = (4 : Int32)))).2 (by decide) (by decide) k) ?_
  refine own_st (V := s₁.setTop (mkF m 45 #[.val (.int (5 : Int32))] [(.int (5 : Int32))])) (fun t k => XS.iloadN X0.here hx rfl (hb hby own_d1_44) rfl k) ?_
  refine own_st (V := s₁.setTop (mkF m 46 #[.val (.int (5 : Int32))] [(.int (5 : Int32)), (.int (5 : Int32))])) (fun t k => XS.iconst X0.here hx rfl (hb hby own_d1_45) k) ?_
  refine own_st (V := s₁.setTop (mkF m 49 #[.val (.int (5 : Int32))] [])) (fun t k => XS.icmpNo X0.here hx rfl (hb hby own_d1_46) rfl (teq (by decide : (5 : Int32) = (5 : Int32))).2 k) ?_
  obtain ⟨T11, X11, e11, st11⟩ := getS2 X0 hx hZ hown (host := "") (Or.inl (hw _ (List.mem_of_getElem? (i := 28) rfl))) Via.refl e0 (own_S En 5 (i := 5) (n := "FIND_COORDINATOR") rfl) (g := (mkF m 49 #[.val (.int (5 : Int32))] [])) rfl (hb hby own_d1_49)
  refine own_st (V := T11.setTop (mkF m 52 #[.val (.int (5 : Int32))] [(.ref (A 5))])) (fun t k => st11 _ k) ?_
  exact own_ret X11 hx hlk Bd.returns rfl (Or.inr (Or.inr (Or.inr (Or.inr ⟨rfl, rfl, rfl⟩)))) (hb hby own_d1_52) (by decide) (by decide) (by show Q_own_pick5 Z A h0 n0 _ T11.heap _; rw [e11]; exact ⟨rfl, N0, rfl⟩)
def Q_own_em5 (Z : State)  (h0 : Heap) (n0 : Nat) (v : Option Value) (h : Heap) (L : List Loc) : Prop := v = some (.int (2 : Int32)) ∧ Fr n0 L ∧ h = h0
theorem own_d2_34 : decode method_4_code 34 = .ok (.iload_n 0, 1) := by decide +kernel
theorem own_d2_35 : decode method_4_code 35 = .ok (.iconst 5, 1) := by decide +kernel
theorem own_d2_36 : decode method_4_code 36 = .ok (.if_icmp .ne 5, 3) := by decide +kernel
theorem own_d2_39 : decode method_4_code 39 = .ok (.iconst 2, 1) := by decide +kernel
theorem own_d2_40 : decode method_4_code 40 = .ok (.ireturn, 1) := by decide +kernel
set_option maxRecDepth 65536 in
set_option maxHeartbeats 40000000 in
theorem own_em5 (l : Launch) (Z : State) (a0 : Array Value) (hw : ∀ d ∈ tables_1, d.before a0 Z = true) (ws : List Jvm.Cond)  (h0 : Heap) (n0 : Nat) (Z0 : n0 ≤ h0.size) :
    MetFree l (⟨"com/example/bhaga/bhaga/wire/ApiServesPinLaw", "expectedMax", "(I)I"⟩ : MethodName) (head1 (Jvm.Cond.code (⟨"com/example/bhaga/bhaga/wire/ApiServesPinLaw", "expectedMax", "(I)I"⟩ : MethodName) method_4_code 1 (some .int) :: ws) ({ frames := 0, cells := 0, slots := 0, locals := 0 } : Room)) (fun a U => a = #[(.int (5 : Int32))] ∧ Z.Warmed39 U.vm ∧ U.heap = h0) (fun _ _ _ _ _ => True) (fun _ U o U' => ∃ v L, o = .returned v ∧ Q_own_em5 Z  h0 n0 v U'.heap L ∧ FrameEnd U o U' L ({ frames := 0, cells := 0, slots := 0, locals := 0 } : Room).cells ({ frames := 0, cells := 0, slots := 0, locals := 0 } : Room).slots) := by
  refine MetFree.of_bodySF (plainFor_of_name own_pn_com_example_bhaga_bhaga_wire_ApiServesPinLaw) hisR ?_
  intro p e s m args below meth c s₁ Bd hml0 hP hK
  obtain ⟨rfl, hZ, hh⟩ := hP
  have hx := Bd.exec
  have hby := Bd.bytes
  have hml : c.maxLocals = 1 := hml0
  have hown : s.vm.findClass "com/example/bhaga/bhaga/wire/ApiServesPinLaw" = some m.cls := findClass_of_methodNamed Bd.named
  have hnm := (name_of_methodNamed Bd.named Bd.method).1
  have hlk : meth.locks = false := BodyLoose.notSynchronized Bd
  have X0 : Stand p l e ({ frames := 0, cells := 0, slots := 0, locals := 0 } : Room) s m #[(.int (5 : Int32))] below meth c s₁ [] 0 0 := Stand.of_body Bd
  have e0 : s₁.heap = h0 := by rw [← hh, Bd.state]; rfl
  have N0 := Fr.nil n0
  show own_Go p e below #[(.int (5 : Int32))] s (fun _ U o U' => ∃ v L, o = .returned v ∧ Q_own_em5 Z  h0 n0 v U'.heap L ∧ FrameEnd U o U' L ({ frames := 0, cells := 0, slots := 0, locals := 0 } : Room).cells ({ frames := 0, cells := 0, slots := 0, locals := 0 } : Room).slots) (s₁.setTop (entryFrame m #[(.int (5 : Int32))] 1))
  refine own_st (V := s₁.setTop (mkF m 0 #[.val (.int (5 : Int32))] [])) (fun t k => castTop (by first | (simp [entryFrame, mkF, argsToLocals, Value.category]; done) | rfl) k) ?_
  refine own_st (V := s₁.setTop (mkF m 1 #[.val (.int (5 : Int32))] [(.int (5 : Int32))])) (fun t k => XS.iloadN X0.here hx rfl (hb hby own_d2_0) rfl k) ?_
  refine own_st (V := s₁.setTop (mkF m 6 #[.val (.int (5 : Int32))] [])) (fun t k => XS.ifYes X0.here hx rfl (pc0 := 1) (pc' := 6) rfl (hb hby own_d2_1) rfl ((if0 _ _).trans (feq (by decide : ¬ ((5 : Int32) = (0 : Int32)))).2) (by decide) (by decide) k) ?_
  refine own_st (V := s₁.setTop (mkF m 7 #[.val (.int (5 : Int32))] [(.int (5 : Int32))])) (fun t k => XS.iloadN X0.here hx rfl (hb hby own_d2_6) rfl k) ?_
  refine own_st (V := s₁.setTop (mkF m 8 #[.val (.int (5 : Int32))] [(.int (1 : Int32)), (.int (5 : Int32))])) (fun t k => XS.iconst X0.here hx rfl (hb hby own_d2_7) k) ?_
  refine own_st (V := s₁.setTop (mkF m 13 #[.val (.int (5 : Int32))] [])) (fun t k => XS.icmpYes X0.here hx rfl (pc0 := 8) (pc' := 13) rfl (hb hby own_d2_8) rfl (feq (by decide : ¬ ((5 : Int32) = (1 : Int32)))).2 (by decide) (by decide) k) ?_
  refine own_st (V := s₁.setTop (mkF m 14 #[.val (.int (5 : Int32))] [(.int (5 : Int32))])) (fun t k => XS.iloadN X0.here hx rfl (hb hby own_d2_13) rfl k) ?_
  refine own_st (V := s₁.setTop (mkF m 15 #[.val (.int (5 : Int32))] [(.int (2 : Int32)), (.int (5 : Int32))])) (fun t k => XS.iconst X0.here hx rfl (hb hby own_d2_14) k) ?_
  refine own_st (V := s₁.setTop (mkF m 20 #[.val (.int (5 : Int32))] [])) (fun t k => XS.icmpYes X0.here hx rfl (pc0 := 15) (pc' := 20) rfl (hb hby own_d2_15) rfl (feq (by decide : ¬ ((5 : Int32) = (2 : Int32)))).2 (by decide) (by decide) k) ?_
  refine own_st (V := s₁.setTop (mkF m 21 #[.val (.int (5 : Int32))] [(.int (5 : Int32))])) (fun t k => XS.iloadN X0.here hx rfl (hb hby own_d2_20) rfl k) ?_
  refine own_st (V := s₁.setTop (mkF m 22 #[.val (.int (5 : Int32))] [(.int (3 : Int32)), (.int (5 : Int32))])) (fun t k => XS.iconst X0.here hx rfl (hb hby own_d2_21) k) ?_
  refine own_st (V := s₁.setTop (mkF m 27 #[.val (.int (5 : Int32))] [])) (fun t k => XS.icmpYes X0.here hx rfl (pc0 := 22) (pc' := 27) rfl (hb hby own_d2_22) rfl (feq (by decide : ¬ ((5 : Int32) = (3 : Int32)))).2 (by decide) (by decide) k) ?_
  refine own_st (V := s₁.setTop (mkF m 28 #[.val (.int (5 : Int32))] [(.int (5 : Int32))])) (fun t k => XS.iloadN X0.here hx rfl (hb hby own_d2_27) rfl k) ?_
  refine own_st (V := s₁.setTop (mkF m 29 #[.val (.int (5 : Int32))] [(.int (4 : Int32)), (.int (5 : Int32))])) (fun t k => XS.iconst X0.here hx rfl (hb hby own_d2_28) k) ?_
  refine own_st (V := s₁.setTop (mkF m 34 #[.val (.int (5 : Int32))] [])) (fun t k => XS.icmpYes X0.here hx rfl (pc0 := 29) (pc' := 34) rfl (hb hby own_d2_29) rfl (feq (by decide : ¬ ((5 : Int32) = (4 : Int32)))).2 (by decide) (by decide) k) ?_
  refine own_st (V := s₁.setTop (mkF m 35 #[.val (.int (5 : Int32))] [(.int (5 : Int32))])) (fun t k => XS.iloadN X0.here hx rfl (hb hby own_d2_34) rfl k) ?_
  refine own_st (V := s₁.setTop (mkF m 36 #[.val (.int (5 : Int32))] [(.int (5 : Int32)), (.int (5 : Int32))])) (fun t k => XS.iconst X0.here hx rfl (hb hby own_d2_35) k) ?_
  refine own_st (V := s₁.setTop (mkF m 39 #[.val (.int (5 : Int32))] [])) (fun t k => XS.icmpNo X0.here hx rfl (hb hby own_d2_36) rfl (teq (by decide : (5 : Int32) = (5 : Int32))).2 k) ?_
  refine own_st (V := s₁.setTop (mkF m 40 #[.val (.int (5 : Int32))] [(.int (2 : Int32))])) (fun t k => XS.iconst X0.here hx rfl (hb hby own_d2_39) k) ?_
  exact own_ret X0 hx hlk Bd.returns rfl (Or.inl ⟨rfl, by simp, _, rfl⟩) (hb hby own_d2_40) (by decide) (by decide) (by show Q_own_em5 Z  h0 n0 _ s₁.heap _; rw [e0]; exact ⟨rfl, N0, rfl⟩)
def Q_own_pick6 (Z : State) (A : Nat → Addr) (h0 : Heap) (n0 : Nat) (v : Option Value) (h : Heap) (L : List Loc) : Prop := v = some (.ref (A 6)) ∧ Fr n0 L ∧ h = h0
theorem own_d1_53 : decode method_3_code 53 = .ok (.iload_n 0, 1) := by decide +kernel
theorem own_d1_54 : decode method_3_code 54 = .ok (.bipush 6, 2) := by decide +kernel
theorem own_d1_56 : decode method_3_code 56 = .ok (.if_icmp .ne 7, 3) := by decide +kernel
theorem own_d1_59 : decode method_3_code 59 = .ok (.getstatic 43, 3) := by decide +kernel
theorem own_d1_62 : decode method_3_code 62 = .ok (.areturn, 1) := by decide +kernel
set_option maxRecDepth 65536 in
set_option maxHeartbeats 40000000 in
theorem own_pick6 (l : Launch) (Z : State) (a0 : Array Value) (hw : ∀ d ∈ tables_1, d.before a0 Z = true) (ws : List Jvm.Cond) (A : Nat → Addr) (h0 : Heap) (n0 : Nat) (Z0 : n0 ≤ h0.size) (En : own_En Z h0 A) :
    MetFree l (⟨"com/example/bhaga/bhaga/wire/ApiServesPinLaw", "pick", "(I)Lcom/example/bhaga/bhaga/wire/Api;"⟩ : MethodName) (head1 (Jvm.Cond.code (⟨"com/example/bhaga/bhaga/wire/ApiServesPinLaw", "pick", "(I)Lcom/example/bhaga/bhaga/wire/Api;"⟩ : MethodName) method_3_code 1 (some (.object "com/example/bhaga/bhaga/wire/Api")) :: ws) ({ frames := 0, cells := 0, slots := 0, locals := 0 } : Room)) (fun a U => a = #[(.int (6 : Int32))] ∧ Z.Warmed39 U.vm ∧ U.heap = h0) (fun _ _ _ _ _ => True) (fun _ U o U' => ∃ v L, o = .returned v ∧ Q_own_pick6 Z A h0 n0 v U'.heap L ∧ FrameEnd U o U' L ({ frames := 0, cells := 0, slots := 0, locals := 0 } : Room).cells ({ frames := 0, cells := 0, slots := 0, locals := 0 } : Room).slots) := by
  refine MetFree.of_bodySF (plainFor_of_name own_pn_com_example_bhaga_bhaga_wire_ApiServesPinLaw) hisR ?_
  intro p e s m args below meth c s₁ Bd hml0 hP hK
  obtain ⟨rfl, hZ, hh⟩ := hP
  have hx := Bd.exec
  have hby := Bd.bytes
  have hml : c.maxLocals = 1 := hml0
  have hown : s.vm.findClass "com/example/bhaga/bhaga/wire/ApiServesPinLaw" = some m.cls := findClass_of_methodNamed Bd.named
  have hnm := (name_of_methodNamed Bd.named Bd.method).1
  have hlk : meth.locks = false := BodyLoose.notSynchronized Bd
  have X0 : Stand p l e ({ frames := 0, cells := 0, slots := 0, locals := 0 } : Room) s m #[(.int (6 : Int32))] below meth c s₁ [] 0 0 := Stand.of_body Bd
  have e0 : s₁.heap = h0 := by rw [← hh, Bd.state]; rfl
  have N0 := Fr.nil n0
  show own_Go p e below #[(.int (6 : Int32))] s (fun _ U o U' => ∃ v L, o = .returned v ∧ Q_own_pick6 Z A h0 n0 v U'.heap L ∧ FrameEnd U o U' L ({ frames := 0, cells := 0, slots := 0, locals := 0 } : Room).cells ({ frames := 0, cells := 0, slots := 0, locals := 0 } : Room).slots) (s₁.setTop (entryFrame m #[(.int (6 : Int32))] 1))
  refine own_st (V := s₁.setTop (mkF m 0 #[.val (.int (6 : Int32))] [])) (fun t k => castTop (by first | (simp [entryFrame, mkF, argsToLocals, Value.category]; done) | rfl) k) ?_
  refine own_st (V := s₁.setTop (mkF m 1 #[.val (.int (6 : Int32))] [(.int (6 : Int32))])) (fun t k => XS.iloadN X0.here hx rfl (hb hby own_d1_0) rfl k) ?_
  refine own_st (V := s₁.setTop (mkF m 8 #[.val (.int (6 : Int32))] [])) (fun t k => XS.ifYes X0.here hx rfl (pc0 := 1) (pc' := 8) rfl (hb hby own_d1_1) rfl ((if0 _ _).trans (feq (by decide : ¬ ((6 : Int32) = (0 : Int32)))).2) (by decide) (by decide) k) ?_
  refine own_st (V := s₁.setTop (mkF m 9 #[.val (.int (6 : Int32))] [(.int (6 : Int32))])) (fun t k => XS.iloadN X0.here hx rfl (hb hby own_d1_8) rfl k) ?_
  refine own_st (V := s₁.setTop (mkF m 10 #[.val (.int (6 : Int32))] [(.int (1 : Int32)), (.int (6 : Int32))])) (fun t k => XS.iconst X0.here hx rfl (hb hby own_d1_9) k) ?_
  refine own_st (V := s₁.setTop (mkF m 17 #[.val (.int (6 : Int32))] [])) (fun t k => XS.icmpYes X0.here hx rfl (pc0 := 10) (pc' := 17) rfl (hb hby own_d1_10) rfl (feq (by decide : ¬ ((6 : Int32) = (1 : Int32)))).2 (by decide) (by decide) k) ?_
  refine own_st (V := s₁.setTop (mkF m 18 #[.val (.int (6 : Int32))] [(.int (6 : Int32))])) (fun t k => XS.iloadN X0.here hx rfl (hb hby own_d1_17) rfl k) ?_
  refine own_st (V := s₁.setTop (mkF m 19 #[.val (.int (6 : Int32))] [(.int (2 : Int32)), (.int (6 : Int32))])) (fun t k => XS.iconst X0.here hx rfl (hb hby own_d1_18) k) ?_
  refine own_st (V := s₁.setTop (mkF m 26 #[.val (.int (6 : Int32))] [])) (fun t k => XS.icmpYes X0.here hx rfl (pc0 := 19) (pc' := 26) rfl (hb hby own_d1_19) rfl (feq (by decide : ¬ ((6 : Int32) = (2 : Int32)))).2 (by decide) (by decide) k) ?_
  refine own_st (V := s₁.setTop (mkF m 27 #[.val (.int (6 : Int32))] [(.int (6 : Int32))])) (fun t k => XS.iloadN X0.here hx rfl (hb hby own_d1_26) rfl k) ?_
  refine own_st (V := s₁.setTop (mkF m 28 #[.val (.int (6 : Int32))] [(.int (3 : Int32)), (.int (6 : Int32))])) (fun t k => XS.iconst X0.here hx rfl (hb hby own_d1_27) k) ?_
  refine own_st (V := s₁.setTop (mkF m 35 #[.val (.int (6 : Int32))] [])) (fun t k => XS.icmpYes X0.here hx rfl (pc0 := 28) (pc' := 35) rfl (hb hby own_d1_28) rfl (feq (by decide : ¬ ((6 : Int32) = (3 : Int32)))).2 (by decide) (by decide) k) ?_
  refine own_st (V := s₁.setTop (mkF m 36 #[.val (.int (6 : Int32))] [(.int (6 : Int32))])) (fun t k => XS.iloadN X0.here hx rfl (hb hby own_d1_35) rfl k) ?_
  refine own_st (V := s₁.setTop (mkF m 37 #[.val (.int (6 : Int32))] [(.int (4 : Int32)), (.int (6 : Int32))])) (fun t k => XS.iconst X0.here hx rfl (hb hby own_d1_36) k) ?_
  refine own_st (V := s₁.setTop (mkF m 44 #[.val (.int (6 : Int32))] [])) (fun t k => XS.icmpYes X0.here hx rfl (pc0 := 37) (pc' := 44) rfl (hb hby own_d1_37) rfl (feq (by decide : ¬ ((6 : Int32) = (4 : Int32)))).2 (by decide) (by decide) k) ?_
  refine own_st (V := s₁.setTop (mkF m 45 #[.val (.int (6 : Int32))] [(.int (6 : Int32))])) (fun t k => XS.iloadN X0.here hx rfl (hb hby own_d1_44) rfl k) ?_
  refine own_st (V := s₁.setTop (mkF m 46 #[.val (.int (6 : Int32))] [(.int (5 : Int32)), (.int (6 : Int32))])) (fun t k => XS.iconst X0.here hx rfl (hb hby own_d1_45) k) ?_
  refine own_st (V := s₁.setTop (mkF m 53 #[.val (.int (6 : Int32))] [])) (fun t k => XS.icmpYes X0.here hx rfl (pc0 := 46) (pc' := 53) rfl (hb hby own_d1_46) rfl (feq (by decide : ¬ ((6 : Int32) = (5 : Int32)))).2 (by decide) (by decide) k) ?_
  refine own_st (V := s₁.setTop (mkF m 54 #[.val (.int (6 : Int32))] [(.int (6 : Int32))])) (fun t k => XS.iloadN X0.here hx rfl (hb hby own_d1_53) rfl k) ?_
  refine own_st (V := s₁.setTop (mkF m 56 #[.val (.int (6 : Int32))] [(.int (6 : Int32)), (.int (6 : Int32))])) (fun t k => XS.bipush X0.here hx rfl (hb hby own_d1_54) k) ?_
  refine own_st (V := s₁.setTop (mkF m 59 #[.val (.int (6 : Int32))] [])) (fun t k => XS.icmpNo X0.here hx rfl (hb hby own_d1_56) rfl (teq (by decide : (6 : Int32) = (6 : Int32))).2 k) ?_
  obtain ⟨T12, X12, e12, st12⟩ := getS2 X0 hx hZ hown (host := "") (Or.inl (hw _ (List.mem_of_getElem? (i := 30) rfl))) Via.refl e0 (own_S En 6 (i := 6) (n := "JOIN_GROUP") rfl) (g := (mkF m 59 #[.val (.int (6 : Int32))] [])) rfl (hb hby own_d1_59)
  refine own_st (V := T12.setTop (mkF m 62 #[.val (.int (6 : Int32))] [(.ref (A 6))])) (fun t k => st12 _ k) ?_
  exact own_ret X12 hx hlk Bd.returns rfl (Or.inr (Or.inr (Or.inr (Or.inr ⟨rfl, rfl, rfl⟩)))) (hb hby own_d1_62) (by decide) (by decide) (by show Q_own_pick6 Z A h0 n0 _ T12.heap _; rw [e12]; exact ⟨rfl, N0, rfl⟩)
def Q_own_em6 (Z : State)  (h0 : Heap) (n0 : Nat) (v : Option Value) (h : Heap) (L : List Loc) : Prop := v = some (.int (3 : Int32)) ∧ Fr n0 L ∧ h = h0
theorem own_d2_41 : decode method_4_code 41 = .ok (.iload_n 0, 1) := by decide +kernel
theorem own_d2_42 : decode method_4_code 42 = .ok (.bipush 6, 2) := by decide +kernel
theorem own_d2_44 : decode method_4_code 44 = .ok (.if_icmp .ne 5, 3) := by decide +kernel
theorem own_d2_47 : decode method_4_code 47 = .ok (.iconst 3, 1) := by decide +kernel
theorem own_d2_48 : decode method_4_code 48 = .ok (.ireturn, 1) := by decide +kernel
set_option maxRecDepth 65536 in
set_option maxHeartbeats 40000000 in
theorem own_em6 (l : Launch) (Z : State) (a0 : Array Value) (hw : ∀ d ∈ tables_1, d.before a0 Z = true) (ws : List Jvm.Cond)  (h0 : Heap) (n0 : Nat) (Z0 : n0 ≤ h0.size) :
    MetFree l (⟨"com/example/bhaga/bhaga/wire/ApiServesPinLaw", "expectedMax", "(I)I"⟩ : MethodName) (head1 (Jvm.Cond.code (⟨"com/example/bhaga/bhaga/wire/ApiServesPinLaw", "expectedMax", "(I)I"⟩ : MethodName) method_4_code 1 (some .int) :: ws) ({ frames := 0, cells := 0, slots := 0, locals := 0 } : Room)) (fun a U => a = #[(.int (6 : Int32))] ∧ Z.Warmed39 U.vm ∧ U.heap = h0) (fun _ _ _ _ _ => True) (fun _ U o U' => ∃ v L, o = .returned v ∧ Q_own_em6 Z  h0 n0 v U'.heap L ∧ FrameEnd U o U' L ({ frames := 0, cells := 0, slots := 0, locals := 0 } : Room).cells ({ frames := 0, cells := 0, slots := 0, locals := 0 } : Room).slots) := by
  refine MetFree.of_bodySF (plainFor_of_name own_pn_com_example_bhaga_bhaga_wire_ApiServesPinLaw) hisR ?_
  intro p e s m args below meth c s₁ Bd hml0 hP hK
  obtain ⟨rfl, hZ, hh⟩ := hP
  have hx := Bd.exec
  have hby := Bd.bytes
  have hml : c.maxLocals = 1 := hml0
  have hown : s.vm.findClass "com/example/bhaga/bhaga/wire/ApiServesPinLaw" = some m.cls := findClass_of_methodNamed Bd.named
  have hnm := (name_of_methodNamed Bd.named Bd.method).1
  have hlk : meth.locks = false := BodyLoose.notSynchronized Bd
  have X0 : Stand p l e ({ frames := 0, cells := 0, slots := 0, locals := 0 } : Room) s m #[(.int (6 : Int32))] below meth c s₁ [] 0 0 := Stand.of_body Bd
  have e0 : s₁.heap = h0 := by rw [← hh, Bd.state]; rfl
  have N0 := Fr.nil n0
  show own_Go p e below #[(.int (6 : Int32))] s (fun _ U o U' => ∃ v L, o = .returned v ∧ Q_own_em6 Z  h0 n0 v U'.heap L ∧ FrameEnd U o U' L ({ frames := 0, cells := 0, slots := 0, locals := 0 } : Room).cells ({ frames := 0, cells := 0, slots := 0, locals := 0 } : Room).slots) (s₁.setTop (entryFrame m #[(.int (6 : Int32))] 1))
  refine own_st (V := s₁.setTop (mkF m 0 #[.val (.int (6 : Int32))] [])) (fun t k => castTop (by first | (simp [entryFrame, mkF, argsToLocals, Value.category]; done) | rfl) k) ?_
  refine own_st (V := s₁.setTop (mkF m 1 #[.val (.int (6 : Int32))] [(.int (6 : Int32))])) (fun t k => XS.iloadN X0.here hx rfl (hb hby own_d2_0) rfl k) ?_
  refine own_st (V := s₁.setTop (mkF m 6 #[.val (.int (6 : Int32))] [])) (fun t k => XS.ifYes X0.here hx rfl (pc0 := 1) (pc' := 6) rfl (hb hby own_d2_1) rfl ((if0 _ _).trans (feq (by decide : ¬ ((6 : Int32) = (0 : Int32)))).2) (by decide) (by decide) k) ?_
  refine own_st (V := s₁.setTop (mkF m 7 #[.val (.int (6 : Int32))] [(.int (6 : Int32))])) (fun t k => XS.iloadN X0.here hx rfl (hb hby own_d2_6) rfl k) ?_
  refine own_st (V := s₁.setTop (mkF m 8 #[.val (.int (6 : Int32))] [(.int (1 : Int32)), (.int (6 : Int32))])) (fun t k => XS.iconst X0.here hx rfl (hb hby own_d2_7) k) ?_
  refine own_st (V := s₁.setTop (mkF m 13 #[.val (.int (6 : Int32))] [])) (fun t k => XS.icmpYes X0.here hx rfl (pc0 := 8) (pc' := 13) rfl (hb hby own_d2_8) rfl (feq (by decide : ¬ ((6 : Int32) = (1 : Int32)))).2 (by decide) (by decide) k) ?_
  refine own_st (V := s₁.setTop (mkF m 14 #[.val (.int (6 : Int32))] [(.int (6 : Int32))])) (fun t k => XS.iloadN X0.here hx rfl (hb hby own_d2_13) rfl k) ?_
  refine own_st (V := s₁.setTop (mkF m 15 #[.val (.int (6 : Int32))] [(.int (2 : Int32)), (.int (6 : Int32))])) (fun t k => XS.iconst X0.here hx rfl (hb hby own_d2_14) k) ?_
  refine own_st (V := s₁.setTop (mkF m 20 #[.val (.int (6 : Int32))] [])) (fun t k => XS.icmpYes X0.here hx rfl (pc0 := 15) (pc' := 20) rfl (hb hby own_d2_15) rfl (feq (by decide : ¬ ((6 : Int32) = (2 : Int32)))).2 (by decide) (by decide) k) ?_
  refine own_st (V := s₁.setTop (mkF m 21 #[.val (.int (6 : Int32))] [(.int (6 : Int32))])) (fun t k => XS.iloadN X0.here hx rfl (hb hby own_d2_20) rfl k) ?_
  refine own_st (V := s₁.setTop (mkF m 22 #[.val (.int (6 : Int32))] [(.int (3 : Int32)), (.int (6 : Int32))])) (fun t k => XS.iconst X0.here hx rfl (hb hby own_d2_21) k) ?_
  refine own_st (V := s₁.setTop (mkF m 27 #[.val (.int (6 : Int32))] [])) (fun t k => XS.icmpYes X0.here hx rfl (pc0 := 22) (pc' := 27) rfl (hb hby own_d2_22) rfl (feq (by decide : ¬ ((6 : Int32) = (3 : Int32)))).2 (by decide) (by decide) k) ?_
  refine own_st (V := s₁.setTop (mkF m 28 #[.val (.int (6 : Int32))] [(.int (6 : Int32))])) (fun t k => XS.iloadN X0.here hx rfl (hb hby own_d2_27) rfl k) ?_
  refine own_st (V := s₁.setTop (mkF m 29 #[.val (.int (6 : Int32))] [(.int (4 : Int32)), (.int (6 : Int32))])) (fun t k => XS.iconst X0.here hx rfl (hb hby own_d2_28) k) ?_
  refine own_st (V := s₁.setTop (mkF m 34 #[.val (.int (6 : Int32))] [])) (fun t k => XS.icmpYes X0.here hx rfl (pc0 := 29) (pc' := 34) rfl (hb hby own_d2_29) rfl (feq (by decide : ¬ ((6 : Int32) = (4 : Int32)))).2 (by decide) (by decide) k) ?_
  refine own_st (V := s₁.setTop (mkF m 35 #[.val (.int (6 : Int32))] [(.int (6 : Int32))])) (fun t k => XS.iloadN X0.here hx rfl (hb hby own_d2_34) rfl k) ?_
  refine own_st (V := s₁.setTop (mkF m 36 #[.val (.int (6 : Int32))] [(.int (5 : Int32)), (.int (6 : Int32))])) (fun t k => XS.iconst X0.here hx rfl (hb hby own_d2_35) k) ?_
  refine own_st (V := s₁.setTop (mkF m 41 #[.val (.int (6 : Int32))] [])) (fun t k => XS.icmpYes X0.here hx rfl (pc0 := 36) (pc' := 41) rfl (hb hby own_d2_36) rfl (feq (by decide : ¬ ((6 : Int32) = (5 : Int32)))).2 (by decide) (by decide) k) ?_
  refine own_st (V := s₁.setTop (mkF m 42 #[.val (.int (6 : Int32))] [(.int (6 : Int32))])) (fun t k => XS.iloadN X0.here hx rfl (hb hby own_d2_41) rfl k) ?_
  refine own_st (V := s₁.setTop (mkF m 44 #[.val (.int (6 : Int32))] [(.int (6 : Int32)), (.int (6 : Int32))])) (fun t k => XS.bipush X0.here hx rfl (hb hby own_d2_42) k) ?_
  refine own_st (V := s₁.setTop (mkF m 47 #[.val (.int (6 : Int32))] [])) (fun t k => XS.icmpNo X0.here hx rfl (hb hby own_d2_44) rfl (teq (by decide : (6 : Int32) = (6 : Int32))).2 k) ?_
  refine own_st (V := s₁.setTop (mkF m 48 #[.val (.int (6 : Int32))] [(.int (3 : Int32))])) (fun t k => XS.iconst X0.here hx rfl (hb hby own_d2_47) k) ?_
  exact own_ret X0 hx hlk Bd.returns rfl (Or.inl ⟨rfl, by simp, _, rfl⟩) (hb hby own_d2_48) (by decide) (by decide) (by show Q_own_em6 Z  h0 n0 _ s₁.heap _; rw [e0]; exact ⟨rfl, N0, rfl⟩)
def Q_own_pick7 (Z : State) (A : Nat → Addr) (h0 : Heap) (n0 : Nat) (v : Option Value) (h : Heap) (L : List Loc) : Prop := v = some (.ref (A 7)) ∧ Fr n0 L ∧ h = h0
theorem own_d1_63 : decode method_3_code 63 = .ok (.iload_n 0, 1) := by decide +kernel
theorem own_d1_64 : decode method_3_code 64 = .ok (.bipush 7, 2) := by decide +kernel
theorem own_d1_66 : decode method_3_code 66 = .ok (.if_icmp .ne 7, 3) := by decide +kernel
theorem own_d1_69 : decode method_3_code 69 = .ok (.getstatic 46, 3) := by decide +kernel
theorem own_d1_72 : decode method_3_code 72 = .ok (.areturn, 1) := by decide +kernel
set_option maxRecDepth 65536 in
set_option maxHeartbeats 40000000 in
theorem own_pick7 (l : Launch) (Z : State) (a0 : Array Value) (hw : ∀ d ∈ tables_1, d.before a0 Z = true) (ws : List Jvm.Cond) (A : Nat → Addr) (h0 : Heap) (n0 : Nat) (Z0 : n0 ≤ h0.size) (En : own_En Z h0 A) :
    MetFree l (⟨"com/example/bhaga/bhaga/wire/ApiServesPinLaw", "pick", "(I)Lcom/example/bhaga/bhaga/wire/Api;"⟩ : MethodName) (head1 (Jvm.Cond.code (⟨"com/example/bhaga/bhaga/wire/ApiServesPinLaw", "pick", "(I)Lcom/example/bhaga/bhaga/wire/Api;"⟩ : MethodName) method_3_code 1 (some (.object "com/example/bhaga/bhaga/wire/Api")) :: ws) ({ frames := 0, cells := 0, slots := 0, locals := 0 } : Room)) (fun a U => a = #[(.int (7 : Int32))] ∧ Z.Warmed39 U.vm ∧ U.heap = h0) (fun _ _ _ _ _ => True) (fun _ U o U' => ∃ v L, o = .returned v ∧ Q_own_pick7 Z A h0 n0 v U'.heap L ∧ FrameEnd U o U' L ({ frames := 0, cells := 0, slots := 0, locals := 0 } : Room).cells ({ frames := 0, cells := 0, slots := 0, locals := 0 } : Room).slots) := by
  refine MetFree.of_bodySF (plainFor_of_name own_pn_com_example_bhaga_bhaga_wire_ApiServesPinLaw) hisR ?_
  intro p e s m args below meth c s₁ Bd hml0 hP hK
  obtain ⟨rfl, hZ, hh⟩ := hP
  have hx := Bd.exec
  have hby := Bd.bytes
  have hml : c.maxLocals = 1 := hml0
  have hown : s.vm.findClass "com/example/bhaga/bhaga/wire/ApiServesPinLaw" = some m.cls := findClass_of_methodNamed Bd.named
  have hnm := (name_of_methodNamed Bd.named Bd.method).1
  have hlk : meth.locks = false := BodyLoose.notSynchronized Bd
  have X0 : Stand p l e ({ frames := 0, cells := 0, slots := 0, locals := 0 } : Room) s m #[(.int (7 : Int32))] below meth c s₁ [] 0 0 := Stand.of_body Bd
  have e0 : s₁.heap = h0 := by rw [← hh, Bd.state]; rfl
  have N0 := Fr.nil n0
  show own_Go p e below #[(.int (7 : Int32))] s (fun _ U o U' => ∃ v L, o = .returned v ∧ Q_own_pick7 Z A h0 n0 v U'.heap L ∧ FrameEnd U o U' L ({ frames := 0, cells := 0, slots := 0, locals := 0 } : Room).cells ({ frames := 0, cells := 0, slots := 0, locals := 0 } : Room).slots) (s₁.setTop (entryFrame m #[(.int (7 : Int32))] 1))
  refine own_st (V := s₁.setTop (mkF m 0 #[.val (.int (7 : Int32))] [])) (fun t k => castTop (by first | (simp [entryFrame, mkF, argsToLocals, Value.category]; done) | rfl) k) ?_
  refine own_st (V := s₁.setTop (mkF m 1 #[.val (.int (7 : Int32))] [(.int (7 : Int32))])) (fun t k => XS.iloadN X0.here hx rfl (hb hby own_d1_0) rfl k) ?_
  refine own_st (V := s₁.setTop (mkF m 8 #[.val (.int (7 : Int32))] [])) (fun t k => XS.ifYes X0.here hx rfl (pc0 := 1) (pc' := 8) rfl (hb hby own_d1_1) rfl ((if0 _ _).trans (feq (by decide : ¬ ((7 : Int32) = (0 : Int32)))).2) (by decide) (by decide) k) ?_
  refine own_st (V := s₁.setTop (mkF m 9 #[.val (.int (7 : Int32))] [(.int (7 : Int32))])) (fun t k => XS.iloadN X0.here hx rfl (hb hby own_d1_8) rfl k) ?_
  refine own_st (V := s₁.setTop (mkF m 10 #[.val (.int (7 : Int32))] [(.int (1 : Int32)), (.int (7 : Int32))])) (fun t k => XS.iconst X0.here hx rfl (hb hby own_d1_9) k) ?_
  refine own_st (V := s₁.setTop (mkF m 17 #[.val (.int (7 : Int32))] [])) (fun t k => XS.icmpYes X0.here hx rfl (pc0 := 10) (pc' := 17) rfl (hb hby own_d1_10) rfl (feq (by decide : ¬ ((7 : Int32) = (1 : Int32)))).2 (by decide) (by decide) k) ?_
  refine own_st (V := s₁.setTop (mkF m 18 #[.val (.int (7 : Int32))] [(.int (7 : Int32))])) (fun t k => XS.iloadN X0.here hx rfl (hb hby own_d1_17) rfl k) ?_
  refine own_st (V := s₁.setTop (mkF m 19 #[.val (.int (7 : Int32))] [(.int (2 : Int32)), (.int (7 : Int32))])) (fun t k => XS.iconst X0.here hx rfl (hb hby own_d1_18) k) ?_
  refine own_st (V := s₁.setTop (mkF m 26 #[.val (.int (7 : Int32))] [])) (fun t k => XS.icmpYes X0.here hx rfl (pc0 := 19) (pc' := 26) rfl (hb hby own_d1_19) rfl (feq (by decide : ¬ ((7 : Int32) = (2 : Int32)))).2 (by decide) (by decide) k) ?_
  refine own_st (V := s₁.setTop (mkF m 27 #[.val (.int (7 : Int32))] [(.int (7 : Int32))])) (fun t k => XS.iloadN X0.here hx rfl (hb hby own_d1_26) rfl k) ?_
  refine own_st (V := s₁.setTop (mkF m 28 #[.val (.int (7 : Int32))] [(.int (3 : Int32)), (.int (7 : Int32))])) (fun t k => XS.iconst X0.here hx rfl (hb hby own_d1_27) k) ?_
  refine own_st (V := s₁.setTop (mkF m 35 #[.val (.int (7 : Int32))] [])) (fun t k => XS.icmpYes X0.here hx rfl (pc0 := 28) (pc' := 35) rfl (hb hby own_d1_28) rfl (feq (by decide : ¬ ((7 : Int32) = (3 : Int32)))).2 (by decide) (by decide) k) ?_
  refine own_st (V := s₁.setTop (mkF m 36 #[.val (.int (7 : Int32))] [(.int (7 : Int32))])) (fun t k => XS.iloadN X0.here hx rfl (hb hby own_d1_35) rfl k) ?_
  refine own_st (V := s₁.setTop (mkF m 37 #[.val (.int (7 : Int32))] [(.int (4 : Int32)), (.int (7 : Int32))])) (fun t k => XS.iconst X0.here hx rfl (hb hby own_d1_36) k) ?_
  refine own_st (V := s₁.setTop (mkF m 44 #[.val (.int (7 : Int32))] [])) (fun t k => XS.icmpYes X0.here hx rfl (pc0 := 37) (pc' := 44) rfl (hb hby own_d1_37) rfl (feq (by decide : ¬ ((7 : Int32) = (4 : Int32)))).2 (by decide) (by decide) k) ?_
  refine own_st (V := s₁.setTop (mkF m 45 #[.val (.int (7 : Int32))] [(.int (7 : Int32))])) (fun t k => XS.iloadN X0.here hx rfl (hb hby own_d1_44) rfl k) ?_
  refine own_st (V := s₁.setTop (mkF m 46 #[.val (.int (7 : Int32))] [(.int (5 : Int32)), (.int (7 : Int32))])) (fun t k => XS.iconst X0.here hx rfl (hb hby own_d1_45) k) ?_
  refine own_st (V := s₁.setTop (mkF m 53 #[.val (.int (7 : Int32))] [])) (fun t k => XS.icmpYes X0.here hx rfl (pc0 := 46) (pc' := 53) rfl (hb hby own_d1_46) rfl (feq (by decide : ¬ ((7 : Int32) = (5 : Int32)))).2 (by decide) (by decide) k) ?_
  refine own_st (V := s₁.setTop (mkF m 54 #[.val (.int (7 : Int32))] [(.int (7 : Int32))])) (fun t k => XS.iloadN X0.here hx rfl (hb hby own_d1_53) rfl k) ?_
  refine own_st (V := s₁.setTop (mkF m 56 #[.val (.int (7 : Int32))] [(.int (6 : Int32)), (.int (7 : Int32))])) (fun t k => XS.bipush X0.here hx rfl (hb hby own_d1_54) k) ?_
  refine own_st (V := s₁.setTop (mkF m 63 #[.val (.int (7 : Int32))] [])) (fun t k => XS.icmpYes X0.here hx rfl (pc0 := 56) (pc' := 63) rfl (hb hby own_d1_56) rfl (feq (by decide : ¬ ((7 : Int32) = (6 : Int32)))).2 (by decide) (by decide) k) ?_
  refine own_st (V := s₁.setTop (mkF m 64 #[.val (.int (7 : Int32))] [(.int (7 : Int32))])) (fun t k => XS.iloadN X0.here hx rfl (hb hby own_d1_63) rfl k) ?_
  refine own_st (V := s₁.setTop (mkF m 66 #[.val (.int (7 : Int32))] [(.int (7 : Int32)), (.int (7 : Int32))])) (fun t k => XS.bipush X0.here hx rfl (hb hby own_d1_64) k) ?_
  refine own_st (V := s₁.setTop (mkF m 69 #[.val (.int (7 : Int32))] [])) (fun t k => XS.icmpNo X0.here hx rfl (hb hby own_d1_66) rfl (teq (by decide : (7 : Int32) = (7 : Int32))).2 k) ?_
  obtain ⟨T13, X13, e13, st13⟩ := getS2 X0 hx hZ hown (host := "") (Or.inl (hw _ (List.mem_of_getElem? (i := 42) rfl))) Via.refl e0 (own_S En 7 (i := 7) (n := "HEARTBEAT") rfl) (g := (mkF m 69 #[.val (.int (7 : Int32))] [])) rfl (hb hby own_d1_69)
  refine own_st (V := T13.setTop (mkF m 72 #[.val (.int (7 : Int32))] [(.ref (A 7))])) (fun t k => st13 _ k) ?_
  exact own_ret X13 hx hlk Bd.returns rfl (Or.inr (Or.inr (Or.inr (Or.inr ⟨rfl, rfl, rfl⟩)))) (hb hby own_d1_72) (by decide) (by decide) (by show Q_own_pick7 Z A h0 n0 _ T13.heap _; rw [e13]; exact ⟨rfl, N0, rfl⟩)
def Q_own_em7 (Z : State)  (h0 : Heap) (n0 : Nat) (v : Option Value) (h : Heap) (L : List Loc) : Prop := v = some (.int (2 : Int32)) ∧ Fr n0 L ∧ h = h0
theorem own_d2_49 : decode method_4_code 49 = .ok (.iload_n 0, 1) := by decide +kernel
theorem own_d2_50 : decode method_4_code 50 = .ok (.bipush 7, 2) := by decide +kernel
theorem own_d2_52 : decode method_4_code 52 = .ok (.if_icmp .ne 5, 3) := by decide +kernel
theorem own_d2_55 : decode method_4_code 55 = .ok (.iconst 2, 1) := by decide +kernel
theorem own_d2_56 : decode method_4_code 56 = .ok (.ireturn, 1) := by decide +kernel
set_option maxRecDepth 65536 in
set_option maxHeartbeats 40000000 in
theorem own_em7 (l : Launch) (Z : State) (a0 : Array Value) (hw : ∀ d ∈ tables_1, d.before a0 Z = true) (ws : List Jvm.Cond)  (h0 : Heap) (n0 : Nat) (Z0 : n0 ≤ h0.size) :
    MetFree l (⟨"com/example/bhaga/bhaga/wire/ApiServesPinLaw", "expectedMax", "(I)I"⟩ : MethodName) (head1 (Jvm.Cond.code (⟨"com/example/bhaga/bhaga/wire/ApiServesPinLaw", "expectedMax", "(I)I"⟩ : MethodName) method_4_code 1 (some .int) :: ws) ({ frames := 0, cells := 0, slots := 0, locals := 0 } : Room)) (fun a U => a = #[(.int (7 : Int32))] ∧ Z.Warmed39 U.vm ∧ U.heap = h0) (fun _ _ _ _ _ => True) (fun _ U o U' => ∃ v L, o = .returned v ∧ Q_own_em7 Z  h0 n0 v U'.heap L ∧ FrameEnd U o U' L ({ frames := 0, cells := 0, slots := 0, locals := 0 } : Room).cells ({ frames := 0, cells := 0, slots := 0, locals := 0 } : Room).slots) := by
  refine MetFree.of_bodySF (plainFor_of_name own_pn_com_example_bhaga_bhaga_wire_ApiServesPinLaw) hisR ?_
  intro p e s m args below meth c s₁ Bd hml0 hP hK
  obtain ⟨rfl, hZ, hh⟩ := hP
  have hx := Bd.exec
  have hby := Bd.bytes
  have hml : c.maxLocals = 1 := hml0
  have hown : s.vm.findClass "com/example/bhaga/bhaga/wire/ApiServesPinLaw" = some m.cls := findClass_of_methodNamed Bd.named
  have hnm := (name_of_methodNamed Bd.named Bd.method).1
  have hlk : meth.locks = false := BodyLoose.notSynchronized Bd
  have X0 : Stand p l e ({ frames := 0, cells := 0, slots := 0, locals := 0 } : Room) s m #[(.int (7 : Int32))] below meth c s₁ [] 0 0 := Stand.of_body Bd
  have e0 : s₁.heap = h0 := by rw [← hh, Bd.state]; rfl
  have N0 := Fr.nil n0
  show own_Go p e below #[(.int (7 : Int32))] s (fun _ U o U' => ∃ v L, o = .returned v ∧ Q_own_em7 Z  h0 n0 v U'.heap L ∧ FrameEnd U o U' L ({ frames := 0, cells := 0, slots := 0, locals := 0 } : Room).cells ({ frames := 0, cells := 0, slots := 0, locals := 0 } : Room).slots) (s₁.setTop (entryFrame m #[(.int (7 : Int32))] 1))
  refine own_st (V := s₁.setTop (mkF m 0 #[.val (.int (7 : Int32))] [])) (fun t k => castTop (by first | (simp [entryFrame, mkF, argsToLocals, Value.category]; done) | rfl) k) ?_
  refine own_st (V := s₁.setTop (mkF m 1 #[.val (.int (7 : Int32))] [(.int (7 : Int32))])) (fun t k => XS.iloadN X0.here hx rfl (hb hby own_d2_0) rfl k) ?_
  refine own_st (V := s₁.setTop (mkF m 6 #[.val (.int (7 : Int32))] [])) (fun t k => XS.ifYes X0.here hx rfl (pc0 := 1) (pc' := 6) rfl (hb hby own_d2_1) rfl ((if0 _ _).trans (feq (by decide : ¬ ((7 : Int32) = (0 : Int32)))).2) (by decide) (by decide) k) ?_
  refine own_st (V := s₁.setTop (mkF m 7 #[.val (.int (7 : Int32))] [(.int (7 : Int32))])) (fun t k => XS.iloadN X0.here hx rfl (hb hby own_d2_6) rfl k) ?_
  refine own_st (V := s₁.setTop (mkF m 8 #[.val (.int (7 : Int32))] [(.int (1 : Int32)), (.int (7 : Int32))])) (fun t k => XS.iconst X0.here hx rfl (hb hby own_d2_7) k) ?_
  refine own_st (V := s₁.setTop (mkF m 13 #[.val (.int (7 : Int32))] [])) (fun t k => XS.icmpYes X0.here hx rfl (pc0 := 8) (pc' := 13) rfl (hb hby own_d2_8) rfl (feq (by decide : ¬ ((7 : Int32) = (1 : Int32)))).2 (by decide) (by decide) k) ?_
  refine own_st (V := s₁.setTop (mkF m 14 #[.val (.int (7 : Int32))] [(.int (7 : Int32))])) (fun t k => XS.iloadN X0.here hx rfl (hb hby own_d2_13) rfl k) ?_
  refine own_st (V := s₁.setTop (mkF m 15 #[.val (.int (7 : Int32))] [(.int (2 : Int32)), (.int (7 : Int32))])) (fun t k => XS.iconst X0.here hx rfl (hb hby own_d2_14) k) ?_
  refine own_st (V := s₁.setTop (mkF m 20 #[.val (.int (7 : Int32))] [])) (fun t k => XS.icmpYes X0.here hx rfl (pc0 := 15) (pc' := 20) rfl (hb hby own_d2_15) rfl (feq (by decide : ¬ ((7 : Int32) = (2 : Int32)))).2 (by decide) (by decide) k) ?_
  refine own_st (V := s₁.setTop (mkF m 21 #[.val (.int (7 : Int32))] [(.int (7 : Int32))])) (fun t k => XS.iloadN X0.here hx rfl (hb hby own_d2_20) rfl k) ?_
  refine own_st (V := s₁.setTop (mkF m 22 #[.val (.int (7 : Int32))] [(.int (3 : Int32)), (.int (7 : Int32))])) (fun t k => XS.iconst X0.here hx rfl (hb hby own_d2_21) k) ?_
  refine own_st (V := s₁.setTop (mkF m 27 #[.val (.int (7 : Int32))] [])) (fun t k => XS.icmpYes X0.here hx rfl (pc0 := 22) (pc' := 27) rfl (hb hby own_d2_22) rfl (feq (by decide : ¬ ((7 : Int32) = (3 : Int32)))).2 (by decide) (by decide) k) ?_
  refine own_st (V := s₁.setTop (mkF m 28 #[.val (.int (7 : Int32))] [(.int (7 : Int32))])) (fun t k => XS.iloadN X0.here hx rfl (hb hby own_d2_27) rfl k) ?_
  refine own_st (V := s₁.setTop (mkF m 29 #[.val (.int (7 : Int32))] [(.int (4 : Int32)), (.int (7 : Int32))])) (fun t k => XS.iconst X0.here hx rfl (hb hby own_d2_28) k) ?_
  refine own_st (V := s₁.setTop (mkF m 34 #[.val (.int (7 : Int32))] [])) (fun t k => XS.icmpYes X0.here hx rfl (pc0 := 29) (pc' := 34) rfl (hb hby own_d2_29) rfl (feq (by decide : ¬ ((7 : Int32) = (4 : Int32)))).2 (by decide) (by decide) k) ?_
  refine own_st (V := s₁.setTop (mkF m 35 #[.val (.int (7 : Int32))] [(.int (7 : Int32))])) (fun t k => XS.iloadN X0.here hx rfl (hb hby own_d2_34) rfl k) ?_
  refine own_st (V := s₁.setTop (mkF m 36 #[.val (.int (7 : Int32))] [(.int (5 : Int32)), (.int (7 : Int32))])) (fun t k => XS.iconst X0.here hx rfl (hb hby own_d2_35) k) ?_
  refine own_st (V := s₁.setTop (mkF m 41 #[.val (.int (7 : Int32))] [])) (fun t k => XS.icmpYes X0.here hx rfl (pc0 := 36) (pc' := 41) rfl (hb hby own_d2_36) rfl (feq (by decide : ¬ ((7 : Int32) = (5 : Int32)))).2 (by decide) (by decide) k) ?_
  refine own_st (V := s₁.setTop (mkF m 42 #[.val (.int (7 : Int32))] [(.int (7 : Int32))])) (fun t k => XS.iloadN X0.here hx rfl (hb hby own_d2_41) rfl k) ?_
  refine own_st (V := s₁.setTop (mkF m 44 #[.val (.int (7 : Int32))] [(.int (6 : Int32)), (.int (7 : Int32))])) (fun t k => XS.bipush X0.here hx rfl (hb hby own_d2_42) k) ?_
  refine own_st (V := s₁.setTop (mkF m 49 #[.val (.int (7 : Int32))] [])) (fun t k => XS.icmpYes X0.here hx rfl (pc0 := 44) (pc' := 49) rfl (hb hby own_d2_44) rfl (feq (by decide : ¬ ((7 : Int32) = (6 : Int32)))).2 (by decide) (by decide) k) ?_
  refine own_st (V := s₁.setTop (mkF m 50 #[.val (.int (7 : Int32))] [(.int (7 : Int32))])) (fun t k => XS.iloadN X0.here hx rfl (hb hby own_d2_49) rfl k) ?_
  refine own_st (V := s₁.setTop (mkF m 52 #[.val (.int (7 : Int32))] [(.int (7 : Int32)), (.int (7 : Int32))])) (fun t k => XS.bipush X0.here hx rfl (hb hby own_d2_50) k) ?_
  refine own_st (V := s₁.setTop (mkF m 55 #[.val (.int (7 : Int32))] [])) (fun t k => XS.icmpNo X0.here hx rfl (hb hby own_d2_52) rfl (teq (by decide : (7 : Int32) = (7 : Int32))).2 k) ?_
  refine own_st (V := s₁.setTop (mkF m 56 #[.val (.int (7 : Int32))] [(.int (2 : Int32))])) (fun t k => XS.iconst X0.here hx rfl (hb hby own_d2_55) k) ?_
  exact own_ret X0 hx hlk Bd.returns rfl (Or.inl ⟨rfl, by simp, _, rfl⟩) (hb hby own_d2_56) (by decide) (by decide) (by show Q_own_em7 Z  h0 n0 _ s₁.heap _; rw [e0]; exact ⟨rfl, N0, rfl⟩)
def Q_own_pick8 (Z : State) (A : Nat → Addr) (h0 : Heap) (n0 : Nat) (v : Option Value) (h : Heap) (L : List Loc) : Prop := v = some (.ref (A 8)) ∧ Fr n0 L ∧ h = h0
theorem own_d1_73 : decode method_3_code 73 = .ok (.iload_n 0, 1) := by decide +kernel
theorem own_d1_74 : decode method_3_code 74 = .ok (.bipush 8, 2) := by decide +kernel
theorem own_d1_76 : decode method_3_code 76 = .ok (.if_icmp .ne 7, 3) := by decide +kernel
theorem own_d1_79 : decode method_3_code 79 = .ok (.getstatic 49, 3) := by decide +kernel
theorem own_d1_82 : decode method_3_code 82 = .ok (.areturn, 1) := by decide +kernel
set_option maxRecDepth 65536 in
set_option maxHeartbeats 40000000 in
theorem own_pick8 (l : Launch) (Z : State) (a0 : Array Value) (hw : ∀ d ∈ tables_1, d.before a0 Z = true) (ws : List Jvm.Cond) (A : Nat → Addr) (h0 : Heap) (n0 : Nat) (Z0 : n0 ≤ h0.size) (En : own_En Z h0 A) :
    MetFree l (⟨"com/example/bhaga/bhaga/wire/ApiServesPinLaw", "pick", "(I)Lcom/example/bhaga/bhaga/wire/Api;"⟩ : MethodName) (head1 (Jvm.Cond.code (⟨"com/example/bhaga/bhaga/wire/ApiServesPinLaw", "pick", "(I)Lcom/example/bhaga/bhaga/wire/Api;"⟩ : MethodName) method_3_code 1 (some (.object "com/example/bhaga/bhaga/wire/Api")) :: ws) ({ frames := 0, cells := 0, slots := 0, locals := 0 } : Room)) (fun a U => a = #[(.int (8 : Int32))] ∧ Z.Warmed39 U.vm ∧ U.heap = h0) (fun _ _ _ _ _ => True) (fun _ U o U' => ∃ v L, o = .returned v ∧ Q_own_pick8 Z A h0 n0 v U'.heap L ∧ FrameEnd U o U' L ({ frames := 0, cells := 0, slots := 0, locals := 0 } : Room).cells ({ frames := 0, cells := 0, slots := 0, locals := 0 } : Room).slots) := by
  refine MetFree.of_bodySF (plainFor_of_name own_pn_com_example_bhaga_bhaga_wire_ApiServesPinLaw) hisR ?_
  intro p e s m args below meth c s₁ Bd hml0 hP hK
  obtain ⟨rfl, hZ, hh⟩ := hP
  have hx := Bd.exec
  have hby := Bd.bytes
  have hml : c.maxLocals = 1 := hml0
  have hown : s.vm.findClass "com/example/bhaga/bhaga/wire/ApiServesPinLaw" = some m.cls := findClass_of_methodNamed Bd.named
  have hnm := (name_of_methodNamed Bd.named Bd.method).1
  have hlk : meth.locks = false := BodyLoose.notSynchronized Bd
  have X0 : Stand p l e ({ frames := 0, cells := 0, slots := 0, locals := 0 } : Room) s m #[(.int (8 : Int32))] below meth c s₁ [] 0 0 := Stand.of_body Bd
  have e0 : s₁.heap = h0 := by rw [← hh, Bd.state]; rfl
  have N0 := Fr.nil n0
  show own_Go p e below #[(.int (8 : Int32))] s (fun _ U o U' => ∃ v L, o = .returned v ∧ Q_own_pick8 Z A h0 n0 v U'.heap L ∧ FrameEnd U o U' L ({ frames := 0, cells := 0, slots := 0, locals := 0 } : Room).cells ({ frames := 0, cells := 0, slots := 0, locals := 0 } : Room).slots) (s₁.setTop (entryFrame m #[(.int (8 : Int32))] 1))
  refine own_st (V := s₁.setTop (mkF m 0 #[.val (.int (8 : Int32))] [])) (fun t k => castTop (by first | (simp [entryFrame, mkF, argsToLocals, Value.category]; done) | rfl) k) ?_
  refine own_st (V := s₁.setTop (mkF m 1 #[.val (.int (8 : Int32))] [(.int (8 : Int32))])) (fun t k => XS.iloadN X0.here hx rfl (hb hby own_d1_0) rfl k) ?_
  refine own_st (V := s₁.setTop (mkF m 8 #[.val (.int (8 : Int32))] [])) (fun t k => XS.ifYes X0.here hx rfl (pc0 := 1) (pc' := 8) rfl (hb hby own_d1_1) rfl ((if0 _ _).trans (feq (by decide : ¬ ((8 : Int32) = (0 : Int32)))).2) (by decide) (by decide) k) ?_
  refine own_st (V := s₁.setTop (mkF m 9 #[.val (.int (8 : Int32))] [(.int (8 : Int32))])) (fun t k => XS.iloadN X0.here hx rfl (hb hby own_d1_8) rfl k) ?_
  refine own_st (V := s₁.setTop (mkF m 10 #[.val (.int (8 : Int32))] [(.int (1 : Int32)), (.int (8 : Int32))])) (fun t k => XS.iconst X0.here hx rfl (hb hby own_d1_9) k) ?_
  refine own_st (V := s₁.setTop (mkF m 17 #[.val (.int (8 : Int32))] [])) (fun t k => XS.icmpYes X0.here hx rfl (pc0 := 10) (pc' := 17) rfl (hb hby own_d1_10) rfl (feq (by decide : ¬ ((8 : Int32) = (1 : Int32)))).2 (by decide) (by decide) k) ?_
  refine own_st (V := s₁.setTop (mkF m 18 #[.val (.int (8 : Int32))] [(.int (8 : Int32))])) (fun t k => XS.iloadN X0.here hx rfl (hb hby own_d1_17) rfl k) ?_
  refine own_st (V := s₁.setTop (mkF m 19 #[.val (.int (8 : Int32))] [(.int (2 : Int32)), (.int (8 : Int32))])) (fun t k => XS.iconst X0.here hx rfl (hb hby own_d1_18) k) ?_
  refine own_st (V := s₁.setTop (mkF m 26 #[.val (.int (8 : Int32))] [])) (fun t k => XS.icmpYes X0.here hx rfl (pc0 := 19) (pc' := 26) rfl (hb hby own_d1_19) rfl (feq (by decide : ¬ ((8 : Int32) = (2 : Int32)))).2 (by decide) (by decide) k) ?_
  refine own_st (V := s₁.setTop (mkF m 27 #[.val (.int (8 : Int32))] [(.int (8 : Int32))])) (fun t k => XS.iloadN X0.here hx rfl (hb hby own_d1_26) rfl k) ?_
  refine own_st (V := s₁.setTop (mkF m 28 #[.val (.int (8 : Int32))] [(.int (3 : Int32)), (.int (8 : Int32))])) (fun t k => XS.iconst X0.here hx rfl (hb hby own_d1_27) k) ?_
  refine own_st (V := s₁.setTop (mkF m 35 #[.val (.int (8 : Int32))] [])) (fun t k => XS.icmpYes X0.here hx rfl (pc0 := 28) (pc' := 35) rfl (hb hby own_d1_28) rfl (feq (by decide : ¬ ((8 : Int32) = (3 : Int32)))).2 (by decide) (by decide) k) ?_
  refine own_st (V := s₁.setTop (mkF m 36 #[.val (.int (8 : Int32))] [(.int (8 : Int32))])) (fun t k => XS.iloadN X0.here hx rfl (hb hby own_d1_35) rfl k) ?_
  refine own_st (V := s₁.setTop (mkF m 37 #[.val (.int (8 : Int32))] [(.int (4 : Int32)), (.int (8 : Int32))])) (fun t k => XS.iconst X0.here hx rfl (hb hby own_d1_36) k) ?_
  refine own_st (V := s₁.setTop (mkF m 44 #[.val (.int (8 : Int32))] [])) (fun t k => XS.icmpYes X0.here hx rfl (pc0 := 37) (pc' := 44) rfl (hb hby own_d1_37) rfl (feq (by decide : ¬ ((8 : Int32) = (4 : Int32)))).2 (by decide) (by decide) k) ?_
  refine own_st (V := s₁.setTop (mkF m 45 #[.val (.int (8 : Int32))] [(.int (8 : Int32))])) (fun t k => XS.iloadN X0.here hx rfl (hb hby own_d1_44) rfl k) ?_
  refine own_st (V := s₁.setTop (mkF m 46 #[.val (.int (8 : Int32))] [(.int (5 : Int32)), (.int (8 : Int32))])) (fun t k => XS.iconst X0.here hx rfl (hb hby own_d1_45) k) ?_
  refine own_st (V := s₁.setTop (mkF m 53 #[.val (.int (8 : Int32))] [])) (fun t k => XS.icmpYes X0.here hx rfl (pc0 := 46) (pc' := 53) rfl (hb hby own_d1_46) rfl (feq (by decide : ¬ ((8 : Int32) = (5 : Int32)))).2 (by decide) (by decide) k) ?_
  refine own_st (V := s₁.setTop (mkF m 54 #[.val (.int (8 : Int32))] [(.int (8 : Int32))])) (fun t k => XS.iloadN X0.here hx rfl (hb hby own_d1_53) rfl k) ?_
  refine own_st (V := s₁.setTop (mkF m 56 #[.val (.int (8 : Int32))] [(.int (6 : Int32)), (.int (8 : Int32))])) (fun t k => XS.bipush X0.here hx rfl (hb hby own_d1_54) k) ?_
  refine own_st (V := s₁.setTop (mkF m 63 #[.val (.int (8 : Int32))] [])) (fun t k => XS.icmpYes X0.here hx rfl (pc0 := 56) (pc' := 63) rfl (hb hby own_d1_56) rfl (feq (by decide : ¬ ((8 : Int32) = (6 : Int32)))).2 (by decide) (by decide) k) ?_
  refine own_st (V := s₁.setTop (mkF m 64 #[.val (.int (8 : Int32))] [(.int (8 : Int32))])) (fun t k => XS.iloadN X0.here hx rfl (hb hby own_d1_63) rfl k) ?_
  refine own_st (V := s₁.setTop (mkF m 66 #[.val (.int (8 : Int32))] [(.int (7 : Int32)), (.int (8 : Int32))])) (fun t k => XS.bipush X0.here hx rfl (hb hby own_d1_64) k) ?_
  refine own_st (V := s₁.setTop (mkF m 73 #[.val (.int (8 : Int32))] [])) (fun t k => XS.icmpYes X0.here hx rfl (pc0 := 66) (pc' := 73) rfl (hb hby own_d1_66) rfl (feq (by decide : ¬ ((8 : Int32) = (7 : Int32)))).2 (by decide) (by decide) k) ?_
  refine own_st (V := s₁.setTop (mkF m 74 #[.val (.int (8 : Int32))] [(.int (8 : Int32))])) (fun t k => XS.iloadN X0.here hx rfl (hb hby own_d1_73) rfl k) ?_
  refine own_st (V := s₁.setTop (mkF m 76 #[.val (.int (8 : Int32))] [(.int (8 : Int32)), (.int (8 : Int32))])) (fun t k => XS.bipush X0.here hx rfl (hb hby own_d1_74) k) ?_
  refine own_st (V := s₁.setTop (mkF m 79 #[.val (.int (8 : Int32))] [])) (fun t k => XS.icmpNo X0.here hx rfl (hb hby own_d1_76) rfl (teq (by decide : (8 : Int32) = (8 : Int32))).2 k) ?_
  obtain ⟨T14, X14, e14, st14⟩ := getS2 X0 hx hZ hown (host := "") (Or.inl (hw _ (List.mem_of_getElem? (i := 32) rfl))) Via.refl e0 (own_S En 8 (i := 8) (n := "LEAVE_GROUP") rfl) (g := (mkF m 79 #[.val (.int (8 : Int32))] [])) rfl (hb hby own_d1_79)
  refine own_st (V := T14.setTop (mkF m 82 #[.val (.int (8 : Int32))] [(.ref (A 8))])) (fun t k => st14 _ k) ?_
  exact own_ret X14 hx hlk Bd.returns rfl (Or.inr (Or.inr (Or.inr (Or.inr ⟨rfl, rfl, rfl⟩)))) (hb hby own_d1_82) (by decide) (by decide) (by show Q_own_pick8 Z A h0 n0 _ T14.heap _; rw [e14]; exact ⟨rfl, N0, rfl⟩)
def Q_own_em8 (Z : State)  (h0 : Heap) (n0 : Nat) (v : Option Value) (h : Heap) (L : List Loc) : Prop := v = some (.int (2 : Int32)) ∧ Fr n0 L ∧ h = h0
theorem own_d2_57 : decode method_4_code 57 = .ok (.iload_n 0, 1) := by decide +kernel
theorem own_d2_58 : decode method_4_code 58 = .ok (.bipush 8, 2) := by decide +kernel
theorem own_d2_60 : decode method_4_code 60 = .ok (.if_icmp .ne 5, 3) := by decide +kernel
theorem own_d2_63 : decode method_4_code 63 = .ok (.iconst 2, 1) := by decide +kernel
theorem own_d2_64 : decode method_4_code 64 = .ok (.ireturn, 1) := by decide +kernel
set_option maxRecDepth 65536 in
set_option maxHeartbeats 40000000 in
theorem own_em8 (l : Launch) (Z : State) (a0 : Array Value) (hw : ∀ d ∈ tables_1, d.before a0 Z = true) (ws : List Jvm.Cond)  (h0 : Heap) (n0 : Nat) (Z0 : n0 ≤ h0.size) :
    MetFree l (⟨"com/example/bhaga/bhaga/wire/ApiServesPinLaw", "expectedMax", "(I)I"⟩ : MethodName) (head1 (Jvm.Cond.code (⟨"com/example/bhaga/bhaga/wire/ApiServesPinLaw", "expectedMax", "(I)I"⟩ : MethodName) method_4_code 1 (some .int) :: ws) ({ frames := 0, cells := 0, slots := 0, locals := 0 } : Room)) (fun a U => a = #[(.int (8 : Int32))] ∧ Z.Warmed39 U.vm ∧ U.heap = h0) (fun _ _ _ _ _ => True) (fun _ U o U' => ∃ v L, o = .returned v ∧ Q_own_em8 Z  h0 n0 v U'.heap L ∧ FrameEnd U o U' L ({ frames := 0, cells := 0, slots := 0, locals := 0 } : Room).cells ({ frames := 0, cells := 0, slots := 0, locals := 0 } : Room).slots) := by
  refine MetFree.of_bodySF (plainFor_of_name own_pn_com_example_bhaga_bhaga_wire_ApiServesPinLaw) hisR ?_
  intro p e s m args below meth c s₁ Bd hml0 hP hK
  obtain ⟨rfl, hZ, hh⟩ := hP
  have hx := Bd.exec
  have hby := Bd.bytes
  have hml : c.maxLocals = 1 := hml0
  have hown : s.vm.findClass "com/example/bhaga/bhaga/wire/ApiServesPinLaw" = some m.cls := findClass_of_methodNamed Bd.named
  have hnm := (name_of_methodNamed Bd.named Bd.method).1
  have hlk : meth.locks = false := BodyLoose.notSynchronized Bd
  have X0 : Stand p l e ({ frames := 0, cells := 0, slots := 0, locals := 0 } : Room) s m #[(.int (8 : Int32))] below meth c s₁ [] 0 0 := Stand.of_body Bd
  have e0 : s₁.heap = h0 := by rw [← hh, Bd.state]; rfl
  have N0 := Fr.nil n0
  show own_Go p e below #[(.int (8 : Int32))] s (fun _ U o U' => ∃ v L, o = .returned v ∧ Q_own_em8 Z  h0 n0 v U'.heap L ∧ FrameEnd U o U' L ({ frames := 0, cells := 0, slots := 0, locals := 0 } : Room).cells ({ frames := 0, cells := 0, slots := 0, locals := 0 } : Room).slots) (s₁.setTop (entryFrame m #[(.int (8 : Int32))] 1))
  refine own_st (V := s₁.setTop (mkF m 0 #[.val (.int (8 : Int32))] [])) (fun t k => castTop (by first | (simp [entryFrame, mkF, argsToLocals, Value.category]; done) | rfl) k) ?_
  refine own_st (V := s₁.setTop (mkF m 1 #[.val (.int (8 : Int32))] [(.int (8 : Int32))])) (fun t k => XS.iloadN X0.here hx rfl (hb hby own_d2_0) rfl k) ?_
  refine own_st (V := s₁.setTop (mkF m 6 #[.val (.int (8 : Int32))] [])) (fun t k => XS.ifYes X0.here hx rfl (pc0 := 1) (pc' := 6) rfl (hb hby own_d2_1) rfl ((if0 _ _).trans (feq (by decide : ¬ ((8 : Int32) = (0 : Int32)))).2) (by decide) (by decide) k) ?_
  refine own_st (V := s₁.setTop (mkF m 7 #[.val (.int (8 : Int32))] [(.int (8 : Int32))])) (fun t k => XS.iloadN X0.here hx rfl (hb hby own_d2_6) rfl k) ?_
  refine own_st (V := s₁.setTop (mkF m 8 #[.val (.int (8 : Int32))] [(.int (1 : Int32)), (.int (8 : Int32))])) (fun t k => XS.iconst X0.here hx rfl (hb hby own_d2_7) k) ?_
  refine own_st (V := s₁.setTop (mkF m 13 #[.val (.int (8 : Int32))] [])) (fun t k => XS.icmpYes X0.here hx rfl (pc0 := 8) (pc' := 13) rfl (hb hby own_d2_8) rfl (feq (by decide : ¬ ((8 : Int32) = (1 : Int32)))).2 (by decide) (by decide) k) ?_
  refine own_st (V := s₁.setTop (mkF m 14 #[.val (.int (8 : Int32))] [(.int (8 : Int32))])) (fun t k => XS.iloadN X0.here hx rfl (hb hby own_d2_13) rfl k) ?_
  refine own_st (V := s₁.setTop (mkF m 15 #[.val (.int (8 : Int32))] [(.int (2 : Int32)), (.int (8 : Int32))])) (fun t k => XS.iconst X0.here hx rfl (hb hby own_d2_14) k) ?_
  refine own_st (V := s₁.setTop (mkF m 20 #[.val (.int (8 : Int32))] [])) (fun t k => XS.icmpYes X0.here hx rfl (pc0 := 15) (pc' := 20) rfl (hb hby own_d2_15) rfl (feq (by decide : ¬ ((8 : Int32) = (2 : Int32)))).2 (by decide) (by decide) k) ?_
  refine own_st (V := s₁.setTop (mkF m 21 #[.val (.int (8 : Int32))] [(.int (8 : Int32))])) (fun t k => XS.iloadN X0.here hx rfl (hb hby own_d2_20) rfl k) ?_
  refine own_st (V := s₁.setTop (mkF m 22 #[.val (.int (8 : Int32))] [(.int (3 : Int32)), (.int (8 : Int32))])) (fun t k => XS.iconst X0.here hx rfl (hb hby own_d2_21) k) ?_
  refine own_st (V := s₁.setTop (mkF m 27 #[.val (.int (8 : Int32))] [])) (fun t k => XS.icmpYes X0.here hx rfl (pc0 := 22) (pc' := 27) rfl (hb hby own_d2_22) rfl (feq (by decide : ¬ ((8 : Int32) = (3 : Int32)))).2 (by decide) (by decide) k) ?_
  refine own_st (V := s₁.setTop (mkF m 28 #[.val (.int (8 : Int32))] [(.int (8 : Int32))])) (fun t k => XS.iloadN X0.here hx rfl (hb hby own_d2_27) rfl k) ?_
  refine own_st (V := s₁.setTop (mkF m 29 #[.val (.int (8 : Int32))] [(.int (4 : Int32)), (.int (8 : Int32))])) (fun t k => XS.iconst X0.here hx rfl (hb hby own_d2_28) k) ?_
  refine own_st (V := s₁.setTop (mkF m 34 #[.val (.int (8 : Int32))] [])) (fun t k => XS.icmpYes X0.here hx rfl (pc0 := 29) (pc' := 34) rfl (hb hby own_d2_29) rfl (feq (by decide : ¬ ((8 : Int32) = (4 : Int32)))).2 (by decide) (by decide) k) ?_
  refine own_st (V := s₁.setTop (mkF m 35 #[.val (.int (8 : Int32))] [(.int (8 : Int32))])) (fun t k => XS.iloadN X0.here hx rfl (hb hby own_d2_34) rfl k) ?_
  refine own_st (V := s₁.setTop (mkF m 36 #[.val (.int (8 : Int32))] [(.int (5 : Int32)), (.int (8 : Int32))])) (fun t k => XS.iconst X0.here hx rfl (hb hby own_d2_35) k) ?_
  refine own_st (V := s₁.setTop (mkF m 41 #[.val (.int (8 : Int32))] [])) (fun t k => XS.icmpYes X0.here hx rfl (pc0 := 36) (pc' := 41) rfl (hb hby own_d2_36) rfl (feq (by decide : ¬ ((8 : Int32) = (5 : Int32)))).2 (by decide) (by decide) k) ?_
  refine own_st (V := s₁.setTop (mkF m 42 #[.val (.int (8 : Int32))] [(.int (8 : Int32))])) (fun t k => XS.iloadN X0.here hx rfl (hb hby own_d2_41) rfl k) ?_
  refine own_st (V := s₁.setTop (mkF m 44 #[.val (.int (8 : Int32))] [(.int (6 : Int32)), (.int (8 : Int32))])) (fun t k => XS.bipush X0.here hx rfl (hb hby own_d2_42) k) ?_
  refine own_st (V := s₁.setTop (mkF m 49 #[.val (.int (8 : Int32))] [])) (fun t k => XS.icmpYes X0.here hx rfl (pc0 := 44) (pc' := 49) rfl (hb hby own_d2_44) rfl (feq (by decide : ¬ ((8 : Int32) = (6 : Int32)))).2 (by decide) (by decide) k) ?_
  refine own_st (V := s₁.setTop (mkF m 50 #[.val (.int (8 : Int32))] [(.int (8 : Int32))])) (fun t k => XS.iloadN X0.here hx rfl (hb hby own_d2_49) rfl k) ?_
  refine own_st (V := s₁.setTop (mkF m 52 #[.val (.int (8 : Int32))] [(.int (7 : Int32)), (.int (8 : Int32))])) (fun t k => XS.bipush X0.here hx rfl (hb hby own_d2_50) k) ?_
  refine own_st (V := s₁.setTop (mkF m 57 #[.val (.int (8 : Int32))] [])) (fun t k => XS.icmpYes X0.here hx rfl (pc0 := 52) (pc' := 57) rfl (hb hby own_d2_52) rfl (feq (by decide : ¬ ((8 : Int32) = (7 : Int32)))).2 (by decide) (by decide) k) ?_
  refine own_st (V := s₁.setTop (mkF m 58 #[.val (.int (8 : Int32))] [(.int (8 : Int32))])) (fun t k => XS.iloadN X0.here hx rfl (hb hby own_d2_57) rfl k) ?_
  refine own_st (V := s₁.setTop (mkF m 60 #[.val (.int (8 : Int32))] [(.int (8 : Int32)), (.int (8 : Int32))])) (fun t k => XS.bipush X0.here hx rfl (hb hby own_d2_58) k) ?_
  refine own_st (V := s₁.setTop (mkF m 63 #[.val (.int (8 : Int32))] [])) (fun t k => XS.icmpNo X0.here hx rfl (hb hby own_d2_60) rfl (teq (by decide : (8 : Int32) = (8 : Int32))).2 k) ?_
  refine own_st (V := s₁.setTop (mkF m 64 #[.val (.int (8 : Int32))] [(.int (2 : Int32))])) (fun t k => XS.iconst X0.here hx rfl (hb hby own_d2_63) k) ?_
  exact own_ret X0 hx hlk Bd.returns rfl (Or.inl ⟨rfl, by simp, _, rfl⟩) (hb hby own_d2_64) (by decide) (by decide) (by show Q_own_em8 Z  h0 n0 _ s₁.heap _; rw [e0]; exact ⟨rfl, N0, rfl⟩)
def Q_own_pick9 (Z : State) (A : Nat → Addr) (h0 : Heap) (n0 : Nat) (v : Option Value) (h : Heap) (L : List Loc) : Prop := v = some (.ref (A 9)) ∧ Fr n0 L ∧ h = h0
theorem own_d1_83 : decode method_3_code 83 = .ok (.iload_n 0, 1) := by decide +kernel
theorem own_d1_84 : decode method_3_code 84 = .ok (.bipush 9, 2) := by decide +kernel
theorem own_d1_86 : decode method_3_code 86 = .ok (.if_icmp .ne 7, 3) := by decide +kernel
theorem own_d1_89 : decode method_3_code 89 = .ok (.getstatic 52, 3) := by decide +kernel
theorem own_d1_92 : decode method_3_code 92 = .ok (.areturn, 1) := by decide +kernel
set_option maxRecDepth 65536 in
set_option maxHeartbeats 40000000 in
theorem own_pick9 (l : Launch) (Z : State) (a0 : Array Value) (hw : ∀ d ∈ tables_1, d.before a0 Z = true) (ws : List Jvm.Cond) (A : Nat → Addr) (h0 : Heap) (n0 : Nat) (Z0 : n0 ≤ h0.size) (En : own_En Z h0 A) :
    MetFree l (⟨"com/example/bhaga/bhaga/wire/ApiServesPinLaw", "pick", "(I)Lcom/example/bhaga/bhaga/wire/Api;"⟩ : MethodName) (head1 (Jvm.Cond.code (⟨"com/example/bhaga/bhaga/wire/ApiServesPinLaw", "pick", "(I)Lcom/example/bhaga/bhaga/wire/Api;"⟩ : MethodName) method_3_code 1 (some (.object "com/example/bhaga/bhaga/wire/Api")) :: ws) ({ frames := 0, cells := 0, slots := 0, locals := 0 } : Room)) (fun a U => a = #[(.int (9 : Int32))] ∧ Z.Warmed39 U.vm ∧ U.heap = h0) (fun _ _ _ _ _ => True) (fun _ U o U' => ∃ v L, o = .returned v ∧ Q_own_pick9 Z A h0 n0 v U'.heap L ∧ FrameEnd U o U' L ({ frames := 0, cells := 0, slots := 0, locals := 0 } : Room).cells ({ frames := 0, cells := 0, slots := 0, locals := 0 } : Room).slots) := by
  refine MetFree.of_bodySF (plainFor_of_name own_pn_com_example_bhaga_bhaga_wire_ApiServesPinLaw) hisR ?_
  intro p e s m args below meth c s₁ Bd hml0 hP hK
  obtain ⟨rfl, hZ, hh⟩ := hP
  have hx := Bd.exec
  have hby := Bd.bytes
  have hml : c.maxLocals = 1 := hml0
  have hown : s.vm.findClass "com/example/bhaga/bhaga/wire/ApiServesPinLaw" = some m.cls := findClass_of_methodNamed Bd.named
  have hnm := (name_of_methodNamed Bd.named Bd.method).1
  have hlk : meth.locks = false := BodyLoose.notSynchronized Bd
  have X0 : Stand p l e ({ frames := 0, cells := 0, slots := 0, locals := 0 } : Room) s m #[(.int (9 : Int32))] below meth c s₁ [] 0 0 := Stand.of_body Bd
  have e0 : s₁.heap = h0 := by rw [← hh, Bd.state]; rfl
  have N0 := Fr.nil n0
  show own_Go p e below #[(.int (9 : Int32))] s (fun _ U o U' => ∃ v L, o = .returned v ∧ Q_own_pick9 Z A h0 n0 v U'.heap L ∧ FrameEnd U o U' L ({ frames := 0, cells := 0, slots := 0, locals := 0 } : Room).cells ({ frames := 0, cells := 0, slots := 0, locals := 0 } : Room).slots) (s₁.setTop (entryFrame m #[(.int (9 : Int32))] 1))
  refine own_st (V := s₁.setTop (mkF m 0 #[.val (.int (9 : Int32))] [])) (fun t k => castTop (by first | (simp [entryFrame, mkF, argsToLocals, Value.category]; done) | rfl) k) ?_
  refine own_st (V := s₁.setTop (mkF m 1 #[.val (.int (9 : Int32))] [(.int (9 : Int32))])) (fun t k => XS.iloadN X0.here hx rfl (hb hby own_d1_0) rfl k) ?_
  refine own_st (V := s₁.setTop (mkF m 8 #[.val (.int (9 : Int32))] [])) (fun t k => XS.ifYes X0.here hx rfl (pc0 := 1) (pc' := 8) rfl (hb hby own_d1_1) rfl ((if0 _ _).trans (feq (by decide : ¬ ((9 : Int32) = (0 : Int32)))).2) (by decide) (by decide) k) ?_
  refine own_st (V := s₁.setTop (mkF m 9 #[.val (.int (9 : Int32))] [(.int (9 : Int32))])) (fun t k => XS.iloadN X0.here hx rfl (hb hby own_d1_8) rfl k) ?_
  refine own_st (V := s₁.setTop (mkF m 10 #[.val (.int (9 : Int32))] [(.int (1 : Int32)), (.int (9 : Int32))])) (fun t k => XS.iconst X0.here hx rfl (hb hby own_d1_9) k) ?_
  refine own_st (V := s₁.setTop (mkF m 17 #[.val (.int (9 : Int32))] [])) (fun t k => XS.icmpYes X0.here hx rfl (pc0 := 10) (pc' := 17) rfl (hb hby own_d1_10) rfl (feq (by decide : ¬ ((9 : Int32) = (1 : Int32)))).2 (by decide) (by decide) k) ?_
  refine own_st (V := s₁.setTop (mkF m 18 #[.val (.int (9 : Int32))] [(.int (9 : Int32))])) (fun t k => XS.iloadN X0.here hx rfl (hb hby own_d1_17) rfl k) ?_
  refine own_st (V := s₁.setTop (mkF m 19 #[.val (.int (9 : Int32))] [(.int (2 : Int32)), (.int (9 : Int32))])) (fun t k => XS.iconst X0.here hx rfl (hb hby own_d1_18) k) ?_
  refine own_st (V := s₁.setTop (mkF m 26 #[.val (.int (9 : Int32))] [])) (fun t k => XS.icmpYes X0.here hx rfl (pc0 := 19) (pc' := 26) rfl (hb hby own_d1_19) rfl (feq (by decide : ¬ ((9 : Int32) = (2 : Int32)))).2 (by decide) (by decide) k) ?_
  refine own_st (V := s₁.setTop (mkF m 27 #[.val (.int (9 : Int32))] [(.int (9 : Int32))])) (fun t k => XS.iloadN X0.here hx rfl (hb hby own_d1_26) rfl k) ?_
  refine own_st (V := s₁.setTop (mkF m 28 #[.val (.int (9 : Int32))] [(.int (3 : Int32)), (.int (9 : Int32))])) (fun t k => XS.iconst X0.here hx rfl (hb hby own_d1_27) k) ?_
  refine own_st (V := s₁.setTop (mkF m 35 #[.val (.int (9 : Int32))] [])) (fun t k => XS.icmpYes X0.here hx rfl (pc0 := 28) (pc' := 35) rfl (hb hby own_d1_28) rfl (feq (by decide : ¬ ((9 : Int32) = (3 : Int32)))).2 (by decide) (by decide) k) ?_
  refine own_st (V := s₁.setTop (mkF m 36 #[.val (.int (9 : Int32))] [(.int (9 : Int32))])) (fun t k => XS.iloadN X0.here hx rfl (hb hby own_d1_35) rfl k) ?_
  refine own_st (V := s₁.setTop (mkF m 37 #[.val (.int (9 : Int32))] [(.int (4 : Int32)), (.int (9 : Int32))])) (fun t k => XS.iconst X0.here hx rfl (hb hby own_d1_36) k) ?_
  refine own_st (V := s₁.setTop (mkF m 44 #[.val (.int (9 : Int32))] [])) (fun t k => XS.icmpYes X0.here hx rfl (pc0 := 37) (pc' := 44) rfl (hb hby own_d1_37) rfl (feq (by decide : ¬ ((9 : Int32) = (4 : Int32)))).2 (by decide) (by decide) k) ?_
  refine own_st (V := s₁.setTop (mkF m 45 #[.val (.int (9 : Int32))] [(.int (9 : Int32))])) (fun t k => XS.iloadN X0.here hx rfl (hb hby own_d1_44) rfl k) ?_
  refine own_st (V := s₁.setTop (mkF m 46 #[.val (.int (9 : Int32))] [(.int (5 : Int32)), (.int (9 : Int32))])) (fun t k => XS.iconst X0.here hx rfl (hb hby own_d1_45) k) ?_
  refine own_st (V := s₁.setTop (mkF m 53 #[.val (.int (9 : Int32))] [])) (fun t k => XS.icmpYes X0.here hx rfl (pc0 := 46) (pc' := 53) rfl (hb hby own_d1_46) rfl (feq (by decide : ¬ ((9 : Int32) = (5 : Int32)))).2 (by decide) (by decide) k) ?_
  refine own_st (V := s₁.setTop (mkF m 54 #[.val (.int (9 : Int32))] [(.int (9 : Int32))])) (fun t k => XS.iloadN X0.here hx rfl (hb hby own_d1_53) rfl k) ?_
  refine own_st (V := s₁.setTop (mkF m 56 #[.val (.int (9 : Int32))] [(.int (6 : Int32)), (.int (9 : Int32))])) (fun t k => XS.bipush X0.here hx rfl (hb hby own_d1_54) k) ?_
  refine own_st (V := s₁.setTop (mkF m 63 #[.val (.int (9 : Int32))] [])) (fun t k => XS.icmpYes X0.here hx rfl (pc0 := 56) (pc' := 63) rfl (hb hby own_d1_56) rfl (feq (by decide : ¬ ((9 : Int32) = (6 : Int32)))).2 (by decide) (by decide) k) ?_
  refine own_st (V := s₁.setTop (mkF m 64 #[.val (.int (9 : Int32))] [(.int (9 : Int32))])) (fun t k => XS.iloadN X0.here hx rfl (hb hby own_d1_63) rfl k) ?_
  refine own_st (V := s₁.setTop (mkF m 66 #[.val (.int (9 : Int32))] [(.int (7 : Int32)), (.int (9 : Int32))])) (fun t k => XS.bipush X0.here hx rfl (hb hby own_d1_64) k) ?_
  refine own_st (V := s₁.setTop (mkF m 73 #[.val (.int (9 : Int32))] [])) (fun t k => XS.icmpYes X0.here hx rfl (pc0 := 66) (pc' := 73) rfl (hb hby own_d1_66) rfl (feq (by decide : ¬ ((9 : Int32) = (7 : Int32)))).2 (by decide) (by decide) k) ?_
  refine own_st (V := s₁.setTop (mkF m 74 #[.val (.int (9 : Int32))] [(.int (9 : Int32))])) (fun t k => XS.iloadN X0.here hx rfl (hb hby own_d1_73) rfl k) ?_
  refine own_st (V := s₁.setTop (mkF m 76 #[.val (.int (9 : Int32))] [(.int (8 : Int32)), (.int (9 : Int32))])) (fun t k => XS.bipush X0.here hx rfl (hb hby own_d1_74) k) ?_
  refine own_st (V := s₁.setTop (mkF m 83 #[.val (.int (9 : Int32))] [])) (fun t k => XS.icmpYes X0.here hx rfl (pc0 := 76) (pc' := 83) rfl (hb hby own_d1_76) rfl (feq (by decide : ¬ ((9 : Int32) = (8 : Int32)))).2 (by decide) (by decide) k) ?_
  refine own_st (V := s₁.setTop (mkF m 84 #[.val (.int (9 : Int32))] [(.int (9 : Int32))])) (fun t k => XS.iloadN X0.here hx rfl (hb hby own_d1_83) rfl k) ?_
  refine own_st (V := s₁.setTop (mkF m 86 #[.val (.int (9 : Int32))] [(.int (9 : Int32)), (.int (9 : Int32))])) (fun t k => XS.bipush X0.here hx rfl (hb hby own_d1_84) k) ?_
  refine own_st (V := s₁.setTop (mkF m 89 #[.val (.int (9 : Int32))] [])) (fun t k => XS.icmpNo X0.here hx rfl (hb hby own_d1_86) rfl (teq (by decide : (9 : Int32) = (9 : Int32))).2 k) ?_
  obtain ⟨T15, X15, e15, st15⟩ := getS2 X0 hx hZ hown (host := "") (Or.inl (hw _ (List.mem_of_getElem? (i := 26) rfl))) Via.refl e0 (own_S En 9 (i := 9) (n := "SYNC_GROUP") rfl) (g := (mkF m 89 #[.val (.int (9 : Int32))] [])) rfl (hb hby own_d1_89)
  refine own_st (V := T15.setTop (mkF m 92 #[.val (.int (9 : Int32))] [(.ref (A 9))])) (fun t k => st15 _ k) ?_
  exact own_ret X15 hx hlk Bd.returns rfl (Or.inr (Or.inr (Or.inr (Or.inr ⟨rfl, rfl, rfl⟩)))) (hb hby own_d1_92) (by decide) (by decide) (by show Q_own_pick9 Z A h0 n0 _ T15.heap _; rw [e15]; exact ⟨rfl, N0, rfl⟩)
def Q_own_em9 (Z : State)  (h0 : Heap) (n0 : Nat) (v : Option Value) (h : Heap) (L : List Loc) : Prop := v = some (.int (2 : Int32)) ∧ Fr n0 L ∧ h = h0
theorem own_d2_65 : decode method_4_code 65 = .ok (.iload_n 0, 1) := by decide +kernel
theorem own_d2_66 : decode method_4_code 66 = .ok (.bipush 9, 2) := by decide +kernel
theorem own_d2_68 : decode method_4_code 68 = .ok (.if_icmp .ne 5, 3) := by decide +kernel
theorem own_d2_71 : decode method_4_code 71 = .ok (.iconst 2, 1) := by decide +kernel
theorem own_d2_72 : decode method_4_code 72 = .ok (.ireturn, 1) := by decide +kernel
set_option maxRecDepth 65536 in
set_option maxHeartbeats 40000000 in
theorem own_em9 (l : Launch) (Z : State) (a0 : Array Value) (hw : ∀ d ∈ tables_1, d.before a0 Z = true) (ws : List Jvm.Cond)  (h0 : Heap) (n0 : Nat) (Z0 : n0 ≤ h0.size) :
    MetFree l (⟨"com/example/bhaga/bhaga/wire/ApiServesPinLaw", "expectedMax", "(I)I"⟩ : MethodName) (head1 (Jvm.Cond.code (⟨"com/example/bhaga/bhaga/wire/ApiServesPinLaw", "expectedMax", "(I)I"⟩ : MethodName) method_4_code 1 (some .int) :: ws) ({ frames := 0, cells := 0, slots := 0, locals := 0 } : Room)) (fun a U => a = #[(.int (9 : Int32))] ∧ Z.Warmed39 U.vm ∧ U.heap = h0) (fun _ _ _ _ _ => True) (fun _ U o U' => ∃ v L, o = .returned v ∧ Q_own_em9 Z  h0 n0 v U'.heap L ∧ FrameEnd U o U' L ({ frames := 0, cells := 0, slots := 0, locals := 0 } : Room).cells ({ frames := 0, cells := 0, slots := 0, locals := 0 } : Room).slots) := by
  refine MetFree.of_bodySF (plainFor_of_name own_pn_com_example_bhaga_bhaga_wire_ApiServesPinLaw) hisR ?_
  intro p e s m args below meth c s₁ Bd hml0 hP hK
  obtain ⟨rfl, hZ, hh⟩ := hP
  have hx := Bd.exec
  have hby := Bd.bytes
  have hml : c.maxLocals = 1 := hml0
  have hown : s.vm.findClass "com/example/bhaga/bhaga/wire/ApiServesPinLaw" = some m.cls := findClass_of_methodNamed Bd.named
  have hnm := (name_of_methodNamed Bd.named Bd.method).1
  have hlk : meth.locks = false := BodyLoose.notSynchronized Bd
  have X0 : Stand p l e ({ frames := 0, cells := 0, slots := 0, locals := 0 } : Room) s m #[(.int (9 : Int32))] below meth c s₁ [] 0 0 := Stand.of_body Bd
  have e0 : s₁.heap = h0 := by rw [← hh, Bd.state]; rfl
  have N0 := Fr.nil n0
  show own_Go p e below #[(.int (9 : Int32))] s (fun _ U o U' => ∃ v L, o = .returned v ∧ Q_own_em9 Z  h0 n0 v U'.heap L ∧ FrameEnd U o U' L ({ frames := 0, cells := 0, slots := 0, locals := 0 } : Room).cells ({ frames := 0, cells := 0, slots := 0, locals := 0 } : Room).slots) (s₁.setTop (entryFrame m #[(.int (9 : Int32))] 1))
  refine own_st (V := s₁.setTop (mkF m 0 #[.val (.int (9 : Int32))] [])) (fun t k => castTop (by first | (simp [entryFrame, mkF, argsToLocals, Value.category]; done) | rfl) k) ?_
  refine own_st (V := s₁.setTop (mkF m 1 #[.val (.int (9 : Int32))] [(.int (9 : Int32))])) (fun t k => XS.iloadN X0.here hx rfl (hb hby own_d2_0) rfl k) ?_
  refine own_st (V := s₁.setTop (mkF m 6 #[.val (.int (9 : Int32))] [])) (fun t k => XS.ifYes X0.here hx rfl (pc0 := 1) (pc' := 6) rfl (hb hby own_d2_1) rfl ((if0 _ _).trans (feq (by decide : ¬ ((9 : Int32) = (0 : Int32)))).2) (by decide) (by decide) k) ?_
  refine own_st (V := s₁.setTop (mkF m 7 #[.val (.int (9 : Int32))] [(.int (9 : Int32))])) (fun t k => XS.iloadN X0.here hx rfl (hb hby own_d2_6) rfl k) ?_
  refine own_st (V := s₁.setTop (mkF m 8 #[.val (.int (9 : Int32))] [(.int (1 : Int32)), (.int (9 : Int32))])) (fun t k => XS.iconst X0.here hx rfl (hb hby own_d2_7) k) ?_
  refine own_st (V := s₁.setTop (mkF m 13 #[.val (.int (9 : Int32))] [])) (fun t k => XS.icmpYes X0.here hx rfl (pc0 := 8) (pc' := 13) rfl (hb hby own_d2_8) rfl (feq (by decide : ¬ ((9 : Int32) = (1 : Int32)))).2 (by decide) (by decide) k) ?_
  refine own_st (V := s₁.setTop (mkF m 14 #[.val (.int (9 : Int32))] [(.int (9 : Int32))])) (fun t k => XS.iloadN X0.here hx rfl (hb hby own_d2_13) rfl k) ?_
  refine own_st (V := s₁.setTop (mkF m 15 #[.val (.int (9 : Int32))] [(.int (2 : Int32)), (.int (9 : Int32))])) (fun t k => XS.iconst X0.here hx rfl (hb hby own_d2_14) k) ?_
  refine own_st (V := s₁.setTop (mkF m 20 #[.val (.int (9 : Int32))] [])) (fun t k => XS.icmpYes X0.here hx rfl (pc0 := 15) (pc' := 20) rfl (hb hby own_d2_15) rfl (feq (by decide : ¬ ((9 : Int32) = (2 : Int32)))).2 (by decide) (by decide) k) ?_
  refine own_st (V := s₁.setTop (mkF m 21 #[.val (.int (9 : Int32))] [(.int (9 : Int32))])) (fun t k => XS.iloadN X0.here hx rfl (hb hby own_d2_20) rfl k) ?_
  refine own_st (V := s₁.setTop (mkF m 22 #[.val (.int (9 : Int32))] [(.int (3 : Int32)), (.int (9 : Int32))])) (fun t k => XS.iconst X0.here hx rfl (hb hby own_d2_21) k) ?_
  refine own_st (V := s₁.setTop (mkF m 27 #[.val (.int (9 : Int32))] [])) (fun t k => XS.icmpYes X0.here hx rfl (pc0 := 22) (pc' := 27) rfl (hb hby own_d2_22) rfl (feq (by decide : ¬ ((9 : Int32) = (3 : Int32)))).2 (by decide) (by decide) k) ?_
  refine own_st (V := s₁.setTop (mkF m 28 #[.val (.int (9 : Int32))] [(.int (9 : Int32))])) (fun t k => XS.iloadN X0.here hx rfl (hb hby own_d2_27) rfl k) ?_
  refine own_st (V := s₁.setTop (mkF m 29 #[.val (.int (9 : Int32))] [(.int (4 : Int32)), (.int (9 : Int32))])) (fun t k => XS.iconst X0.here hx rfl (hb hby own_d2_28) k) ?_
  refine own_st (V := s₁.setTop (mkF m 34 #[.val (.int (9 : Int32))] [])) (fun t k => XS.icmpYes X0.here hx rfl (pc0 := 29) (pc' := 34) rfl (hb hby own_d2_29) rfl (feq (by decide : ¬ ((9 : Int32) = (4 : Int32)))).2 (by decide) (by decide) k) ?_
  refine own_st (V := s₁.setTop (mkF m 35 #[.val (.int (9 : Int32))] [(.int (9 : Int32))])) (fun t k => XS.iloadN X0.here hx rfl (hb hby own_d2_34) rfl k) ?_
  refine own_st (V := s₁.setTop (mkF m 36 #[.val (.int (9 : Int32))] [(.int (5 : Int32)), (.int (9 : Int32))])) (fun t k => XS.iconst X0.here hx rfl (hb hby own_d2_35) k) ?_
  refine own_st (V := s₁.setTop (mkF m 41 #[.val (.int (9 : Int32))] [])) (fun t k => XS.icmpYes X0.here hx rfl (pc0 := 36) (pc' := 41) rfl (hb hby own_d2_36) rfl (feq (by decide : ¬ ((9 : Int32) = (5 : Int32)))).2 (by decide) (by decide) k) ?_
  refine own_st (V := s₁.setTop (mkF m 42 #[.val (.int (9 : Int32))] [(.int (9 : Int32))])) (fun t k => XS.iloadN X0.here hx rfl (hb hby own_d2_41) rfl k) ?_
  refine own_st (V := s₁.setTop (mkF m 44 #[.val (.int (9 : Int32))] [(.int (6 : Int32)), (.int (9 : Int32))])) (fun t k => XS.bipush X0.here hx rfl (hb hby own_d2_42) k) ?_
  refine own_st (V := s₁.setTop (mkF m 49 #[.val (.int (9 : Int32))] [])) (fun t k => XS.icmpYes X0.here hx rfl (pc0 := 44) (pc' := 49) rfl (hb hby own_d2_44) rfl (feq (by decide : ¬ ((9 : Int32) = (6 : Int32)))).2 (by decide) (by decide) k) ?_
  refine own_st (V := s₁.setTop (mkF m 50 #[.val (.int (9 : Int32))] [(.int (9 : Int32))])) (fun t k => XS.iloadN X0.here hx rfl (hb hby own_d2_49) rfl k) ?_
  refine own_st (V := s₁.setTop (mkF m 52 #[.val (.int (9 : Int32))] [(.int (7 : Int32)), (.int (9 : Int32))])) (fun t k => XS.bipush X0.here hx rfl (hb hby own_d2_50) k) ?_
  refine own_st (V := s₁.setTop (mkF m 57 #[.val (.int (9 : Int32))] [])) (fun t k => XS.icmpYes X0.here hx rfl (pc0 := 52) (pc' := 57) rfl (hb hby own_d2_52) rfl (feq (by decide : ¬ ((9 : Int32) = (7 : Int32)))).2 (by decide) (by decide) k) ?_
  refine own_st (V := s₁.setTop (mkF m 58 #[.val (.int (9 : Int32))] [(.int (9 : Int32))])) (fun t k => XS.iloadN X0.here hx rfl (hb hby own_d2_57) rfl k) ?_
  refine own_st (V := s₁.setTop (mkF m 60 #[.val (.int (9 : Int32))] [(.int (8 : Int32)), (.int (9 : Int32))])) (fun t k => XS.bipush X0.here hx rfl (hb hby own_d2_58) k) ?_
  refine own_st (V := s₁.setTop (mkF m 65 #[.val (.int (9 : Int32))] [])) (fun t k => XS.icmpYes X0.here hx rfl (pc0 := 60) (pc' := 65) rfl (hb hby own_d2_60) rfl (feq (by decide : ¬ ((9 : Int32) = (8 : Int32)))).2 (by decide) (by decide) k) ?_
  refine own_st (V := s₁.setTop (mkF m 66 #[.val (.int (9 : Int32))] [(.int (9 : Int32))])) (fun t k => XS.iloadN X0.here hx rfl (hb hby own_d2_65) rfl k) ?_
  refine own_st (V := s₁.setTop (mkF m 68 #[.val (.int (9 : Int32))] [(.int (9 : Int32)), (.int (9 : Int32))])) (fun t k => XS.bipush X0.here hx rfl (hb hby own_d2_66) k) ?_
  refine own_st (V := s₁.setTop (mkF m 71 #[.val (.int (9 : Int32))] [])) (fun t k => XS.icmpNo X0.here hx rfl (hb hby own_d2_68) rfl (teq (by decide : (9 : Int32) = (9 : Int32))).2 k) ?_
  refine own_st (V := s₁.setTop (mkF m 72 #[.val (.int (9 : Int32))] [(.int (2 : Int32))])) (fun t k => XS.iconst X0.here hx rfl (hb hby own_d2_71) k) ?_
  exact own_ret X0 hx hlk Bd.returns rfl (Or.inl ⟨rfl, by simp, _, rfl⟩) (hb hby own_d2_72) (by decide) (by decide) (by show Q_own_em9 Z  h0 n0 _ s₁.heap _; rw [e0]; exact ⟨rfl, N0, rfl⟩)
def Q_own_pick10 (Z : State) (A : Nat → Addr) (h0 : Heap) (n0 : Nat) (v : Option Value) (h : Heap) (L : List Loc) : Prop := v = some (.ref (A 10)) ∧ Fr n0 L ∧ h = h0
theorem own_d1_93 : decode method_3_code 93 = .ok (.iload_n 0, 1) := by decide +kernel
theorem own_d1_94 : decode method_3_code 94 = .ok (.bipush 10, 2) := by decide +kernel
theorem own_d1_96 : decode method_3_code 96 = .ok (.if_icmp .ne 7, 3) := by decide +kernel
theorem own_d1_99 : decode method_3_code 99 = .ok (.getstatic 55, 3) := by decide +kernel
theorem own_d1_102 : decode method_3_code 102 = .ok (.areturn, 1) := by decide +kernel
set_option maxRecDepth 65536 in
set_option maxHeartbeats 40000000 in
theorem own_pick10 (l : Launch) (Z : State) (a0 : Array Value) (hw : ∀ d ∈ tables_1, d.before a0 Z = true) (ws : List Jvm.Cond) (A : Nat → Addr) (h0 : Heap) (n0 : Nat) (Z0 : n0 ≤ h0.size) (En : own_En Z h0 A) :
    MetFree l (⟨"com/example/bhaga/bhaga/wire/ApiServesPinLaw", "pick", "(I)Lcom/example/bhaga/bhaga/wire/Api;"⟩ : MethodName) (head1 (Jvm.Cond.code (⟨"com/example/bhaga/bhaga/wire/ApiServesPinLaw", "pick", "(I)Lcom/example/bhaga/bhaga/wire/Api;"⟩ : MethodName) method_3_code 1 (some (.object "com/example/bhaga/bhaga/wire/Api")) :: ws) ({ frames := 0, cells := 0, slots := 0, locals := 0 } : Room)) (fun a U => a = #[(.int (10 : Int32))] ∧ Z.Warmed39 U.vm ∧ U.heap = h0) (fun _ _ _ _ _ => True) (fun _ U o U' => ∃ v L, o = .returned v ∧ Q_own_pick10 Z A h0 n0 v U'.heap L ∧ FrameEnd U o U' L ({ frames := 0, cells := 0, slots := 0, locals := 0 } : Room).cells ({ frames := 0, cells := 0, slots := 0, locals := 0 } : Room).slots) := by
  refine MetFree.of_bodySF (plainFor_of_name own_pn_com_example_bhaga_bhaga_wire_ApiServesPinLaw) hisR ?_
  intro p e s m args below meth c s₁ Bd hml0 hP hK
  obtain ⟨rfl, hZ, hh⟩ := hP
  have hx := Bd.exec
  have hby := Bd.bytes
  have hml : c.maxLocals = 1 := hml0
  have hown : s.vm.findClass "com/example/bhaga/bhaga/wire/ApiServesPinLaw" = some m.cls := findClass_of_methodNamed Bd.named
  have hnm := (name_of_methodNamed Bd.named Bd.method).1
  have hlk : meth.locks = false := BodyLoose.notSynchronized Bd
  have X0 : Stand p l e ({ frames := 0, cells := 0, slots := 0, locals := 0 } : Room) s m #[(.int (10 : Int32))] below meth c s₁ [] 0 0 := Stand.of_body Bd
  have e0 : s₁.heap = h0 := by rw [← hh, Bd.state]; rfl
  have N0 := Fr.nil n0
  show own_Go p e below #[(.int (10 : Int32))] s (fun _ U o U' => ∃ v L, o = .returned v ∧ Q_own_pick10 Z A h0 n0 v U'.heap L ∧ FrameEnd U o U' L ({ frames := 0, cells := 0, slots := 0, locals := 0 } : Room).cells ({ frames := 0, cells := 0, slots := 0, locals := 0 } : Room).slots) (s₁.setTop (entryFrame m #[(.int (10 : Int32))] 1))
  refine own_st (V := s₁.setTop (mkF m 0 #[.val (.int (10 : Int32))] [])) (fun t k => castTop (by first | (simp [entryFrame, mkF, argsToLocals, Value.category]; done) | rfl) k) ?_
  refine own_st (V := s₁.setTop (mkF m 1 #[.val (.int (10 : Int32))] [(.int (10 : Int32))])) (fun t k => XS.iloadN X0.here hx rfl (hb hby own_d1_0) rfl k) ?_
  refine own_st (V := s₁.setTop (mkF m 8 #[.val (.int (10 : Int32))] [])) (fun t k => XS.ifYes X0.here hx rfl (pc0 := 1) (pc' := 8) rfl (hb hby own_d1_1) rfl ((if0 _ _).trans (feq (by decide : ¬ ((10 : Int32) = (0 : Int32)))).2) (by decide) (by decide) k) ?_
  refine own_st (V := s₁.setTop (mkF m 9 #[.val (.int (10 : Int32))] [(.int (10 : Int32))])) (fun t k => XS.iloadN X0.here hx rfl (hb hby own_d1_8) rfl k) ?_
  refine own_st (V := s₁.setTop (mkF m 10 #[.val (.int (10 : Int32))] [(.int (1 : Int32)), (.int (10 : Int32))])) (fun t k => XS.iconst X0.here hx rfl (hb hby own_d1_9) k) ?_
  refine own_st (V := s₁.setTop (mkF m 17 #[.val (.int (10 : Int32))] [])) (fun t k => XS.icmpYes X0.here hx rfl (pc0 := 10) (pc' := 17) rfl (hb hby own_d1_10) rfl (feq (by decide : ¬ ((10 : Int32) = (1 : Int32)))).2 (by decide) (by decide) k) ?_
  refine own_st (V := s₁.setTop (mkF m 18 #[.val (.int (10 : Int32))] [(.int (10 : Int32))])) (fun t k => XS.iloadN X0.here hx rfl (hb hby own_d1_17) rfl k) ?_
  refine own_st (V := s₁.setTop (mkF m 19 #[.val (.int (10 : Int32))] [(.int (2 : Int32)), (.int (10 : Int32))])) (fun t k => XS.iconst X0.here hx rfl (hb hby own_d1_18) k) ?_
  refine own_st (V := s₁.setTop (mkF m 26 #[.val (.int (10 : Int32))] [])) (fun t k => XS.icmpYes X0.here hx rfl (pc0 := 19) (pc' := 26) rfl (hb hby own_d1_19) rfl (feq (by decide : ¬ ((10 : Int32) = (2 : Int32)))).2 (by decide) (by decide) k) ?_
  refine own_st (V := s₁.setTop (mkF m 27 #[.val (.int (10 : Int32))] [(.int (10 : Int32))])) (fun t k => XS.iloadN X0.here hx rfl (hb hby own_d1_26) rfl k) ?_
  refine own_st (V := s₁.setTop (mkF m 28 #[.val (.int (10 : Int32))] [(.int (3 : Int32)), (.int (10 : Int32))])) (fun t k => XS.iconst X0.here hx rfl (hb hby own_d1_27) k) ?_
  refine own_st (V := s₁.setTop (mkF m 35 #[.val (.int (10 : Int32))] [])) (fun t k => XS.icmpYes X0.here hx rfl (pc0 := 28) (pc' := 35) rfl (hb hby own_d1_28) rfl (feq (by decide : ¬ ((10 : Int32) = (3 : Int32)))).2 (by decide) (by decide) k) ?_
  refine own_st (V := s₁.setTop (mkF m 36 #[.val (.int (10 : Int32))] [(.int (10 : Int32))])) (fun t k => XS.iloadN X0.here hx rfl (hb hby own_d1_35) rfl k) ?_
  refine own_st (V := s₁.setTop (mkF m 37 #[.val (.int (10 : Int32))] [(.int (4 : Int32)), (.int (10 : Int32))])) (fun t k => XS.iconst X0.here hx rfl (hb hby own_d1_36) k) ?_
  refine own_st (V := s₁.setTop (mkF m 44 #[.val (.int (10 : Int32))] [])) (fun t k => XS.icmpYes X0.here hx rfl (pc0 := 37) (pc' := 44) rfl (hb hby own_d1_37) rfl (feq (by decide : ¬ ((10 : Int32) = (4 : Int32)))).2 (by decide) (by decide) k) ?_
  refine own_st (V := s₁.setTop (mkF m 45 #[.val (.int (10 : Int32))] [(.int (10 : Int32))])) (fun t k => XS.iloadN X0.here hx rfl (hb hby own_d1_44) rfl k) ?_
  refine own_st (V := s₁.setTop (mkF m 46 #[.val (.int (10 : Int32))] [(.int (5 : Int32)), (.int (10 : Int32))])) (fun t k => XS.iconst X0.here hx rfl (hb hby own_d1_45) k) ?_
  refine own_st (V := s₁.setTop (mkF m 53 #[.val (.int (10 : Int32))] [])) (fun t k => XS.icmpYes X0.here hx rfl (pc0 := 46) (pc' := 53) rfl (hb hby own_d1_46) rfl (feq (by decide : ¬ ((10 : Int32) = (5 : Int32)))).2 (by decide) (by decide) k) ?_
  refine own_st (V := s₁.setTop (mkF m 54 #[.val (.int (10 : Int32))] [(.int (10 : Int32))])) (fun t k => XS.iloadN X0.here hx rfl (hb hby own_d1_53) rfl k) ?_
  refine own_st (V := s₁.setTop (mkF m 56 #[.val (.int (10 : Int32))] [(.int (6 : Int32)), (.int (10 : Int32))])) (fun t k => XS.bipush X0.here hx rfl (hb hby own_d1_54) k) ?_
  refine own_st (V := s₁.setTop (mkF m 63 #[.val (.int (10 : Int32))] [])) (fun t k => XS.icmpYes X0.here hx rfl (pc0 := 56) (pc' := 63) rfl (hb hby own_d1_56) rfl (feq (by decide : ¬ ((10 : Int32) = (6 : Int32)))).2 (by decide) (by decide) k) ?_
  refine own_st (V := s₁.setTop (mkF m 64 #[.val (.int (10 : Int32))] [(.int (10 : Int32))])) (fun t k => XS.iloadN X0.here hx rfl (hb hby own_d1_63) rfl k) ?_
  refine own_st (V := s₁.setTop (mkF m 66 #[.val (.int (10 : Int32))] [(.int (7 : Int32)), (.int (10 : Int32))])) (fun t k => XS.bipush X0.here hx rfl (hb hby own_d1_64) k) ?_
  refine own_st (V := s₁.setTop (mkF m 73 #[.val (.int (10 : Int32))] [])) (fun t k => XS.icmpYes X0.here hx rfl (pc0 := 66) (pc' := 73) rfl (hb hby own_d1_66) rfl (feq (by decide : ¬ ((10 : Int32) = (7 : Int32)))).2 (by decide) (by decide) k) ?_
  refine own_st (V := s₁.setTop (mkF m 74 #[.val (.int (10 : Int32))] [(.int (10 : Int32))])) (fun t k => XS.iloadN X0.here hx rfl (hb hby own_d1_73) rfl k) ?_
  refine own_st (V := s₁.setTop (mkF m 76 #[.val (.int (10 : Int32))] [(.int (8 : Int32)), (.int (10 : Int32))])) (fun t k => XS.bipush X0.here hx rfl (hb hby own_d1_74) k) ?_
  refine own_st (V := s₁.setTop (mkF m 83 #[.val (.int (10 : Int32))] [])) (fun t k => XS.icmpYes X0.here hx rfl (pc0 := 76) (pc' := 83) rfl (hb hby own_d1_76) rfl (feq (by decide : ¬ ((10 : Int32) = (8 : Int32)))).2 (by decide) (by decide) k) ?_
  refine own_st (V := s₁.setTop (mkF m 84 #[.val (.int (10 : Int32))] [(.int (10 : Int32))])) (fun t k => XS.iloadN X0.here hx rfl (hb hby own_d1_83) rfl k) ?_
  refine own_st (V := s₁.setTop (mkF m 86 #[.val (.int (10 : Int32))] [(.int (9 : Int32)), (.int (10 : Int32))])) (fun t k => XS.bipush X0.here hx rfl (hb hby own_d1_84) k) ?_
  refine own_st (V := s₁.setTop (mkF m 93 #[.val (.int (10 : Int32))] [])) (fun t k => XS.icmpYes X0.here hx rfl (pc0 := 86) (pc' := 93) rfl (hb hby own_d1_86) rfl (feq (by decide : ¬ ((10 : Int32) = (9 : Int32)))).2 (by decide) (by decide) k) ?_
  refine own_st (V := s₁.setTop (mkF m 94 #[.val (.int (10 : Int32))] [(.int (10 : Int32))])) (fun t k => XS.iloadN X0.here hx rfl (hb hby own_d1_93) rfl k) ?_
  refine own_st (V := s₁.setTop (mkF m 96 #[.val (.int (10 : Int32))] [(.int (10 : Int32)), (.int (10 : Int32))])) (fun t k => XS.bipush X0.here hx rfl (hb hby own_d1_94) k) ?_
  refine own_st (V := s₁.setTop (mkF m 99 #[.val (.int (10 : Int32))] [])) (fun t k => XS.icmpNo X0.here hx rfl (hb hby own_d1_96) rfl (teq (by decide : (10 : Int32) = (10 : Int32))).2 k) ?_
  obtain ⟨T16, X16, e16, st16⟩ := getS2 X0 hx hZ hown (host := "") (Or.inl (hw _ (List.mem_of_getElem? (i := 38) rfl))) Via.refl e0 (own_S En 10 (i := 10) (n := "DESCRIBE_GROUPS") rfl) (g := (mkF m 99 #[.val (.int (10 : Int32))] [])) rfl (hb hby own_d1_99)
  refine own_st (V := T16.setTop (mkF m 102 #[.val (.int (10 : Int32))] [(.ref (A 10))])) (fun t k => st16 _ k) ?_
  exact own_ret X16 hx hlk Bd.returns rfl (Or.inr (Or.inr (Or.inr (Or.inr ⟨rfl, rfl, rfl⟩)))) (hb hby own_d1_102) (by decide) (by decide) (by show Q_own_pick10 Z A h0 n0 _ T16.heap _; rw [e16]; exact ⟨rfl, N0, rfl⟩)
def Q_own_em10 (Z : State)  (h0 : Heap) (n0 : Nat) (v : Option Value) (h : Heap) (L : List Loc) : Prop := v = some (.int (1 : Int32)) ∧ Fr n0 L ∧ h = h0
theorem own_d2_73 : decode method_4_code 73 = .ok (.iload_n 0, 1) := by decide +kernel
theorem own_d2_74 : decode method_4_code 74 = .ok (.bipush 10, 2) := by decide +kernel
theorem own_d2_76 : decode method_4_code 76 = .ok (.if_icmp .ne 5, 3) := by decide +kernel
theorem own_d2_79 : decode method_4_code 79 = .ok (.iconst 1, 1) := by decide +kernel
theorem own_d2_80 : decode method_4_code 80 = .ok (.ireturn, 1) := by decide +kernel
set_option maxRecDepth 65536 in
set_option maxHeartbeats 40000000 in
theorem own_em10 (l : Launch) (Z : State) (a0 : Array Value) (hw : ∀ d ∈ tables_1, d.before a0 Z = true) (ws : List Jvm.Cond)  (h0 : Heap) (n0 : Nat) (Z0 : n0 ≤ h0.size) :
    MetFree l (⟨"com/example/bhaga/bhaga/wire/ApiServesPinLaw", "expectedMax", "(I)I"⟩ : MethodName) (head1 (Jvm.Cond.code (⟨"com/example/bhaga/bhaga/wire/ApiServesPinLaw", "expectedMax", "(I)I"⟩ : MethodName) method_4_code 1 (some .int) :: ws) ({ frames := 0, cells := 0, slots := 0, locals := 0 } : Room)) (fun a U => a = #[(.int (10 : Int32))] ∧ Z.Warmed39 U.vm ∧ U.heap = h0) (fun _ _ _ _ _ => True) (fun _ U o U' => ∃ v L, o = .returned v ∧ Q_own_em10 Z  h0 n0 v U'.heap L ∧ FrameEnd U o U' L ({ frames := 0, cells := 0, slots := 0, locals := 0 } : Room).cells ({ frames := 0, cells := 0, slots := 0, locals := 0 } : Room).slots) := by
  refine MetFree.of_bodySF (plainFor_of_name own_pn_com_example_bhaga_bhaga_wire_ApiServesPinLaw) hisR ?_
  intro p e s m args below meth c s₁ Bd hml0 hP hK
  obtain ⟨rfl, hZ, hh⟩ := hP
  have hx := Bd.exec
  have hby := Bd.bytes
  have hml : c.maxLocals = 1 := hml0
  have hown : s.vm.findClass "com/example/bhaga/bhaga/wire/ApiServesPinLaw" = some m.cls := findClass_of_methodNamed Bd.named
  have hnm := (name_of_methodNamed Bd.named Bd.method).1
  have hlk : meth.locks = false := BodyLoose.notSynchronized Bd
  have X0 : Stand p l e ({ frames := 0, cells := 0, slots := 0, locals := 0 } : Room) s m #[(.int (10 : Int32))] below meth c s₁ [] 0 0 := Stand.of_body Bd
  have e0 : s₁.heap = h0 := by rw [← hh, Bd.state]; rfl
  have N0 := Fr.nil n0
  show own_Go p e below #[(.int (10 : Int32))] s (fun _ U o U' => ∃ v L, o = .returned v ∧ Q_own_em10 Z  h0 n0 v U'.heap L ∧ FrameEnd U o U' L ({ frames := 0, cells := 0, slots := 0, locals := 0 } : Room).cells ({ frames := 0, cells := 0, slots := 0, locals := 0 } : Room).slots) (s₁.setTop (entryFrame m #[(.int (10 : Int32))] 1))
  refine own_st (V := s₁.setTop (mkF m 0 #[.val (.int (10 : Int32))] [])) (fun t k => castTop (by first | (simp [entryFrame, mkF, argsToLocals, Value.category]; done) | rfl) k) ?_
  refine own_st (V := s₁.setTop (mkF m 1 #[.val (.int (10 : Int32))] [(.int (10 : Int32))])) (fun t k => XS.iloadN X0.here hx rfl (hb hby own_d2_0) rfl k) ?_
  refine own_st (V := s₁.setTop (mkF m 6 #[.val (.int (10 : Int32))] [])) (fun t k => XS.ifYes X0.here hx rfl (pc0 := 1) (pc' := 6) rfl (hb hby own_d2_1) rfl ((if0 _ _).trans (feq (by decide : ¬ ((10 : Int32) = (0 : Int32)))).2) (by decide) (by decide) k) ?_
  refine own_st (V := s₁.setTop (mkF m 7 #[.val (.int (10 : Int32))] [(.int (10 : Int32))])) (fun t k => XS.iloadN X0.here hx rfl (hb hby own_d2_6) rfl k) ?_
  refine own_st (V := s₁.setTop (mkF m 8 #[.val (.int (10 : Int32))] [(.int (1 : Int32)), (.int (10 : Int32))])) (fun t k => XS.iconst X0.here hx rfl (hb hby own_d2_7) k) ?_
  refine own_st (V := s₁.setTop (mkF m 13 #[.val (.int (10 : Int32))] [])) (fun t k => XS.icmpYes X0.here hx rfl (pc0 := 8) (pc' := 13) rfl (hb hby own_d2_8) rfl (feq (by decide : ¬ ((10 : Int32) = (1 : Int32)))).2 (by decide) (by decide) k) ?_
  refine own_st (V := s₁.setTop (mkF m 14 #[.val (.int (10 : Int32))] [(.int (10 : Int32))])) (fun t k => XS.iloadN X0.here hx rfl (hb hby own_d2_13) rfl k) ?_
  refine own_st (V := s₁.setTop (mkF m 15 #[.val (.int (10 : Int32))] [(.int (2 : Int32)), (.int (10 : Int32))])) (fun t k => XS.iconst X0.here hx rfl (hb hby own_d2_14) k) ?_
  refine own_st (V := s₁.setTop (mkF m 20 #[.val (.int (10 : Int32))] [])) (fun t k => XS.icmpYes X0.here hx rfl (pc0 := 15) (pc' := 20) rfl (hb hby own_d2_15) rfl (feq (by decide : ¬ ((10 : Int32) = (2 : Int32)))).2 (by decide) (by decide) k) ?_
  refine own_st (V := s₁.setTop (mkF m 21 #[.val (.int (10 : Int32))] [(.int (10 : Int32))])) (fun t k => XS.iloadN X0.here hx rfl (hb hby own_d2_20) rfl k) ?_
  refine own_st (V := s₁.setTop (mkF m 22 #[.val (.int (10 : Int32))] [(.int (3 : Int32)), (.int (10 : Int32))])) (fun t k => XS.iconst X0.here hx rfl (hb hby own_d2_21) k) ?_
  refine own_st (V := s₁.setTop (mkF m 27 #[.val (.int (10 : Int32))] [])) (fun t k => XS.icmpYes X0.here hx rfl (pc0 := 22) (pc' := 27) rfl (hb hby own_d2_22) rfl (feq (by decide : ¬ ((10 : Int32) = (3 : Int32)))).2 (by decide) (by decide) k) ?_
  refine own_st (V := s₁.setTop (mkF m 28 #[.val (.int (10 : Int32))] [(.int (10 : Int32))])) (fun t k => XS.iloadN X0.here hx rfl (hb hby own_d2_27) rfl k) ?_
  refine own_st (V := s₁.setTop (mkF m 29 #[.val (.int (10 : Int32))] [(.int (4 : Int32)), (.int (10 : Int32))])) (fun t k => XS.iconst X0.here hx rfl (hb hby own_d2_28) k) ?_
  refine own_st (V := s₁.setTop (mkF m 34 #[.val (.int (10 : Int32))] [])) (fun t k => XS.icmpYes X0.here hx rfl (pc0 := 29) (pc' := 34) rfl (hb hby own_d2_29) rfl (feq (by decide : ¬ ((10 : Int32) = (4 : Int32)))).2 (by decide) (by decide) k) ?_
  refine own_st (V := s₁.setTop (mkF m 35 #[.val (.int (10 : Int32))] [(.int (10 : Int32))])) (fun t k => XS.iloadN X0.here hx rfl (hb hby own_d2_34) rfl k) ?_
  refine own_st (V := s₁.setTop (mkF m 36 #[.val (.int (10 : Int32))] [(.int (5 : Int32)), (.int (10 : Int32))])) (fun t k => XS.iconst X0.here hx rfl (hb hby own_d2_35) k) ?_
  refine own_st (V := s₁.setTop (mkF m 41 #[.val (.int (10 : Int32))] [])) (fun t k => XS.icmpYes X0.here hx rfl (pc0 := 36) (pc' := 41) rfl (hb hby own_d2_36) rfl (feq (by decide : ¬ ((10 : Int32) = (5 : Int32)))).2 (by decide) (by decide) k) ?_
  refine own_st (V := s₁.setTop (mkF m 42 #[.val (.int (10 : Int32))] [(.int (10 : Int32))])) (fun t k => XS.iloadN X0.here hx rfl (hb hby own_d2_41) rfl k) ?_
  refine own_st (V := s₁.setTop (mkF m 44 #[.val (.int (10 : Int32))] [(.int (6 : Int32)), (.int (10 : Int32))])) (fun t k => XS.bipush X0.here hx rfl (hb hby own_d2_42) k) ?_
  refine own_st (V := s₁.setTop (mkF m 49 #[.val (.int (10 : Int32))] [])) (fun t k => XS.icmpYes X0.here hx rfl (pc0 := 44) (pc' := 49) rfl (hb hby own_d2_44) rfl (feq (by decide : ¬ ((10 : Int32) = (6 : Int32)))).2 (by decide) (by decide) k) ?_
  refine own_st (V := s₁.setTop (mkF m 50 #[.val (.int (10 : Int32))] [(.int (10 : Int32))])) (fun t k => XS.iloadN X0.here hx rfl (hb hby own_d2_49) rfl k) ?_
  refine own_st (V := s₁.setTop (mkF m 52 #[.val (.int (10 : Int32))] [(.int (7 : Int32)), (.int (10 : Int32))])) (fun t k => XS.bipush X0.here hx rfl (hb hby own_d2_50) k) ?_
  refine own_st (V := s₁.setTop (mkF m 57 #[.val (.int (10 : Int32))] [])) (fun t k => XS.icmpYes X0.here hx rfl (pc0 := 52) (pc' := 57) rfl (hb hby own_d2_52) rfl (feq (by decide : ¬ ((10 : Int32) = (7 : Int32)))).2 (by decide) (by decide) k) ?_
  refine own_st (V := s₁.setTop (mkF m 58 #[.val (.int (10 : Int32))] [(.int (10 : Int32))])) (fun t k => XS.iloadN X0.here hx rfl (hb hby own_d2_57) rfl k) ?_
  refine own_st (V := s₁.setTop (mkF m 60 #[.val (.int (10 : Int32))] [(.int (8 : Int32)), (.int (10 : Int32))])) (fun t k => XS.bipush X0.here hx rfl (hb hby own_d2_58) k) ?_
  refine own_st (V := s₁.setTop (mkF m 65 #[.val (.int (10 : Int32))] [])) (fun t k => XS.icmpYes X0.here hx rfl (pc0 := 60) (pc' := 65) rfl (hb hby own_d2_60) rfl (feq (by decide : ¬ ((10 : Int32) = (8 : Int32)))).2 (by decide) (by decide) k) ?_
  refine own_st (V := s₁.setTop (mkF m 66 #[.val (.int (10 : Int32))] [(.int (10 : Int32))])) (fun t k => XS.iloadN X0.here hx rfl (hb hby own_d2_65) rfl k) ?_
  refine own_st (V := s₁.setTop (mkF m 68 #[.val (.int (10 : Int32))] [(.int (9 : Int32)), (.int (10 : Int32))])) (fun t k => XS.bipush X0.here hx rfl (hb hby own_d2_66) k) ?_
  refine own_st (V := s₁.setTop (mkF m 73 #[.val (.int (10 : Int32))] [])) (fun t k => XS.icmpYes X0.here hx rfl (pc0 := 68) (pc' := 73) rfl (hb hby own_d2_68) rfl (feq (by decide : ¬ ((10 : Int32) = (9 : Int32)))).2 (by decide) (by decide) k) ?_
  refine own_st (V := s₁.setTop (mkF m 74 #[.val (.int (10 : Int32))] [(.int (10 : Int32))])) (fun t k => XS.iloadN X0.here hx rfl (hb hby own_d2_73) rfl k) ?_
  refine own_st (V := s₁.setTop (mkF m 76 #[.val (.int (10 : Int32))] [(.int (10 : Int32)), (.int (10 : Int32))])) (fun t k => XS.bipush X0.here hx rfl (hb hby own_d2_74) k) ?_
  refine own_st (V := s₁.setTop (mkF m 79 #[.val (.int (10 : Int32))] [])) (fun t k => XS.icmpNo X0.here hx rfl (hb hby own_d2_76) rfl (teq (by decide : (10 : Int32) = (10 : Int32))).2 k) ?_
  refine own_st (V := s₁.setTop (mkF m 80 #[.val (.int (10 : Int32))] [(.int (1 : Int32))])) (fun t k => XS.iconst X0.here hx rfl (hb hby own_d2_79) k) ?_
  exact own_ret X0 hx hlk Bd.returns rfl (Or.inl ⟨rfl, by simp, _, rfl⟩) (hb hby own_d2_80) (by decide) (by decide) (by show Q_own_em10 Z  h0 n0 _ s₁.heap _; rw [e0]; exact ⟨rfl, N0, rfl⟩)
def Q_own_pick11 (Z : State) (A : Nat → Addr) (h0 : Heap) (n0 : Nat) (v : Option Value) (h : Heap) (L : List Loc) : Prop := v = some (.ref (A 11)) ∧ Fr n0 L ∧ h = h0
theorem own_d1_103 : decode method_3_code 103 = .ok (.iload_n 0, 1) := by decide +kernel
theorem own_d1_104 : decode method_3_code 104 = .ok (.bipush 11, 2) := by decide +kernel
theorem own_d1_106 : decode method_3_code 106 = .ok (.if_icmp .ne 7, 3) := by decide +kernel
theorem own_d1_109 : decode method_3_code 109 = .ok (.getstatic 58, 3) := by decide +kernel
theorem own_d1_112 : decode method_3_code 112 = .ok (.areturn, 1) := by decide +kernel
set_option maxRecDepth 65536 in
set_option maxHeartbeats 40000000 in
theorem own_pick11 (l : Launch) (Z : State) (a0 : Array Value) (hw : ∀ d ∈ tables_1, d.before a0 Z = true) (ws : List Jvm.Cond) (A : Nat → Addr) (h0 : Heap) (n0 : Nat) (Z0 : n0 ≤ h0.size) (En : own_En Z h0 A) :
    MetFree l (⟨"com/example/bhaga/bhaga/wire/ApiServesPinLaw", "pick", "(I)Lcom/example/bhaga/bhaga/wire/Api;"⟩ : MethodName) (head1 (Jvm.Cond.code (⟨"com/example/bhaga/bhaga/wire/ApiServesPinLaw", "pick", "(I)Lcom/example/bhaga/bhaga/wire/Api;"⟩ : MethodName) method_3_code 1 (some (.object "com/example/bhaga/bhaga/wire/Api")) :: ws) ({ frames := 0, cells := 0, slots := 0, locals := 0 } : Room)) (fun a U => a = #[(.int (11 : Int32))] ∧ Z.Warmed39 U.vm ∧ U.heap = h0) (fun _ _ _ _ _ => True) (fun _ U o U' => ∃ v L, o = .returned v ∧ Q_own_pick11 Z A h0 n0 v U'.heap L ∧ FrameEnd U o U' L ({ frames := 0, cells := 0, slots := 0, locals := 0 } : Room).cells ({ frames := 0, cells := 0, slots := 0, locals := 0 } : Room).slots) := by
  refine MetFree.of_bodySF (plainFor_of_name own_pn_com_example_bhaga_bhaga_wire_ApiServesPinLaw) hisR ?_
  intro p e s m args below meth c s₁ Bd hml0 hP hK
  obtain ⟨rfl, hZ, hh⟩ := hP
  have hx := Bd.exec
  have hby := Bd.bytes
  have hml : c.maxLocals = 1 := hml0
  have hown : s.vm.findClass "com/example/bhaga/bhaga/wire/ApiServesPinLaw" = some m.cls := findClass_of_methodNamed Bd.named
  have hnm := (name_of_methodNamed Bd.named Bd.method).1
  have hlk : meth.locks = false := BodyLoose.notSynchronized Bd
  have X0 : Stand p l e ({ frames := 0, cells := 0, slots := 0, locals := 0 } : Room) s m #[(.int (11 : Int32))] below meth c s₁ [] 0 0 := Stand.of_body Bd
  have e0 : s₁.heap = h0 := by rw [← hh, Bd.state]; rfl
  have N0 := Fr.nil n0
  show own_Go p e below #[(.int (11 : Int32))] s (fun _ U o U' => ∃ v L, o = .returned v ∧ Q_own_pick11 Z A h0 n0 v U'.heap L ∧ FrameEnd U o U' L ({ frames := 0, cells := 0, slots := 0, locals := 0 } : Room).cells ({ frames := 0, cells := 0, slots := 0, locals := 0 } : Room).slots) (s₁.setTop (entryFrame m #[(.int (11 : Int32))] 1))
  refine own_st (V := s₁.setTop (mkF m 0 #[.val (.int (11 : Int32))] [])) (fun t k => castTop (by first | (simp [entryFrame, mkF, argsToLocals, Value.category]; done) | rfl) k) ?_
  refine own_st (V := s₁.setTop (mkF m 1 #[.val (.int (11 : Int32))] [(.int (11 : Int32))])) (fun t k => XS.iloadN X0.here hx rfl (hb hby own_d1_0) rfl k) ?_
  refine own_st (V := s₁.setTop (mkF m 8 #[.val (.int (11 : Int32))] [])) (fun t k => XS.ifYes X0.here hx rfl (pc0 := 1) (pc' := 8) rfl (hb hby own_d1_1) rfl ((if0 _ _).trans (feq (by decide : ¬ ((11 : Int32) = (0 : Int32)))).2) (by decide) (by decide) k) ?_
  refine own_st (V := s₁.setTop (mkF m 9 #[.val (.int (11 : Int32))] [(.int (11 : Int32))])) (fun t k => XS.iloadN X0.here hx rfl (hb hby own_d1_8) rfl k) ?_
  refine own_st (V := s₁.setTop (mkF m 10 #[.val (.int (11 : Int32))] [(.int (1 : Int32)), (.int (11 : Int32))])) (fun t k => XS.iconst X0.here hx rfl (hb hby own_d1_9) k) ?_
  refine own_st (V := s₁.setTop (mkF m 17 #[.val (.int (11 : Int32))] [])) (fun t k => XS.icmpYes X0.here hx rfl (pc0 := 10) (pc' := 17) rfl (hb hby own_d1_10) rfl (feq (by decide : ¬ ((11 : Int32) = (1 : Int32)))).2 (by decide) (by decide) k) ?_
  refine own_st (V := s₁.setTop (mkF m 18 #[.val (.int (11 : Int32))] [(.int (11 : Int32))])) (fun t k => XS.iloadN X0.here hx rfl (hb hby own_d1_17) rfl k) ?_
  refine own_st (V := s₁.setTop (mkF m 19 #[.val (.int (11 : Int32))] [(.int (2 : Int32)), (.int (11 : Int32))])) (fun t k => XS.iconst X0.here hx rfl (hb hby own_d1_18) k) ?_
  refine own_st (V := s₁.setTop (mkF m 26 #[.val (.int (11 : Int32))] [])) (fun t k => XS.icmpYes X0.here hx rfl (pc0 := 19) (pc' := 26) rfl (hb hby own_d1_19) rfl (feq (by decide : ¬ ((11 : Int32) = (2 : Int32)))).2 (by decide) (by decide) k) ?_
  refine own_st (V := s₁.setTop (mkF m 27 #[.val (.int (11 : Int32))] [(.int (11 : Int32))])) (fun t k => XS.iloadN X0.here hx rfl (hb hby own_d1_26) rfl k) ?_
  refine own_st (V := s₁.setTop (mkF m 28 #[.val (.int (11 : Int32))] [(.int (3 : Int32)), (.int (11 : Int32))])) (fun t k => XS.iconst X0.here hx rfl (hb hby own_d1_27) k) ?_
  refine own_st (V := s₁.setTop (mkF m 35 #[.val (.int (11 : Int32))] [])) (fun t k => XS.icmpYes X0.here hx rfl (pc0 := 28) (pc' := 35) rfl (hb hby own_d1_28) rfl (feq (by decide : ¬ ((11 : Int32) = (3 : Int32)))).2 (by decide) (by decide) k) ?_
  refine own_st (V := s₁.setTop (mkF m 36 #[.val (.int (11 : Int32))] [(.int (11 : Int32))])) (fun t k => XS.iloadN X0.here hx rfl (hb hby own_d1_35) rfl k) ?_
  refine own_st (V := s₁.setTop (mkF m 37 #[.val (.int (11 : Int32))] [(.int (4 : Int32)), (.int (11 : Int32))])) (fun t k => XS.iconst X0.here hx rfl (hb hby own_d1_36) k) ?_
  refine own_st (V := s₁.setTop (mkF m 44 #[.val (.int (11 : Int32))] [])) (fun t k => XS.icmpYes X0.here hx rfl (pc0 := 37) (pc' := 44) rfl (hb hby own_d1_37) rfl (feq (by decide : ¬ ((11 : Int32) = (4 : Int32)))).2 (by decide) (by decide) k) ?_
  refine own_st (V := s₁.setTop (mkF m 45 #[.val (.int (11 : Int32))] [(.int (11 : Int32))])) (fun t k => XS.iloadN X0.here hx rfl (hb hby own_d1_44) rfl k) ?_
  refine own_st (V := s₁.setTop (mkF m 46 #[.val (.int (11 : Int32))] [(.int (5 : Int32)), (.int (11 : Int32))])) (fun t k => XS.iconst X0.here hx rfl (hb hby own_d1_45) k) ?_
  refine own_st (V := s₁.setTop (mkF m 53 #[.val (.int (11 : Int32))] [])) (fun t k => XS.icmpYes X0.here hx rfl (pc0 := 46) (pc' := 53) rfl (hb hby own_d1_46) rfl (feq (by decide : ¬ ((11 : Int32) = (5 : Int32)))).2 (by decide) (by decide) k) ?_
  refine own_st (V := s₁.setTop (mkF m 54 #[.val (.int (11 : Int32))] [(.int (11 : Int32))])) (fun t k => XS.iloadN X0.here hx rfl (hb hby own_d1_53) rfl k) ?_
  refine own_st (V := s₁.setTop (mkF m 56 #[.val (.int (11 : Int32))] [(.int (6 : Int32)), (.int (11 : Int32))])) (fun t k => XS.bipush X0.here hx rfl (hb hby own_d1_54) k) ?_
  refine own_st (V := s₁.setTop (mkF m 63 #[.val (.int (11 : Int32))] [])) (fun t k => XS.icmpYes X0.here hx rfl (pc0 := 56) (pc' := 63) rfl (hb hby own_d1_56) rfl (feq (by decide : ¬ ((11 : Int32) = (6 : Int32)))).2 (by decide) (by decide) k) ?_
  refine own_st (V := s₁.setTop (mkF m 64 #[.val (.int (11 : Int32))] [(.int (11 : Int32))])) (fun t k => XS.iloadN X0.here hx rfl (hb hby own_d1_63) rfl k) ?_
  refine own_st (V := s₁.setTop (mkF m 66 #[.val (.int (11 : Int32))] [(.int (7 : Int32)), (.int (11 : Int32))])) (fun t k => XS.bipush X0.here hx rfl (hb hby own_d1_64) k) ?_
  refine own_st (V := s₁.setTop (mkF m 73 #[.val (.int (11 : Int32))] [])) (fun t k => XS.icmpYes X0.here hx rfl (pc0 := 66) (pc' := 73) rfl (hb hby own_d1_66) rfl (feq (by decide : ¬ ((11 : Int32) = (7 : Int32)))).2 (by decide) (by decide) k) ?_
  refine own_st (V := s₁.setTop (mkF m 74 #[.val (.int (11 : Int32))] [(.int (11 : Int32))])) (fun t k => XS.iloadN X0.here hx rfl (hb hby own_d1_73) rfl k) ?_
  refine own_st (V := s₁.setTop (mkF m 76 #[.val (.int (11 : Int32))] [(.int (8 : Int32)), (.int (11 : Int32))])) (fun t k => XS.bipush X0.here hx rfl (hb hby own_d1_74) k) ?_
  refine own_st (V := s₁.setTop (mkF m 83 #[.val (.int (11 : Int32))] [])) (fun t k => XS.icmpYes X0.here hx rfl (pc0 := 76) (pc' := 83) rfl (hb hby own_d1_76) rfl (feq (by decide : ¬ ((11 : Int32) = (8 : Int32)))).2 (by decide) (by decide) k) ?_
  refine own_st (V := s₁.setTop (mkF m 84 #[.val (.int (11 : Int32))] [(.int (11 : Int32))])) (fun t k => XS.iloadN X0.here hx rfl (hb hby own_d1_83) rfl k) ?_
  refine own_st (V := s₁.setTop (mkF m 86 #[.val (.int (11 : Int32))] [(.int (9 : Int32)), (.int (11 : Int32))])) (fun t k => XS.bipush X0.here hx rfl (hb hby own_d1_84) k) ?_
  refine own_st (V := s₁.setTop (mkF m 93 #[.val (.int (11 : Int32))] [])) (fun t k => XS.icmpYes X0.here hx rfl (pc0 := 86) (pc' := 93) rfl (hb hby own_d1_86) rfl (feq (by decide : ¬ ((11 : Int32) = (9 : Int32)))).2 (by decide) (by decide) k) ?_
  refine own_st (V := s₁.setTop (mkF m 94 #[.val (.int (11 : Int32))] [(.int (11 : Int32))])) (fun t k => XS.iloadN X0.here hx rfl (hb hby own_d1_93) rfl k) ?_
  refine own_st (V := s₁.setTop (mkF m 96 #[.val (.int (11 : Int32))] [(.int (10 : Int32)), (.int (11 : Int32))])) (fun t k => XS.bipush X0.here hx rfl (hb hby own_d1_94) k) ?_
  refine own_st (V := s₁.setTop (mkF m 103 #[.val (.int (11 : Int32))] [])) (fun t k => XS.icmpYes X0.here hx rfl (pc0 := 96) (pc' := 103) rfl (hb hby own_d1_96) rfl (feq (by decide : ¬ ((11 : Int32) = (10 : Int32)))).2 (by decide) (by decide) k) ?_
  refine own_st (V := s₁.setTop (mkF m 104 #[.val (.int (11 : Int32))] [(.int (11 : Int32))])) (fun t k => XS.iloadN X0.here hx rfl (hb hby own_d1_103) rfl k) ?_
  refine own_st (V := s₁.setTop (mkF m 106 #[.val (.int (11 : Int32))] [(.int (11 : Int32)), (.int (11 : Int32))])) (fun t k => XS.bipush X0.here hx rfl (hb hby own_d1_104) k) ?_
  refine own_st (V := s₁.setTop (mkF m 109 #[.val (.int (11 : Int32))] [])) (fun t k => XS.icmpNo X0.here hx rfl (hb hby own_d1_106) rfl (teq (by decide : (11 : Int32) = (11 : Int32))).2 k) ?_
  obtain ⟨T17, X17, e17, st17⟩ := getS2 X0 hx hZ hown (host := "") (Or.inl (hw _ (List.mem_of_getElem? (i := 40) rfl))) Via.refl e0 (own_S En 11 (i := 11) (n := "LIST_GROUPS") rfl) (g := (mkF m 109 #[.val (.int (11 : Int32))] [])) rfl (hb hby own_d1_109)
  refine own_st (V := T17.setTop (mkF m 112 #[.val (.int (11 : Int32))] [(.ref (A 11))])) (fun t k => st17 _ k) ?_
  exact own_ret X17 hx hlk Bd.returns rfl (Or.inr (Or.inr (Or.inr (Or.inr ⟨rfl, rfl, rfl⟩)))) (hb hby own_d1_112) (by decide) (by decide) (by show Q_own_pick11 Z A h0 n0 _ T17.heap _; rw [e17]; exact ⟨rfl, N0, rfl⟩)
def Q_own_em11 (Z : State)  (h0 : Heap) (n0 : Nat) (v : Option Value) (h : Heap) (L : List Loc) : Prop := v = some (.int (1 : Int32)) ∧ Fr n0 L ∧ h = h0
theorem own_d2_81 : decode method_4_code 81 = .ok (.iload_n 0, 1) := by decide +kernel
theorem own_d2_82 : decode method_4_code 82 = .ok (.bipush 11, 2) := by decide +kernel
theorem own_d2_84 : decode method_4_code 84 = .ok (.if_icmp .ne 5, 3) := by decide +kernel
theorem own_d2_87 : decode method_4_code 87 = .ok (.iconst 1, 1) := by decide +kernel
theorem own_d2_88 : decode method_4_code 88 = .ok (.ireturn, 1) := by decide +kernel
set_option maxRecDepth 65536 in
set_option maxHeartbeats 40000000 in
theorem own_em11 (l : Launch) (Z : State) (a0 : Array Value) (hw : ∀ d ∈ tables_1, d.before a0 Z = true) (ws : List Jvm.Cond)  (h0 : Heap) (n0 : Nat) (Z0 : n0 ≤ h0.size) :
    MetFree l (⟨"com/example/bhaga/bhaga/wire/ApiServesPinLaw", "expectedMax", "(I)I"⟩ : MethodName) (head1 (Jvm.Cond.code (⟨"com/example/bhaga/bhaga/wire/ApiServesPinLaw", "expectedMax", "(I)I"⟩ : MethodName) method_4_code 1 (some .int) :: ws) ({ frames := 0, cells := 0, slots := 0, locals := 0 } : Room)) (fun a U => a = #[(.int (11 : Int32))] ∧ Z.Warmed39 U.vm ∧ U.heap = h0) (fun _ _ _ _ _ => True) (fun _ U o U' => ∃ v L, o = .returned v ∧ Q_own_em11 Z  h0 n0 v U'.heap L ∧ FrameEnd U o U' L ({ frames := 0, cells := 0, slots := 0, locals := 0 } : Room).cells ({ frames := 0, cells := 0, slots := 0, locals := 0 } : Room).slots) := by
  refine MetFree.of_bodySF (plainFor_of_name own_pn_com_example_bhaga_bhaga_wire_ApiServesPinLaw) hisR ?_
  intro p e s m args below meth c s₁ Bd hml0 hP hK
  obtain ⟨rfl, hZ, hh⟩ := hP
  have hx := Bd.exec
  have hby := Bd.bytes
  have hml : c.maxLocals = 1 := hml0
  have hown : s.vm.findClass "com/example/bhaga/bhaga/wire/ApiServesPinLaw" = some m.cls := findClass_of_methodNamed Bd.named
  have hnm := (name_of_methodNamed Bd.named Bd.method).1
  have hlk : meth.locks = false := BodyLoose.notSynchronized Bd
  have X0 : Stand p l e ({ frames := 0, cells := 0, slots := 0, locals := 0 } : Room) s m #[(.int (11 : Int32))] below meth c s₁ [] 0 0 := Stand.of_body Bd
  have e0 : s₁.heap = h0 := by rw [← hh, Bd.state]; rfl
  have N0 := Fr.nil n0
  show own_Go p e below #[(.int (11 : Int32))] s (fun _ U o U' => ∃ v L, o = .returned v ∧ Q_own_em11 Z  h0 n0 v U'.heap L ∧ FrameEnd U o U' L ({ frames := 0, cells := 0, slots := 0, locals := 0 } : Room).cells ({ frames := 0, cells := 0, slots := 0, locals := 0 } : Room).slots) (s₁.setTop (entryFrame m #[(.int (11 : Int32))] 1))
  refine own_st (V := s₁.setTop (mkF m 0 #[.val (.int (11 : Int32))] [])) (fun t k => castTop (by first | (simp [entryFrame, mkF, argsToLocals, Value.category]; done) | rfl) k) ?_
  refine own_st (V := s₁.setTop (mkF m 1 #[.val (.int (11 : Int32))] [(.int (11 : Int32))])) (fun t k => XS.iloadN X0.here hx rfl (hb hby own_d2_0) rfl k) ?_
  refine own_st (V := s₁.setTop (mkF m 6 #[.val (.int (11 : Int32))] [])) (fun t k => XS.ifYes X0.here hx rfl (pc0 := 1) (pc' := 6) rfl (hb hby own_d2_1) rfl ((if0 _ _).trans (feq (by decide : ¬ ((11 : Int32) = (0 : Int32)))).2) (by decide) (by decide) k) ?_
  refine own_st (V := s₁.setTop (mkF m 7 #[.val (.int (11 : Int32))] [(.int (11 : Int32))])) (fun t k => XS.iloadN X0.here hx rfl (hb hby own_d2_6) rfl k) ?_
  refine own_st (V := s₁.setTop (mkF m 8 #[.val (.int (11 : Int32))] [(.int (1 : Int32)), (.int (11 : Int32))])) (fun t k => XS.iconst X0.here hx rfl (hb hby own_d2_7) k) ?_
  refine own_st (V := s₁.setTop (mkF m 13 #[.val (.int (11 : Int32))] [])) (fun t k => XS.icmpYes X0.here hx rfl (pc0 := 8) (pc' := 13) rfl (hb hby own_d2_8) rfl (feq (by decide : ¬ ((11 : Int32) = (1 : Int32)))).2 (by decide) (by decide) k) ?_
  refine own_st (V := s₁.setTop (mkF m 14 #[.val (.int (11 : Int32))] [(.int (11 : Int32))])) (fun t k => XS.iloadN X0.here hx rfl (hb hby own_d2_13) rfl k) ?_
  refine own_st (V := s₁.setTop (mkF m 15 #[.val (.int (11 : Int32))] [(.int (2 : Int32)), (.int (11 : Int32))])) (fun t k => XS.iconst X0.here hx rfl (hb hby own_d2_14) k) ?_
  refine own_st (V := s₁.setTop (mkF m 20 #[.val (.int (11 : Int32))] [])) (fun t k => XS.icmpYes X0.here hx rfl (pc0 := 15) (pc' := 20) rfl (hb hby own_d2_15) rfl (feq (by decide : ¬ ((11 : Int32) = (2 : Int32)))).2 (by decide) (by decide) k) ?_
  refine own_st (V := s₁.setTop (mkF m 21 #[.val (.int (11 : Int32))] [(.int (11 : Int32))])) (fun t k => XS.iloadN X0.here hx rfl (hb hby own_d2_20) rfl k) ?_
  refine own_st (V := s₁.setTop (mkF m 22 #[.val (.int (11 : Int32))] [(.int (3 : Int32)), (.int (11 : Int32))])) (fun t k => XS.iconst X0.here hx rfl (hb hby own_d2_21) k) ?_
  refine own_st (V := s₁.setTop (mkF m 27 #[.val (.int (11 : Int32))] [])) (fun t k => XS.icmpYes X0.here hx rfl (pc0 := 22) (pc' := 27) rfl (hb hby own_d2_22) rfl (feq (by decide : ¬ ((11 : Int32) = (3 : Int32)))).2 (by decide) (by decide) k) ?_
  refine own_st (V := s₁.setTop (mkF m 28 #[.val (.int (11 : Int32))] [(.int (11 : Int32))])) (fun t k => XS.iloadN X0.here hx rfl (hb hby own_d2_27) rfl k) ?_
  refine own_st (V := s₁.setTop (mkF m 29 #[.val (.int (11 : Int32))] [(.int (4 : Int32)), (.int (11 : Int32))])) (fun t k => XS.iconst X0.here hx rfl (hb hby own_d2_28) k) ?_
  refine own_st (V := s₁.setTop (mkF m 34 #[.val (.int (11 : Int32))] [])) (fun t k => XS.icmpYes X0.here hx rfl (pc0 := 29) (pc' := 34) rfl (hb hby own_d2_29) rfl (feq (by decide : ¬ ((11 : Int32) = (4 : Int32)))).2 (by decide) (by decide) k) ?_
  refine own_st (V := s₁.setTop (mkF m 35 #[.val (.int (11 : Int32))] [(.int (11 : Int32))])) (fun t k => XS.iloadN X0.here hx rfl (hb hby own_d2_34) rfl k) ?_
  refine own_st (V := s₁.setTop (mkF m 36 #[.val (.int (11 : Int32))] [(.int (5 : Int32)), (.int (11 : Int32))])) (fun t k => XS.iconst X0.here hx rfl (hb hby own_d2_35) k) ?_
  refine own_st (V := s₁.setTop (mkF m 41 #[.val (.int (11 : Int32))] [])) (fun t k => XS.icmpYes X0.here hx rfl (pc0 := 36) (pc' := 41) rfl (hb hby own_d2_36) rfl (feq (by decide : ¬ ((11 : Int32) = (5 : Int32)))).2 (by decide) (by decide) k) ?_
  refine own_st (V := s₁.setTop (mkF m 42 #[.val (.int (11 : Int32))] [(.int (11 : Int32))])) (fun t k => XS.iloadN X0.here hx rfl (hb hby own_d2_41) rfl k) ?_
  refine own_st (V := s₁.setTop (mkF m 44 #[.val (.int (11 : Int32))] [(.int (6 : Int32)), (.int (11 : Int32))])) (fun t k => XS.bipush X0.here hx rfl (hb hby own_d2_42) k) ?_
  refine own_st (V := s₁.setTop (mkF m 49 #[.val (.int (11 : Int32))] [])) (fun t k => XS.icmpYes X0.here hx rfl (pc0 := 44) (pc' := 49) rfl (hb hby own_d2_44) rfl (feq (by decide : ¬ ((11 : Int32) = (6 : Int32)))).2 (by decide) (by decide) k) ?_
  refine own_st (V := s₁.setTop (mkF m 50 #[.val (.int (11 : Int32))] [(.int (11 : Int32))])) (fun t k => XS.iloadN X0.here hx rfl (hb hby own_d2_49) rfl k) ?_
  refine own_st (V := s₁.setTop (mkF m 52 #[.val (.int (11 : Int32))] [(.int (7 : Int32)), (.int (11 : Int32))])) (fun t k => XS.bipush X0.here hx rfl (hb hby own_d2_50) k) ?_
  refine own_st (V := s₁.setTop (mkF m 57 #[.val (.int (11 : Int32))] [])) (fun t k => XS.icmpYes X0.here hx rfl (pc0 := 52) (pc' := 57) rfl (hb hby own_d2_52) rfl (feq (by decide : ¬ ((11 : Int32) = (7 : Int32)))).2 (by decide) (by decide) k) ?_
  refine own_st (V := s₁.setTop (mkF m 58 #[.val (.int (11 : Int32))] [(.int (11 : Int32))])) (fun t k => XS.iloadN X0.here hx rfl (hb hby own_d2_57) rfl k) ?_
  refine own_st (V := s₁.setTop (mkF m 60 #[.val (.int (11 : Int32))] [(.int (8 : Int32)), (.int (11 : Int32))])) (fun t k => XS.bipush X0.here hx rfl (hb hby own_d2_58) k) ?_
  refine own_st (V := s₁.setTop (mkF m 65 #[.val (.int (11 : Int32))] [])) (fun t k => XS.icmpYes X0.here hx rfl (pc0 := 60) (pc' := 65) rfl (hb hby own_d2_60) rfl (feq (by decide : ¬ ((11 : Int32) = (8 : Int32)))).2 (by decide) (by decide) k) ?_
  refine own_st (V := s₁.setTop (mkF m 66 #[.val (.int (11 : Int32))] [(.int (11 : Int32))])) (fun t k => XS.iloadN X0.here hx rfl (hb hby own_d2_65) rfl k) ?_
  refine own_st (V := s₁.setTop (mkF m 68 #[.val (.int (11 : Int32))] [(.int (9 : Int32)), (.int (11 : Int32))])) (fun t k => XS.bipush X0.here hx rfl (hb hby own_d2_66) k) ?_
  refine own_st (V := s₁.setTop (mkF m 73 #[.val (.int (11 : Int32))] [])) (fun t k => XS.icmpYes X0.here hx rfl (pc0 := 68) (pc' := 73) rfl (hb hby own_d2_68) rfl (feq (by decide : ¬ ((11 : Int32) = (9 : Int32)))).2 (by decide) (by decide) k) ?_
  refine own_st (V := s₁.setTop (mkF m 74 #[.val (.int (11 : Int32))] [(.int (11 : Int32))])) (fun t k => XS.iloadN X0.here hx rfl (hb hby own_d2_73) rfl k) ?_
  refine own_st (V := s₁.setTop (mkF m 76 #[.val (.int (11 : Int32))] [(.int (10 : Int32)), (.int (11 : Int32))])) (fun t k => XS.bipush X0.here hx rfl (hb hby own_d2_74) k) ?_
  refine own_st (V := s₁.setTop (mkF m 81 #[.val (.int (11 : Int32))] [])) (fun t k => XS.icmpYes X0.here hx rfl (pc0 := 76) (pc' := 81) rfl (hb hby own_d2_76) rfl (feq (by decide : ¬ ((11 : Int32) = (10 : Int32)))).2 (by decide) (by decide) k) ?_
  refine own_st (V := s₁.setTop (mkF m 82 #[.val (.int (11 : Int32))] [(.int (11 : Int32))])) (fun t k => XS.iloadN X0.here hx rfl (hb hby own_d2_81) rfl k) ?_
  refine own_st (V := s₁.setTop (mkF m 84 #[.val (.int (11 : Int32))] [(.int (11 : Int32)), (.int (11 : Int32))])) (fun t k => XS.bipush X0.here hx rfl (hb hby own_d2_82) k) ?_
  refine own_st (V := s₁.setTop (mkF m 87 #[.val (.int (11 : Int32))] [])) (fun t k => XS.icmpNo X0.here hx rfl (hb hby own_d2_84) rfl (teq (by decide : (11 : Int32) = (11 : Int32))).2 k) ?_
  refine own_st (V := s₁.setTop (mkF m 88 #[.val (.int (11 : Int32))] [(.int (1 : Int32))])) (fun t k => XS.iconst X0.here hx rfl (hb hby own_d2_87) k) ?_
  exact own_ret X0 hx hlk Bd.returns rfl (Or.inl ⟨rfl, by simp, _, rfl⟩) (hb hby own_d2_88) (by decide) (by decide) (by show Q_own_em11 Z  h0 n0 _ s₁.heap _; rw [e0]; exact ⟨rfl, N0, rfl⟩)
def Q_own_pick12 (Z : State) (A : Nat → Addr) (h0 : Heap) (n0 : Nat) (v : Option Value) (h : Heap) (L : List Loc) : Prop := v = some (.ref (A 12)) ∧ Fr n0 L ∧ h = h0
theorem own_d1_113 : decode method_3_code 113 = .ok (.getstatic 61, 3) := by decide +kernel
theorem own_d1_116 : decode method_3_code 116 = .ok (.areturn, 1) := by decide +kernel
set_option maxRecDepth 65536 in
set_option maxHeartbeats 40000000 in
theorem own_pick12 (l : Launch) (Z : State) (a0 : Array Value) (hw : ∀ d ∈ tables_1, d.before a0 Z = true) (ws : List Jvm.Cond) (A : Nat → Addr) (h0 : Heap) (n0 : Nat) (Z0 : n0 ≤ h0.size) (En : own_En Z h0 A) :
    MetFree l (⟨"com/example/bhaga/bhaga/wire/ApiServesPinLaw", "pick", "(I)Lcom/example/bhaga/bhaga/wire/Api;"⟩ : MethodName) (head1 (Jvm.Cond.code (⟨"com/example/bhaga/bhaga/wire/ApiServesPinLaw", "pick", "(I)Lcom/example/bhaga/bhaga/wire/Api;"⟩ : MethodName) method_3_code 1 (some (.object "com/example/bhaga/bhaga/wire/Api")) :: ws) ({ frames := 0, cells := 0, slots := 0, locals := 0 } : Room)) (fun a U => a = #[(.int (12 : Int32))] ∧ Z.Warmed39 U.vm ∧ U.heap = h0) (fun _ _ _ _ _ => True) (fun _ U o U' => ∃ v L, o = .returned v ∧ Q_own_pick12 Z A h0 n0 v U'.heap L ∧ FrameEnd U o U' L ({ frames := 0, cells := 0, slots := 0, locals := 0 } : Room).cells ({ frames := 0, cells := 0, slots := 0, locals := 0 } : Room).slots) := by
  refine MetFree.of_bodySF (plainFor_of_name own_pn_com_example_bhaga_bhaga_wire_ApiServesPinLaw) hisR ?_
  intro p e s m args below meth c s₁ Bd hml0 hP hK
  obtain ⟨rfl, hZ, hh⟩ := hP
  have hx := Bd.exec
  have hby := Bd.bytes
  have hml : c.maxLocals = 1 := hml0
  have hown : s.vm.findClass "com/example/bhaga/bhaga/wire/ApiServesPinLaw" = some m.cls := findClass_of_methodNamed Bd.named
  have hnm := (name_of_methodNamed Bd.named Bd.method).1
  have hlk : meth.locks = false := BodyLoose.notSynchronized Bd
  have X0 : Stand p l e ({ frames := 0, cells := 0, slots := 0, locals := 0 } : Room) s m #[(.int (12 : Int32))] below meth c s₁ [] 0 0 := Stand.of_body Bd
  have e0 : s₁.heap = h0 := by rw [← hh, Bd.state]; rfl
  have N0 := Fr.nil n0
  show own_Go p e below #[(.int (12 : Int32))] s (fun _ U o U' => ∃ v L, o = .returned v ∧ Q_own_pick12 Z A h0 n0 v U'.heap L ∧ FrameEnd U o U' L ({ frames := 0, cells := 0, slots := 0, locals := 0 } : Room).cells ({ frames := 0, cells := 0, slots := 0, locals := 0 } : Room).slots) (s₁.setTop (entryFrame m #[(.int (12 : Int32))] 1))
  refine own_st (V := s₁.setTop (mkF m 0 #[.val (.int (12 : Int32))] [])) (fun t k => castTop (by first | (simp [entryFrame, mkF, argsToLocals, Value.category]; done) | rfl) k) ?_
  refine own_st (V := s₁.setTop (mkF m 1 #[.val (.int (12 : Int32))] [(.int (12 : Int32))])) (fun t k => XS.iloadN X0.here hx rfl (hb hby own_d1_0) rfl k) ?_
  refine own_st (V := s₁.setTop (mkF m 8 #[.val (.int (12 : Int32))] [])) (fun t k => XS.ifYes X0.here hx rfl (pc0 := 1) (pc' := 8) rfl (hb hby own_d1_1) rfl ((if0 _ _).trans (feq (by decide : ¬ ((12 : Int32) = (0 : Int32)))).2) (by decide) (by decide) k) ?_
  refine own_st (V := s₁.setTop (mkF m 9 #[.val (.int (12 : Int32))] [(.int (12 : Int32))])) (fun t k => XS.iloadN X0.here hx rfl (hb hby own_d1_8) rfl k) ?_
  refine own_st (V := s₁.setTop (mkF m 10 #[.val (.int (12 : Int32))] [(.int (1 : Int32)), (.int (12 : Int32))])) (fun t k => XS.iconst X0.here hx rfl (hb hby own_d1_9) k) ?_
  refine own_st (V := s₁.setTop (mkF m 17 #[.val (.int (12 : Int32))] [])) (fun t k => XS.icmpYes X0.here hx rfl (pc0 := 10) (pc' := 17) rfl (hb hby own_d1_10) rfl (feq (by decide : ¬ ((12 : Int32) = (1 : Int32)))).2 (by decide) (by decide) k) ?_
  refine own_st (V := s₁.setTop (mkF m 18 #[.val (.int (12 : Int32))] [(.int (12 : Int32))])) (fun t k => XS.iloadN X0.here hx rfl (hb hby own_d1_17) rfl k) ?_
  refine own_st (V := s₁.setTop (mkF m 19 #[.val (.int (12 : Int32))] [(.int (2 : Int32)), (.int (12 : Int32))])) (fun t k => XS.iconst X0.here hx rfl (hb hby own_d1_18) k) ?_
  refine own_st (V := s₁.setTop (mkF m 26 #[.val (.int (12 : Int32))] [])) (fun t k => XS.icmpYes X0.here hx rfl (pc0 := 19) (pc' := 26) rfl (hb hby own_d1_19) rfl (feq (by decide : ¬ ((12 : Int32) = (2 : Int32)))).2 (by decide) (by decide) k) ?_
  refine own_st (V := s₁.setTop (mkF m 27 #[.val (.int (12 : Int32))] [(.int (12 : Int32))])) (fun t k => XS.iloadN X0.here hx rfl (hb hby own_d1_26) rfl k) ?_
  refine own_st (V := s₁.setTop (mkF m 28 #[.val (.int (12 : Int32))] [(.int (3 : Int32)), (.int (12 : Int32))])) (fun t k => XS.iconst X0.here hx rfl (hb hby own_d1_27) k) ?_
  refine own_st (V := s₁.setTop (mkF m 35 #[.val (.int (12 : Int32))] [])) (fun t k => XS.icmpYes X0.here hx rfl (pc0 := 28) (pc' := 35) rfl (hb hby own_d1_28) rfl (feq (by decide : ¬ ((12 : Int32) = (3 : Int32)))).2 (by decide) (by decide) k) ?_
  refine own_st (V := s₁.setTop (mkF m 36 #[.val (.int (12 : Int32))] [(.int (12 : Int32))])) (fun t k => XS.iloadN X0.here hx rfl (hb hby own_d1_35) rfl k) ?_
  refine own_st (V := s₁.setTop (mkF m 37 #[.val (.int (12 : Int32))] [(.int (4 : Int32)), (.int (12 : Int32))])) (fun t k => XS.iconst X0.here hx rfl (hb hby own_d1_36) k) ?_
  refine own_st (V := s₁.setTop (mkF m 44 #[.val (.int (12 : Int32))] [])) (fun t k => XS.icmpYes X0.here hx rfl (pc0 := 37) (pc' := 44) rfl (hb hby own_d1_37) rfl (feq (by decide : ¬ ((12 : Int32) = (4 : Int32)))).2 (by decide) (by decide) k) ?_
  refine own_st (V := s₁.setTop (mkF m 45 #[.val (.int (12 : Int32))] [(.int (12 : Int32))])) (fun t k => XS.iloadN X0.here hx rfl (hb hby own_d1_44) rfl k) ?_
  refine own_st (V := s₁.setTop (mkF m 46 #[.val (.int (12 : Int32))] [(.int (5 : Int32)), (.int (12 : Int32))])) (fun t k => XS.iconst X0.here hx rfl (hb hby own_d1_45) k) ?_
  refine own_st (V := s₁.setTop (mkF m 53 #[.val (.int (12 : Int32))] [])) (fun t k => XS.icmpYes X0.here hx rfl (pc0 := 46) (pc' := 53) rfl (hb hby own_d1_46) rfl (feq (by decide : ¬ ((12 : Int32) = (5 : Int32)))).2 (by decide) (by decide) k) ?_
  refine own_st (V := s₁.setTop (mkF m 54 #[.val (.int (12 : Int32))] [(.int (12 : Int32))])) (fun t k => XS.iloadN X0.here hx rfl (hb hby own_d1_53) rfl k) ?_
  refine own_st (V := s₁.setTop (mkF m 56 #[.val (.int (12 : Int32))] [(.int (6 : Int32)), (.int (12 : Int32))])) (fun t k => XS.bipush X0.here hx rfl (hb hby own_d1_54) k) ?_
  refine own_st (V := s₁.setTop (mkF m 63 #[.val (.int (12 : Int32))] [])) (fun t k => XS.icmpYes X0.here hx rfl (pc0 := 56) (pc' := 63) rfl (hb hby own_d1_56) rfl (feq (by decide : ¬ ((12 : Int32) = (6 : Int32)))).2 (by decide) (by decide) k) ?_
  refine own_st (V := s₁.setTop (mkF m 64 #[.val (.int (12 : Int32))] [(.int (12 : Int32))])) (fun t k => XS.iloadN X0.here hx rfl (hb hby own_d1_63) rfl k) ?_
  refine own_st (V := s₁.setTop (mkF m 66 #[.val (.int (12 : Int32))] [(.int (7 : Int32)), (.int (12 : Int32))])) (fun t k => XS.bipush X0.here hx rfl (hb hby own_d1_64) k) ?_
  refine own_st (V := s₁.setTop (mkF m 73 #[.val (.int (12 : Int32))] [])) (fun t k => XS.icmpYes X0.here hx rfl (pc0 := 66) (pc' := 73) rfl (hb hby own_d1_66) rfl (feq (by decide : ¬ ((12 : Int32) = (7 : Int32)))).2 (by decide) (by decide) k) ?_
  refine own_st (V := s₁.setTop (mkF m 74 #[.val (.int (12 : Int32))] [(.int (12 : Int32))])) (fun t k => XS.iloadN X0.here hx rfl (hb hby own_d1_73) rfl k) ?_
  refine own_st (V := s₁.setTop (mkF m 76 #[.val (.int (12 : Int32))] [(.int (8 : Int32)), (.int (12 : Int32))])) (fun t k => XS.bipush X0.here hx rfl (hb hby own_d1_74) k) ?_
  refine own_st (V := s₁.setTop (mkF m 83 #[.val (.int (12 : Int32))] [])) (fun t k => XS.icmpYes X0.here hx rfl (pc0 := 76) (pc' := 83) rfl (hb hby own_d1_76) rfl (feq (by decide : ¬ ((12 : Int32) = (8 : Int32)))).2 (by decide) (by decide) k) ?_
  refine own_st (V := s₁.setTop (mkF m 84 #[.val (.int (12 : Int32))] [(.int (12 : Int32))])) (fun t k => XS.iloadN X0.here hx rfl (hb hby own_d1_83) rfl k) ?_
  refine own_st (V := s₁.setTop (mkF m 86 #[.val (.int (12 : Int32))] [(.int (9 : Int32)), (.int (12 : Int32))])) (fun t k => XS.bipush X0.here hx rfl (hb hby own_d1_84) k) ?_
  refine own_st (V := s₁.setTop (mkF m 93 #[.val (.int (12 : Int32))] [])) (fun t k => XS.icmpYes X0.here hx rfl (pc0 := 86) (pc' := 93) rfl (hb hby own_d1_86) rfl (feq (by decide : ¬ ((12 : Int32) = (9 : Int32)))).2 (by decide) (by decide) k) ?_
  refine own_st (V := s₁.setTop (mkF m 94 #[.val (.int (12 : Int32))] [(.int (12 : Int32))])) (fun t k => XS.iloadN X0.here hx rfl (hb hby own_d1_93) rfl k) ?_
  refine own_st (V := s₁.setTop (mkF m 96 #[.val (.int (12 : Int32))] [(.int (10 : Int32)), (.int (12 : Int32))])) (fun t k => XS.bipush X0.here hx rfl (hb hby own_d1_94) k) ?_
  refine own_st (V := s₁.setTop (mkF m 103 #[.val (.int (12 : Int32))] [])) (fun t k => XS.icmpYes X0.here hx rfl (pc0 := 96) (pc' := 103) rfl (hb hby own_d1_96) rfl (feq (by decide : ¬ ((12 : Int32) = (10 : Int32)))).2 (by decide) (by decide) k) ?_
  refine own_st (V := s₁.setTop (mkF m 104 #[.val (.int (12 : Int32))] [(.int (12 : Int32))])) (fun t k => XS.iloadN X0.here hx rfl (hb hby own_d1_103) rfl k) ?_
  refine own_st (V := s₁.setTop (mkF m 106 #[.val (.int (12 : Int32))] [(.int (11 : Int32)), (.int (12 : Int32))])) (fun t k => XS.bipush X0.here hx rfl (hb hby own_d1_104) k) ?_
  refine own_st (V := s₁.setTop (mkF m 113 #[.val (.int (12 : Int32))] [])) (fun t k => XS.icmpYes X0.here hx rfl (pc0 := 106) (pc' := 113) rfl (hb hby own_d1_106) rfl (feq (by decide : ¬ ((12 : Int32) = (11 : Int32)))).2 (by decide) (by decide) k) ?_
  obtain ⟨T18, X18, e18, st18⟩ := getS2 X0 hx hZ hown (host := "") (Or.inl (hw _ (List.mem_of_getElem? (i := 34) rfl))) Via.refl e0 (own_S En 12 (i := 12) (n := "API_VERSIONS") rfl) (g := (mkF m 113 #[.val (.int (12 : Int32))] [])) rfl (hb hby own_d1_113)
  refine own_st (V := T18.setTop (mkF m 116 #[.val (.int (12 : Int32))] [(.ref (A 12))])) (fun t k => st18 _ k) ?_
  exact own_ret X18 hx hlk Bd.returns rfl (Or.inr (Or.inr (Or.inr (Or.inr ⟨rfl, rfl, rfl⟩)))) (hb hby own_d1_116) (by decide) (by decide) (by show Q_own_pick12 Z A h0 n0 _ T18.heap _; rw [e18]; exact ⟨rfl, N0, rfl⟩)
def Q_own_em12 (Z : State)  (h0 : Heap) (n0 : Nat) (v : Option Value) (h : Heap) (L : List Loc) : Prop := v = some (.int (2 : Int32)) ∧ Fr n0 L ∧ h = h0
theorem own_d2_89 : decode method_4_code 89 = .ok (.iconst 2, 1) := by decide +kernel
theorem own_d2_90 : decode method_4_code 90 = .ok (.ireturn, 1) := by decide +kernel
set_option maxRecDepth 65536 in
set_option maxHeartbeats 40000000 in
theorem own_em12 (l : Launch) (Z : State) (a0 : Array Value) (hw : ∀ d ∈ tables_1, d.before a0 Z = true) (ws : List Jvm.Cond)  (h0 : Heap) (n0 : Nat) (Z0 : n0 ≤ h0.size) :
    MetFree l (⟨"com/example/bhaga/bhaga/wire/ApiServesPinLaw", "expectedMax", "(I)I"⟩ : MethodName) (head1 (Jvm.Cond.code (⟨"com/example/bhaga/bhaga/wire/ApiServesPinLaw", "expectedMax", "(I)I"⟩ : MethodName) method_4_code 1 (some .int) :: ws) ({ frames := 0, cells := 0, slots := 0, locals := 0 } : Room)) (fun a U => a = #[(.int (12 : Int32))] ∧ Z.Warmed39 U.vm ∧ U.heap = h0) (fun _ _ _ _ _ => True) (fun _ U o U' => ∃ v L, o = .returned v ∧ Q_own_em12 Z  h0 n0 v U'.heap L ∧ FrameEnd U o U' L ({ frames := 0, cells := 0, slots := 0, locals := 0 } : Room).cells ({ frames := 0, cells := 0, slots := 0, locals := 0 } : Room).slots) := by
  refine MetFree.of_bodySF (plainFor_of_name own_pn_com_example_bhaga_bhaga_wire_ApiServesPinLaw) hisR ?_
  intro p e s m args below meth c s₁ Bd hml0 hP hK
  obtain ⟨rfl, hZ, hh⟩ := hP
  have hx := Bd.exec
  have hby := Bd.bytes
  have hml : c.maxLocals = 1 := hml0
  have hown : s.vm.findClass "com/example/bhaga/bhaga/wire/ApiServesPinLaw" = some m.cls := findClass_of_methodNamed Bd.named
  have hnm := (name_of_methodNamed Bd.named Bd.method).1
  have hlk : meth.locks = false := BodyLoose.notSynchronized Bd
  have X0 : Stand p l e ({ frames := 0, cells := 0, slots := 0, locals := 0 } : Room) s m #[(.int (12 : Int32))] below meth c s₁ [] 0 0 := Stand.of_body Bd
  have e0 : s₁.heap = h0 := by rw [← hh, Bd.state]; rfl
  have N0 := Fr.nil n0
  show own_Go p e below #[(.int (12 : Int32))] s (fun _ U o U' => ∃ v L, o = .returned v ∧ Q_own_em12 Z  h0 n0 v U'.heap L ∧ FrameEnd U o U' L ({ frames := 0, cells := 0, slots := 0, locals := 0 } : Room).cells ({ frames := 0, cells := 0, slots := 0, locals := 0 } : Room).slots) (s₁.setTop (entryFrame m #[(.int (12 : Int32))] 1))
  refine own_st (V := s₁.setTop (mkF m 0 #[.val (.int (12 : Int32))] [])) (fun t k => castTop (by first | (simp [entryFrame, mkF, argsToLocals, Value.category]; done) | rfl) k) ?_
  refine own_st (V := s₁.setTop (mkF m 1 #[.val (.int (12 : Int32))] [(.int (12 : Int32))])) (fun t k => XS.iloadN X0.here hx rfl (hb hby own_d2_0) rfl k) ?_
  refine own_st (V := s₁.setTop (mkF m 6 #[.val (.int (12 : Int32))] [])) (fun t k => XS.ifYes X0.here hx rfl (pc0 := 1) (pc' := 6) rfl (hb hby own_d2_1) rfl ((if0 _ _).trans (feq (by decide : ¬ ((12 : Int32) = (0 : Int32)))).2) (by decide) (by decide) k) ?_
  refine own_st (V := s₁.setTop (mkF m 7 #[.val (.int (12 : Int32))] [(.int (12 : Int32))])) (fun t k => XS.iloadN X0.here hx rfl (hb hby own_d2_6) rfl k) ?_
  refine own_st (V := s₁.setTop (mkF m 8 #[.val (.int (12 : Int32))] [(.int (1 : Int32)), (.int (12 : Int32))])) (fun t k => XS.iconst X0.here hx rfl (hb hby own_d2_7) k) ?_
  refine own_st (V := s₁.setTop (mkF m 13 #[.val (.int (12 : Int32))] [])) (fun t k => XS.icmpYes X0.here hx rfl (pc0 := 8) (pc' := 13) rfl (hb hby own_d2_8) rfl (feq (by decide : ¬ ((12 : Int32) = (1 : Int32)))).2 (by decide) (by decide) k) ?_
  refine own_st (V := s₁.setTop (mkF m 14 #[.val (.int (12 : Int32))] [(.int (12 : Int32))])) (fun t k => XS.iloadN X0.here hx rfl (hb hby own_d2_13) rfl k) ?_
  refine own_st (V := s₁.setTop (mkF m 15 #[.val (.int (12 : Int32))] [(.int (2 : Int32)), (.int (12 : Int32))])) (fun t k => XS.iconst X0.here hx rfl (hb hby own_d2_14) k) ?_
  refine own_st (V := s₁.setTop (mkF m 20 #[.val (.int (12 : Int32))] [])) (fun t k => XS.icmpYes X0.here hx rfl (pc0 := 15) (pc' := 20) rfl (hb hby own_d2_15) rfl (feq (by decide : ¬ ((12 : Int32) = (2 : Int32)))).2 (by decide) (by decide) k) ?_
  refine own_st (V := s₁.setTop (mkF m 21 #[.val (.int (12 : Int32))] [(.int (12 : Int32))])) (fun t k => XS.iloadN X0.here hx rfl (hb hby own_d2_20) rfl k) ?_
  refine own_st (V := s₁.setTop (mkF m 22 #[.val (.int (12 : Int32))] [(.int (3 : Int32)), (.int (12 : Int32))])) (fun t k => XS.iconst X0.here hx rfl (hb hby own_d2_21) k) ?_
  refine own_st (V := s₁.setTop (mkF m 27 #[.val (.int (12 : Int32))] [])) (fun t k => XS.icmpYes X0.here hx rfl (pc0 := 22) (pc' := 27) rfl (hb hby own_d2_22) rfl (feq (by decide : ¬ ((12 : Int32) = (3 : Int32)))).2 (by decide) (by decide) k) ?_
  refine own_st (V := s₁.setTop (mkF m 28 #[.val (.int (12 : Int32))] [(.int (12 : Int32))])) (fun t k => XS.iloadN X0.here hx rfl (hb hby own_d2_27) rfl k) ?_
  refine own_st (V := s₁.setTop (mkF m 29 #[.val (.int (12 : Int32))] [(.int (4 : Int32)), (.int (12 : Int32))])) (fun t k => XS.iconst X0.here hx rfl (hb hby own_d2_28) k) ?_
  refine own_st (V := s₁.setTop (mkF m 34 #[.val (.int (12 : Int32))] [])) (fun t k => XS.icmpYes X0.here hx rfl (pc0 := 29) (pc' := 34) rfl (hb hby own_d2_29) rfl (feq (by decide : ¬ ((12 : Int32) = (4 : Int32)))).2 (by decide) (by decide) k) ?_
  refine own_st (V := s₁.setTop (mkF m 35 #[.val (.int (12 : Int32))] [(.int (12 : Int32))])) (fun t k => XS.iloadN X0.here hx rfl (hb hby own_d2_34) rfl k) ?_
  refine own_st (V := s₁.setTop (mkF m 36 #[.val (.int (12 : Int32))] [(.int (5 : Int32)), (.int (12 : Int32))])) (fun t k => XS.iconst X0.here hx rfl (hb hby own_d2_35) k) ?_
  refine own_st (V := s₁.setTop (mkF m 41 #[.val (.int (12 : Int32))] [])) (fun t k => XS.icmpYes X0.here hx rfl (pc0 := 36) (pc' := 41) rfl (hb hby own_d2_36) rfl (feq (by decide : ¬ ((12 : Int32) = (5 : Int32)))).2 (by decide) (by decide) k) ?_
  refine own_st (V := s₁.setTop (mkF m 42 #[.val (.int (12 : Int32))] [(.int (12 : Int32))])) (fun t k => XS.iloadN X0.here hx rfl (hb hby own_d2_41) rfl k) ?_
  refine own_st (V := s₁.setTop (mkF m 44 #[.val (.int (12 : Int32))] [(.int (6 : Int32)), (.int (12 : Int32))])) (fun t k => XS.bipush X0.here hx rfl (hb hby own_d2_42) k) ?_
  refine own_st (V := s₁.setTop (mkF m 49 #[.val (.int (12 : Int32))] [])) (fun t k => XS.icmpYes X0.here hx rfl (pc0 := 44) (pc' := 49) rfl (hb hby own_d2_44) rfl (feq (by decide : ¬ ((12 : Int32) = (6 : Int32)))).2 (by decide) (by decide) k) ?_
  refine own_st (V := s₁.setTop (mkF m 50 #[.val (.int (12 : Int32))] [(.int (12 : Int32))])) (fun t k => XS.iloadN X0.here hx rfl (hb hby own_d2_49) rfl k) ?_
  refine own_st (V := s₁.setTop (mkF m 52 #[.val (.int (12 : Int32))] [(.int (7 : Int32)), (.int (12 : Int32))])) (fun t k => XS.bipush X0.here hx rfl (hb hby own_d2_50) k) ?_
  refine own_st (V := s₁.setTop (mkF m 57 #[.val (.int (12 : Int32))] [])) (fun t k => XS.icmpYes X0.here hx rfl (pc0 := 52) (pc' := 57) rfl (hb hby own_d2_52) rfl (feq (by decide : ¬ ((12 : Int32) = (7 : Int32)))).2 (by decide) (by decide) k) ?_
  refine own_st (V := s₁.setTop (mkF m 58 #[.val (.int (12 : Int32))] [(.int (12 : Int32))])) (fun t k => XS.iloadN X0.here hx rfl (hb hby own_d2_57) rfl k) ?_
  refine own_st (V := s₁.setTop (mkF m 60 #[.val (.int (12 : Int32))] [(.int (8 : Int32)), (.int (12 : Int32))])) (fun t k => XS.bipush X0.here hx rfl (hb hby own_d2_58) k) ?_
  refine own_st (V := s₁.setTop (mkF m 65 #[.val (.int (12 : Int32))] [])) (fun t k => XS.icmpYes X0.here hx rfl (pc0 := 60) (pc' := 65) rfl (hb hby own_d2_60) rfl (feq (by decide : ¬ ((12 : Int32) = (8 : Int32)))).2 (by decide) (by decide) k) ?_
  refine own_st (V := s₁.setTop (mkF m 66 #[.val (.int (12 : Int32))] [(.int (12 : Int32))])) (fun t k => XS.iloadN X0.here hx rfl (hb hby own_d2_65) rfl k) ?_
  refine own_st (V := s₁.setTop (mkF m 68 #[.val (.int (12 : Int32))] [(.int (9 : Int32)), (.int (12 : Int32))])) (fun t k => XS.bipush X0.here hx rfl (hb hby own_d2_66) k) ?_
  refine own_st (V := s₁.setTop (mkF m 73 #[.val (.int (12 : Int32))] [])) (fun t k => XS.icmpYes X0.here hx rfl (pc0 := 68) (pc' := 73) rfl (hb hby own_d2_68) rfl (feq (by decide : ¬ ((12 : Int32) = (9 : Int32)))).2 (by decide) (by decide) k) ?_
  refine own_st (V := s₁.setTop (mkF m 74 #[.val (.int (12 : Int32))] [(.int (12 : Int32))])) (fun t k => XS.iloadN X0.here hx rfl (hb hby own_d2_73) rfl k) ?_
  refine own_st (V := s₁.setTop (mkF m 76 #[.val (.int (12 : Int32))] [(.int (10 : Int32)), (.int (12 : Int32))])) (fun t k => XS.bipush X0.here hx rfl (hb hby own_d2_74) k) ?_
  refine own_st (V := s₁.setTop (mkF m 81 #[.val (.int (12 : Int32))] [])) (fun t k => XS.icmpYes X0.here hx rfl (pc0 := 76) (pc' := 81) rfl (hb hby own_d2_76) rfl (feq (by decide : ¬ ((12 : Int32) = (10 : Int32)))).2 (by decide) (by decide) k) ?_
  refine own_st (V := s₁.setTop (mkF m 82 #[.val (.int (12 : Int32))] [(.int (12 : Int32))])) (fun t k => XS.iloadN X0.here hx rfl (hb hby own_d2_81) rfl k) ?_
  refine own_st (V := s₁.setTop (mkF m 84 #[.val (.int (12 : Int32))] [(.int (11 : Int32)), (.int (12 : Int32))])) (fun t k => XS.bipush X0.here hx rfl (hb hby own_d2_82) k) ?_
  refine own_st (V := s₁.setTop (mkF m 89 #[.val (.int (12 : Int32))] [])) (fun t k => XS.icmpYes X0.here hx rfl (pc0 := 84) (pc' := 89) rfl (hb hby own_d2_84) rfl (feq (by decide : ¬ ((12 : Int32) = (11 : Int32)))).2 (by decide) (by decide) k) ?_
  refine own_st (V := s₁.setTop (mkF m 90 #[.val (.int (12 : Int32))] [(.int (2 : Int32))])) (fun t k => XS.iconst X0.here hx rfl (hb hby own_d2_89) k) ?_
  exact own_ret X0 hx hlk Bd.returns rfl (Or.inl ⟨rfl, by simp, _, rfl⟩) (hb hby own_d2_90) (by decide) (by decide) (by show Q_own_em12 Z  h0 n0 _ s₁.heap _; rw [e0]; exact ⟨rfl, N0, rfl⟩)
theorem own_c (x : Int32) : ((x &&& (2147483647 : Int32)) % (13 : Int32)) = (0 : Int32) ∨ ((x &&& (2147483647 : Int32)) % (13 : Int32)) = (1 : Int32) ∨ ((x &&& (2147483647 : Int32)) % (13 : Int32)) = (2 : Int32) ∨ ((x &&& (2147483647 : Int32)) % (13 : Int32)) = (3 : Int32) ∨ ((x &&& (2147483647 : Int32)) % (13 : Int32)) = (4 : Int32) ∨ ((x &&& (2147483647 : Int32)) % (13 : Int32)) = (5 : Int32) ∨ ((x &&& (2147483647 : Int32)) % (13 : Int32)) = (6 : Int32) ∨ ((x &&& (2147483647 : Int32)) % (13 : Int32)) = (7 : Int32) ∨ ((x &&& (2147483647 : Int32)) % (13 : Int32)) = (8 : Int32) ∨ ((x &&& (2147483647 : Int32)) % (13 : Int32)) = (9 : Int32) ∨ ((x &&& (2147483647 : Int32)) % (13 : Int32)) = (10 : Int32) ∨ ((x &&& (2147483647 : Int32)) % (13 : Int32)) = (11 : Int32) ∨ ((x &&& (2147483647 : Int32)) % (13 : Int32)) = (12 : Int32) := by
  have h := c_mask x 2147483647 31 (by decide) (by decide)
  have q := (c_irem (x &&& (2147483647 : Int32)) (13 : Int32) 13 (by decide)).1 (by omega)
  have e : ∀ k : Int32, ((x &&& (2147483647 : Int32)) % (13 : Int32)).toInt = k.toInt → ((x &&& (2147483647 : Int32)) % (13 : Int32)) = k := fun k q => Int32.toInt_inj.mp q
  have b : ((x &&& (2147483647 : Int32)) % (13 : Int32)).toInt = 0 ∨ ((x &&& (2147483647 : Int32)) % (13 : Int32)).toInt = 1 ∨ ((x &&& (2147483647 : Int32)) % (13 : Int32)).toInt = 2 ∨ ((x &&& (2147483647 : Int32)) % (13 : Int32)).toInt = 3 ∨ ((x &&& (2147483647 : Int32)) % (13 : Int32)).toInt = 4 ∨ ((x &&& (2147483647 : Int32)) % (13 : Int32)).toInt = 5 ∨ ((x &&& (2147483647 : Int32)) % (13 : Int32)).toInt = 6 ∨ ((x &&& (2147483647 : Int32)) % (13 : Int32)).toInt = 7 ∨ ((x &&& (2147483647 : Int32)) % (13 : Int32)).toInt = 8 ∨ ((x &&& (2147483647 : Int32)) % (13 : Int32)).toInt = 9 ∨ ((x &&& (2147483647 : Int32)) % (13 : Int32)).toInt = 10 ∨ ((x &&& (2147483647 : Int32)) % (13 : Int32)).toInt = 11 ∨ ((x &&& (2147483647 : Int32)) % (13 : Int32)).toInt = 12 := by omega
  rcases b with b | b | b | b | b | b | b | b | b | b | b | b | b
  · exact Or.inl (e 0 b)
  · exact Or.inr (Or.inl (e 1 b))
  · exact Or.inr (Or.inr (Or.inl (e 2 b)))
  · exact Or.inr (Or.inr (Or.inr (Or.inl (e 3 b))))
  · exact Or.inr (Or.inr (Or.inr (Or.inr (Or.inl (e 4 b)))))
  · exact Or.inr (Or.inr (Or.inr (Or.inr (Or.inr (Or.inl (e 5 b))))))
  · exact Or.inr (Or.inr (Or.inr (Or.inr (Or.inr (Or.inr (Or.inl (e 6 b)))))))
  · exact Or.inr (Or.inr (Or.inr (Or.inr (Or.inr (Or.inr (Or.inr (Or.inl (e 7 b))))))))
  · exact Or.inr (Or.inr (Or.inr (Or.inr (Or.inr (Or.inr (Or.inr (Or.inr (Or.inl (e 8 b)))))))))
  · exact Or.inr (Or.inr (Or.inr (Or.inr (Or.inr (Or.inr (Or.inr (Or.inr (Or.inr (Or.inl (e 9 b))))))))))
  · exact Or.inr (Or.inr (Or.inr (Or.inr (Or.inr (Or.inr (Or.inr (Or.inr (Or.inr (Or.inr (Or.inl (e 10 b)))))))))))
  · exact Or.inr (Or.inr (Or.inr (Or.inr (Or.inr (Or.inr (Or.inr (Or.inr (Or.inr (Or.inr (Or.inr (Or.inl (e 11 b))))))))))))
  · exact Or.inr (Or.inr (Or.inr (Or.inr (Or.inr (Or.inr (Or.inr (Or.inr (Or.inr (Or.inr (Or.inr (Or.inr (e 12 b))))))))))))
def own_Q0 (Z : State) (p1 : Int32) (p2 : Int32) (A : Nat → Addr) (h0 : Heap) (n0 : Nat) (v : Option Value) (h : Heap) (L : List Loc) : Prop := v = some (.int (1 : Int32)) ∧ Fr n0 L
theorem own_pd0 : parseMethodDescriptor "(I)Lcom/example/bhaga/bhaga/wire/Api;" = some ⟨[.int], some (.object "com/example/bhaga/bhaga/wire/Api")⟩ := by decide +kernel
theorem own_pd1 : parseMethodDescriptor "(I)I" = some ⟨[.int], some .int⟩ := by decide +kernel
theorem own_pd2 : parseMethodDescriptor "(S)Z" = some ⟨[.short], some .boolean⟩ := by decide +kernel
set_option maxRecDepth 65536 in
set_option maxHeartbeats 40000000 in
theorem own_law0 (l : Launch) (Z : State) (a0 : Array Value) (hw : ∀ d ∈ tables_1, d.before a0 Z = true) (ws : List Jvm.Cond) (p1 : Int32) (p2 : Int32) (A : Nat → Addr) (h0 : Heap) (n0 : Nat) (Z0 : n0 ≤ h0.size) (En : own_En Z h0 A) (hk : ((p1 &&& (2147483647 : Int32)) % (13 : Int32)) = (0 : Int32)) :
    MetFree l x (head1 (Jvm.Cond.code x code maxLocals ret :: ws) room_1) (fun a U => a = #[(.int p1), (.int p2)] ∧ Z.Warmed39 U.vm ∧ U.heap = h0) (fun _ _ _ _ _ => True) (fun _ U o U' => ∃ v L, o = .returned v ∧ own_Q0 Z p1 p2 A h0 n0 v U'.heap L ∧ FrameEnd U o U' L room_1.cells room_1.slots) := by
  refine MetFree.of_bodySF (plainFor_of_name own_pn_com_example_bhaga_bhaga_wire_ApiServesPinLaw) hisR ?_
  intro p e s m args below meth c s₁ Bd hml0 hP hK
  obtain ⟨rfl, hZ, hh⟩ := hP
  have hx := Bd.exec
  have hby := Bd.bytes
  have hml : c.maxLocals = 7 := hml0
  have hown : s.vm.findClass "com/example/bhaga/bhaga/wire/ApiServesPinLaw" = some m.cls := findClass_of_methodNamed Bd.named
  have hnm := (name_of_methodNamed Bd.named Bd.method).1
  have hlk : meth.locks = false := BodyLoose.notSynchronized Bd
  have X0 : Stand p l e room_1 s m #[(.int p1), (.int p2)] below meth c s₁ [] 0 0 := Stand.of_body Bd
  have e0 : s₁.heap = h0 := by rw [← hh, Bd.state]; rfl
  have N0 := Fr.nil n0
  show own_Go p e below #[(.int p1), (.int p2)] s (fun _ U o U' => ∃ v L, o = .returned v ∧ own_Q0 Z p1 p2 A h0 n0 v U'.heap L ∧ FrameEnd U o U' L room_1.cells room_1.slots) (s₁.setTop (entryFrame m #[(.int p1), (.int p2)] maxLocals))
  refine own_st (V := s₁.setTop (mkF m 0 #[.val (.int p1), .val (.int p2), .unset, .unset, .unset, .unset, .unset] [])) (fun t k => castTop (by first | (simp [entryFrame, mkF, argsToLocals, Value.category, maxLocals]; done) | rfl) k) ?_
  refine own_st (V := s₁.setTop (mkF m 1 #[.val (.int p1), .val (.int p2), .unset, .unset, .unset, .unset, .unset] [(.int p1)])) (fun t k => XS.iloadN X0.here hx rfl (hb hby at_0) rfl k) ?_
  refine own_st (V := s₁.setTop (mkF m 3 #[.val (.int p1), .val (.int p2), .unset, .unset, .unset, .unset, .unset] [(.int (2147483647 : Int32)), (.int p1)])) (fun t k => X0.ldcInt hx hown (mvT hZ (hw _ (List.mem_of_getElem? (i := 0) rfl))) (g := (mkF m 1 #[.val (.int p1), .val (.int p2), .unset, .unset, .unset, .unset, .unset] [(.int p1)])) rfl (hb hby at_1) t k) ?_
  refine own_st (V := s₁.setTop (mkF m 4 #[.val (.int p1), .val (.int p2), .unset, .unset, .unset, .unset, .unset] [(.int (p1 &&& (2147483647 : Int32)))])) (fun t k => XS.iand X0.here hx rfl (hb hby at_3) rfl k) ?_
  refine own_st (V := s₁.setTop (mkF m 6 #[.val (.int p1), .val (.int p2), .unset, .unset, .unset, .unset, .unset] [(.int (13 : Int32)), (.int (p1 &&& (2147483647 : Int32)))])) (fun t k => XS.bipush X0.here hx rfl (hb hby at_4) k) ?_
  refine own_st (V := s₁.setTop (mkF m 7 #[.val (.int p1), .val (.int p2), .unset, .unset, .unset, .unset, .unset] [(.int ((p1 &&& (2147483647 : Int32)) % (13 : Int32)))])) (fun t k => Jvm.RoadKit.iremM X0 hx rfl (hb hby at_6) rfl (by decide) k) ?_
  rw [hk]
  refine own_st (V := s₁.setTop (mkF m 8 #[.val (.int p1), .val (.int p2), .val (.int (0 : Int32)), .unset, .unset, .unset, .unset] [])) (fun t k => XS.istoreN X0.here hx rfl (hb hby at_7) rfl (l' := #[.val (.int p1), .val (.int p2), .val (.int (0 : Int32)), .unset, .unset, .unset, .unset]) rfl k) ?_
  refine own_st (V := s₁.setTop (mkF m 9 #[.val (.int p1), .val (.int p2), .val (.int (0 : Int32)), .unset, .unset, .unset, .unset] [(.int (0 : Int32))])) (fun t k => XS.iloadN X0.here hx rfl (hb hby at_8) rfl k) ?_
  obtain ⟨_, _, ⟨T19, L19, k19, n19⟩, -, X19, ⟨Lc19, hQ19, l19, y19, z19⟩, st19⟩ := Jvm.LawKit.callS X0 hx (y := (⟨"com/example/bhaga/bhaga/wire/ApiServesPinLaw", "pick", "(I)Lcom/example/bhaga/bhaga/wire/Api;"⟩ : MethodName)) hown (mvT hZ (hw _ (List.mem_of_getElem? (i := 1) rfl))) (mvT hZ (hw _ (List.mem_of_getElem? (i := 2) rfl))) (mvT hZ (hw _ (List.mem_of_getElem? (i := 3) rfl))) (mvT hZ (hw _ (List.mem_of_getElem? (i := 4) rfl))) (by decide) (backOf (W := 0) (own_pick0 l Z a0 hw [] A h0 n0 Z0 En ) hZ (hw _ (List.mem_of_getElem? (i := 4) rfl)) (hw _ (List.mem_of_getElem? (i := 3) rfl)) (by decide) (by decide)) (g := (mkF m 9 #[.val (.int p1), .val (.int p2), .val (.int (0 : Int32)), .unset, .unset, .unset, .unset] [(.int (0 : Int32))])) rfl (by rw [hml]; rfl) (argsL := [(.int (0 : Int32))]) (rest := []) (lenOf own_pd0 rfl) rfl (by show 2 * 0 + _ ≤ _; exact Nat.le_of_eq rfl) (hb hby at_9) (fun _ _ => ⟨rfl, e0, (by decide : 0 + 0 ≤ _), (by decide : 0 + 0 ≤ _)⟩)
  dsimp only [Pt.U, Pt.locs, Pt.cells, Pt.slots] at X19 l19 y19 z19 st19 hQ19
  subst l19 y19 z19
  obtain ⟨rfl, N19q, e19⟩ := hQ19
  have N19 := Fr.app N0 N19q
  refine own_st (V := T19.setTop (mkF m 12 #[.val (.int p1), .val (.int p2), .val (.int (0 : Int32)), .unset, .unset, .unset, .unset] [(.ref (A 0))])) (fun t k => st19 _ k) ?_
  refine own_st (V := T19.setTop (mkF m 13 #[.val (.int p1), .val (.int p2), .val (.int (0 : Int32)), .val (.ref (A 0)), .unset, .unset, .unset] [])) (fun t k => XS.astoreN X19.here hx rfl (hb hby at_12) rfl rfl (l' := #[.val (.int p1), .val (.int p2), .val (.int (0 : Int32)), .val (.ref (A 0)), .unset, .unset, .unset]) rfl k) ?_
  refine own_st (V := T19.setTop (mkF m 14 #[.val (.int p1), .val (.int p2), .val (.int (0 : Int32)), .val (.ref (A 0)), .unset, .unset, .unset] [(.int p2)])) (fun t k => XS.iloadN X19.here hx rfl (hb hby at_13) rfl k) ?_
  refine own_st (V := T19.setTop (mkF m 15 #[.val (.int p1), .val (.int p2), .val (.int (0 : Int32)), .val (.ref (A 0)), .unset, .unset, .unset] [(.int (p2.toInt16.toInt32))])) (fun t k => XS.i2s X19.here hx rfl (hb hby at_14) rfl k) ?_
  refine own_st (V := T19.setTop (mkF m 17 #[.val (.int p1), .val (.int p2), .val (.int (0 : Int32)), .val (.ref (A 0)), .val (.int (p2.toInt16.toInt32)), .unset, .unset] [])) (fun t k => XS.istore X19.here hx rfl (hb hby at_15) rfl (l' := #[.val (.int p1), .val (.int p2), .val (.int (0 : Int32)), .val (.ref (A 0)), .val (.int (p2.toInt16.toInt32)), .unset, .unset]) rfl k) ?_
  refine own_st (V := T19.setTop (mkF m 18 #[.val (.int p1), .val (.int p2), .val (.int (0 : Int32)), .val (.ref (A 0)), .val (.int (p2.toInt16.toInt32)), .unset, .unset] [(.int (0 : Int32))])) (fun t k => XS.iloadN X19.here hx rfl (hb hby at_17) rfl k) ?_
  obtain ⟨_, _, ⟨T20, L20, k20, n20⟩, -, X20, ⟨Lc20, hQ20, l20, y20, z20⟩, st20⟩ := Jvm.LawKit.callS X19 hx (y := (⟨"com/example/bhaga/bhaga/wire/ApiServesPinLaw", "expectedMax", "(I)I"⟩ : MethodName)) hown (mvT hZ (hw _ (List.mem_of_getElem? (i := 8) rfl))) (mvT hZ (hw _ (List.mem_of_getElem? (i := 9) rfl))) (mvT hZ (hw _ (List.mem_of_getElem? (i := 3) rfl))) (mvT hZ (hw _ (List.mem_of_getElem? (i := 10) rfl))) (by decide) (backOf (W := 0) (own_em0 l Z a0 hw [] h0 n0 Z0 ) hZ (hw _ (List.mem_of_getElem? (i := 10) rfl)) (hw _ (List.mem_of_getElem? (i := 3) rfl)) (by decide) (by decide)) (g := (mkF m 18 #[.val (.int p1), .val (.int p2), .val (.int (0 : Int32)), .val (.ref (A 0)), .val (.int (p2.toInt16.toInt32)), .unset, .unset] [(.int (0 : Int32))])) rfl (by rw [hml]; rfl) (argsL := [(.int (0 : Int32))]) (rest := []) (lenOf own_pd1 rfl) rfl (by show 2 * 0 + _ ≤ _; exact Nat.le_of_eq rfl) (hb hby at_18) (fun _ _ => ⟨rfl, e19, (by decide : 0 + 0 ≤ _), (by decide : 0 + 0 ≤ _)⟩)
  dsimp only [Pt.U, Pt.locs, Pt.cells, Pt.slots] at X20 l20 y20 z20 st20 hQ20
  subst l20 y20 z20
  obtain ⟨rfl, N20q, e20⟩ := hQ20
  have N20 := Fr.app N19 N20q
  refine own_st (V := T20.setTop (mkF m 21 #[.val (.int p1), .val (.int p2), .val (.int (0 : Int32)), .val (.ref (A 0)), .val (.int (p2.toInt16.toInt32)), .unset, .unset] [(.int (4 : Int32))])) (fun t k => st20 _ k) ?_
  refine own_st (V := T20.setTop (mkF m 23 #[.val (.int p1), .val (.int p2), .val (.int (0 : Int32)), .val (.ref (A 0)), .val (.int (p2.toInt16.toInt32)), .val (.int (4 : Int32)), .unset] [])) (fun t k => XS.istore X20.here hx rfl (hb hby at_21) rfl (l' := #[.val (.int p1), .val (.int p2), .val (.int (0 : Int32)), .val (.ref (A 0)), .val (.int (p2.toInt16.toInt32)), .val (.int (4 : Int32)), .unset]) rfl k) ?_
  refine own_st (V := T20.setTop (mkF m 25 #[.val (.int p1), .val (.int p2), .val (.int (0 : Int32)), .val (.ref (A 0)), .val (.int (p2.toInt16.toInt32)), .val (.int (4 : Int32)), .unset] [(.int (p2.toInt16.toInt32))])) (fun t k => XS.iload X20.here hx rfl (hb hby at_23) rfl k) ?_
  by_cases ha : (p2.toInt16.toInt32) < (0 : Int32)
  · refine own_st (V := T20.setTop (mkF m 39 #[.val (.int p1), .val (.int p2), .val (.int (0 : Int32)), .val (.ref (A 0)), .val (.int (p2.toInt16.toInt32)), .val (.int (4 : Int32)), .unset] [])) (fun t k => XS.ifYes X20.here hx rfl (pc0 := 25) (pc' := 39) rfl (hb hby at_25) rfl ((if0 _ _).trans (tlt ha).1) (by decide) (by decide) k) ?_
    refine own_st (V := T20.setTop (mkF m 40 #[.val (.int p1), .val (.int p2), .val (.int (0 : Int32)), .val (.ref (A 0)), .val (.int (p2.toInt16.toInt32)), .val (.int (4 : Int32)), .unset] [(.int (0 : Int32))])) (fun t k => XS.iconst X20.here hx rfl (hb hby at_39) k) ?_
    refine own_st (V := T20.setTop (mkF m 42 #[.val (.int p1), .val (.int p2), .val (.int (0 : Int32)), .val (.ref (A 0)), .val (.int (p2.toInt16.toInt32)), .val (.int (4 : Int32)), .val (.int (0 : Int32))] [])) (fun t k => XS.istore X20.here hx rfl (hb hby at_40) rfl (l' := #[.val (.int p1), .val (.int p2), .val (.int (0 : Int32)), .val (.ref (A 0)), .val (.int (p2.toInt16.toInt32)), .val (.int (4 : Int32)), .val (.int (0 : Int32))]) rfl k) ?_
    refine own_st (V := T20.setTop (mkF m 43 #[.val (.int p1), .val (.int p2), .val (.int (0 : Int32)), .val (.ref (A 0)), .val (.int (p2.toInt16.toInt32)), .val (.int (4 : Int32)), .val (.int (0 : Int32))] [(.ref (A 0))])) (fun t k => XS.aloadN X20.here hx rfl (hb hby at_42) rfl rfl k) ?_
    refine own_st (V := T20.setTop (mkF m 45 #[.val (.int p1), .val (.int p2), .val (.int (0 : Int32)), .val (.ref (A 0)), .val (.int (p2.toInt16.toInt32)), .val (.int (4 : Int32)), .val (.int (0 : Int32))] [(.int (p2.toInt16.toInt32)), (.ref (A 0))])) (fun t k => XS.iload X20.here hx rfl (hb hby at_43) rfl k) ?_
    obtain ⟨cq21, kq21, q21a, q21b, q21c⟩ := isOf hZ e20 (own_E En 0 (i := 0) (n := "FETCH") rfl)
    obtain ⟨_, _, ⟨T21, L21, k21, n21⟩, -, X21, ⟨Lc21, hQ21, l21, y21, z21⟩, st21⟩ := X20.virtualBack hx (y := (⟨"com/example/bhaga/bhaga/wire/Api", "serves", "(S)Z"⟩ : MethodName)) (z := (⟨"com/example/bhaga/bhaga/wire/Api", "serves", "(S)Z"⟩ : MethodName)) hown (mvT hZ (hw _ (List.mem_of_getElem? (i := 11) rfl))) (mvT hZ (hw _ (List.mem_of_getElem? (i := 12) rfl))) (notFace_of_selects (args := #[]) (mvT hZ (hw _ (List.mem_of_getElem? (i := 14) rfl)))) (mvT hZ (hw _ (List.mem_of_getElem? (i := 14) rfl))) (mvT hZ (hw _ (List.mem_of_getElem? (i := 13) rfl))) (by decide) (backOf (W := 0) (own_ma l Z a0 hw [] (A 0) (p2.toInt16.toInt32) (4 : Int32) h0 n0 Z0 (own_F0 En 0 (i := 0) (n := "FETCH") rfl) (own_F1 En 0 (i := 0) (n := "FETCH") rfl) ha) hZ (hw _ (List.mem_of_getElem? (i := 15) rfl)) (hw _ (List.mem_of_getElem? (i := 6) rfl)) (by decide) (by decide)) q21a q21c (g := (mkF m 45 #[.val (.int p1), .val (.int p2), .val (.int (0 : Int32)), .val (.ref (A 0)), .val (.int (p2.toInt16.toInt32)), .val (.int (4 : Int32)), .val (.int (0 : Int32))] [(.int (p2.toInt16.toInt32)), (.ref (A 0))])) rfl (by rw [hml]; rfl) (Steps.refl _) (argsL := [(.int (p2.toInt16.toInt32))]) (rest := []) (lenOf own_pd2 rfl) rfl (by show 2 * 0 + _ ≤ _; exact Nat.le_of_eq rfl) (hb hby at_45) (fun _ _ => ⟨rfl, e20, (by decide : 0 + 0 ≤ _), (by decide : 0 + 0 ≤ _)⟩)
    dsimp only [Pt.U, Pt.locs, Pt.cells, Pt.slots] at X21 l21 y21 z21 st21 hQ21
    subst l21 y21 z21
    obtain ⟨rfl, N21q, e21⟩ := hQ21
    have N21 := Fr.app N20 N21q
    refine own_st (V := T21.setTop (mkF m 48 #[.val (.int p1), .val (.int p2), .val (.int (0 : Int32)), .val (.ref (A 0)), .val (.int (p2.toInt16.toInt32)), .val (.int (4 : Int32)), .val (.int (0 : Int32))] [(.int (0 : Int32))])) (fun t k => st21.trans k) ?_
    refine own_st (V := T21.setTop (mkF m 50 #[.val (.int p1), .val (.int p2), .val (.int (0 : Int32)), .val (.ref (A 0)), .val (.int (p2.toInt16.toInt32)), .val (.int (4 : Int32)), .val (.int (0 : Int32))] [(.int (0 : Int32)), (.int (0 : Int32))])) (fun t k => XS.iload X21.here hx rfl (hb hby at_48) rfl k) ?_
    refine own_st (V := T21.setTop (mkF m 53 #[.val (.int p1), .val (.int p2), .val (.int (0 : Int32)), .val (.ref (A 0)), .val (.int (p2.toInt16.toInt32)), .val (.int (4 : Int32)), .val (.int (0 : Int32))] [])) (fun t k => XS.icmpNo X21.here hx rfl (hb hby at_50) rfl (teq (by decide : (0 : Int32) = (0 : Int32))).2 k) ?_
    refine own_st (V := T21.setTop (mkF m 54 #[.val (.int p1), .val (.int p2), .val (.int (0 : Int32)), .val (.ref (A 0)), .val (.int (p2.toInt16.toInt32)), .val (.int (4 : Int32)), .val (.int (0 : Int32))] [(.int (1 : Int32))])) (fun t k => XS.iconst X21.here hx rfl (hb hby at_53) k) ?_
    refine own_st (V := T21.setTop (mkF m 58 #[.val (.int p1), .val (.int p2), .val (.int (0 : Int32)), .val (.ref (A 0)), .val (.int (p2.toInt16.toInt32)), .val (.int (4 : Int32)), .val (.int (0 : Int32))] [(.int (1 : Int32))])) (fun t k => XS.goto X21.here hx rfl (pc0 := 54) (pc' := 58) rfl (hb hby at_54) (by decide) (by decide) k) ?_
    exact own_ret X21 hx hlk Bd.returns (by decide +kernel) (Or.inl ⟨rfl, by simp, _, rfl⟩) (hb hby at_58) (by decide) (by decide) (by show own_Q0 Z p1 p2 A h0 n0 _ T21.heap _; rw [e21]; exact ⟨rfl, N21⟩)
  · refine own_st (V := T20.setTop (mkF m 28 #[.val (.int p1), .val (.int p2), .val (.int (0 : Int32)), .val (.ref (A 0)), .val (.int (p2.toInt16.toInt32)), .val (.int (4 : Int32)), .unset] [])) (fun t k => XS.ifNo X20.here hx rfl (hb hby at_25) rfl ((if0 _ _).trans (flt ha).1) k) ?_
    refine own_st (V := T20.setTop (mkF m 30 #[.val (.int p1), .val (.int p2), .val (.int (0 : Int32)), .val (.ref (A 0)), .val (.int (p2.toInt16.toInt32)), .val (.int (4 : Int32)), .unset] [(.int (p2.toInt16.toInt32))])) (fun t k => XS.iload X20.here hx rfl (hb hby at_28) rfl k) ?_
    refine own_st (V := T20.setTop (mkF m 32 #[.val (.int p1), .val (.int p2), .val (.int (0 : Int32)), .val (.ref (A 0)), .val (.int (p2.toInt16.toInt32)), .val (.int (4 : Int32)), .unset] [(.int (4 : Int32)), (.int (p2.toInt16.toInt32))])) (fun t k => XS.iload X20.here hx rfl (hb hby at_30) rfl k) ?_
    by_cases hc : (4 : Int32) < (p2.toInt16.toInt32)
    · refine own_st (V := T20.setTop (mkF m 39 #[.val (.int p1), .val (.int p2), .val (.int (0 : Int32)), .val (.ref (A 0)), .val (.int (p2.toInt16.toInt32)), .val (.int (4 : Int32)), .unset] [])) (fun t k => XS.icmpYes X20.here hx rfl (pc0 := 32) (pc' := 39) rfl (hb hby at_32) rfl (tlt hc).2.2.1 (by decide) (by decide) k) ?_
      refine own_st (V := T20.setTop (mkF m 40 #[.val (.int p1), .val (.int p2), .val (.int (0 : Int32)), .val (.ref (A 0)), .val (.int (p2.toInt16.toInt32)), .val (.int (4 : Int32)), .unset] [(.int (0 : Int32))])) (fun t k => XS.iconst X20.here hx rfl (hb hby at_39) k) ?_
      refine own_st (V := T20.setTop (mkF m 42 #[.val (.int p1), .val (.int p2), .val (.int (0 : Int32)), .val (.ref (A 0)), .val (.int (p2.toInt16.toInt32)), .val (.int (4 : Int32)), .val (.int (0 : Int32))] [])) (fun t k => XS.istore X20.here hx rfl (hb hby at_40) rfl (l' := #[.val (.int p1), .val (.int p2), .val (.int (0 : Int32)), .val (.ref (A 0)), .val (.int (p2.toInt16.toInt32)), .val (.int (4 : Int32)), .val (.int (0 : Int32))]) rfl k) ?_
      refine own_st (V := T20.setTop (mkF m 43 #[.val (.int p1), .val (.int p2), .val (.int (0 : Int32)), .val (.ref (A 0)), .val (.int (p2.toInt16.toInt32)), .val (.int (4 : Int32)), .val (.int (0 : Int32))] [(.ref (A 0))])) (fun t k => XS.aloadN X20.here hx rfl (hb hby at_42) rfl rfl k) ?_
      refine own_st (V := T20.setTop (mkF m 45 #[.val (.int p1), .val (.int p2), .val (.int (0 : Int32)), .val (.ref (A 0)), .val (.int (p2.toInt16.toInt32)), .val (.int (4 : Int32)), .val (.int (0 : Int32))] [(.int (p2.toInt16.toInt32)), (.ref (A 0))])) (fun t k => XS.iload X20.here hx rfl (hb hby at_43) rfl k) ?_
      obtain ⟨cq22, kq22, q22a, q22b, q22c⟩ := isOf hZ e20 (own_E En 0 (i := 0) (n := "FETCH") rfl)
      obtain ⟨_, _, ⟨T22, L22, k22, n22⟩, -, X22, ⟨Lc22, hQ22, l22, y22, z22⟩, st22⟩ := X20.virtualBack hx (y := (⟨"com/example/bhaga/bhaga/wire/Api", "serves", "(S)Z"⟩ : MethodName)) (z := (⟨"com/example/bhaga/bhaga/wire/Api", "serves", "(S)Z"⟩ : MethodName)) hown (mvT hZ (hw _ (List.mem_of_getElem? (i := 11) rfl))) (mvT hZ (hw _ (List.mem_of_getElem? (i := 12) rfl))) (notFace_of_selects (args := #[]) (mvT hZ (hw _ (List.mem_of_getElem? (i := 14) rfl)))) (mvT hZ (hw _ (List.mem_of_getElem? (i := 14) rfl))) (mvT hZ (hw _ (List.mem_of_getElem? (i := 13) rfl))) (by decide) (backOf (W := 0) (own_mb l Z a0 hw [] (A 0) (p2.toInt16.toInt32) (4 : Int32) h0 n0 Z0 (own_F0 En 0 (i := 0) (n := "FETCH") rfl) (own_F1 En 0 (i := 0) (n := "FETCH") rfl) ha hc) hZ (hw _ (List.mem_of_getElem? (i := 15) rfl)) (hw _ (List.mem_of_getElem? (i := 6) rfl)) (by decide) (by decide)) q22a q22c (g := (mkF m 45 #[.val (.int p1), .val (.int p2), .val (.int (0 : Int32)), .val (.ref (A 0)), .val (.int (p2.toInt16.toInt32)), .val (.int (4 : Int32)), .val (.int (0 : Int32))] [(.int (p2.toInt16.toInt32)), (.ref (A 0))])) rfl (by rw [hml]; rfl) (Steps.refl _) (argsL := [(.int (p2.toInt16.toInt32))]) (rest := []) (lenOf own_pd2 rfl) rfl (by show 2 * 0 + _ ≤ _; exact Nat.le_of_eq rfl) (hb hby at_45) (fun _ _ => ⟨rfl, e20, (by decide : 0 + 0 ≤ _), (by decide : 0 + 0 ≤ _)⟩)
      dsimp only [Pt.U, Pt.locs, Pt.cells, Pt.slots] at X22 l22 y22 z22 st22 hQ22
      subst l22 y22 z22
      obtain ⟨rfl, N22q, e22⟩ := hQ22
      have N22 := Fr.app N20 N22q
      refine own_st (V := T22.setTop (mkF m 48 #[.val (.int p1), .val (.int p2), .val (.int (0 : Int32)), .val (.ref (A 0)), .val (.int (p2.toInt16.toInt32)), .val (.int (4 : Int32)), .val (.int (0 : Int32))] [(.int (0 : Int32))])) (fun t k => st22.trans k) ?_
      refine own_st (V := T22.setTop (mkF m 50 #[.val (.int p1), .val (.int p2), .val (.int (0 : Int32)), .val (.ref (A 0)), .val (.int (p2.toInt16.toInt32)), .val (.int (4 : Int32)), .val (.int (0 : Int32))] [(.int (0 : Int32)), (.int (0 : Int32))])) (fun t k => XS.iload X22.here hx rfl (hb hby at_48) rfl k) ?_
      refine own_st (V := T22.setTop (mkF m 53 #[.val (.int p1), .val (.int p2), .val (.int (0 : Int32)), .val (.ref (A 0)), .val (.int (p2.toInt16.toInt32)), .val (.int (4 : Int32)), .val (.int (0 : Int32))] [])) (fun t k => XS.icmpNo X22.here hx rfl (hb hby at_50) rfl (teq (by decide : (0 : Int32) = (0 : Int32))).2 k) ?_
      refine own_st (V := T22.setTop (mkF m 54 #[.val (.int p1), .val (.int p2), .val (.int (0 : Int32)), .val (.ref (A 0)), .val (.int (p2.toInt16.toInt32)), .val (.int (4 : Int32)), .val (.int (0 : Int32))] [(.int (1 : Int32))])) (fun t k => XS.iconst X22.here hx rfl (hb hby at_53) k) ?_
      refine own_st (V := T22.setTop (mkF m 58 #[.val (.int p1), .val (.int p2), .val (.int (0 : Int32)), .val (.ref (A 0)), .val (.int (p2.toInt16.toInt32)), .val (.int (4 : Int32)), .val (.int (0 : Int32))] [(.int (1 : Int32))])) (fun t k => XS.goto X22.here hx rfl (pc0 := 54) (pc' := 58) rfl (hb hby at_54) (by decide) (by decide) k) ?_
      exact own_ret X22 hx hlk Bd.returns (by decide +kernel) (Or.inl ⟨rfl, by simp, _, rfl⟩) (hb hby at_58) (by decide) (by decide) (by show own_Q0 Z p1 p2 A h0 n0 _ T22.heap _; rw [e22]; exact ⟨rfl, N22⟩)
    · refine own_st (V := T20.setTop (mkF m 35 #[.val (.int p1), .val (.int p2), .val (.int (0 : Int32)), .val (.ref (A 0)), .val (.int (p2.toInt16.toInt32)), .val (.int (4 : Int32)), .unset] [])) (fun t k => XS.icmpNo X20.here hx rfl (hb hby at_32) rfl (flt hc).2.2.1 k) ?_
      refine own_st (V := T20.setTop (mkF m 36 #[.val (.int p1), .val (.int p2), .val (.int (0 : Int32)), .val (.ref (A 0)), .val (.int (p2.toInt16.toInt32)), .val (.int (4 : Int32)), .unset] [(.int (1 : Int32))])) (fun t k => XS.iconst X20.here hx rfl (hb hby at_35) k) ?_
      refine own_st (V := T20.setTop (mkF m 40 #[.val (.int p1), .val (.int p2), .val (.int (0 : Int32)), .val (.ref (A 0)), .val (.int (p2.toInt16.toInt32)), .val (.int (4 : Int32)), .unset] [(.int (1 : Int32))])) (fun t k => XS.goto X20.here hx rfl (pc0 := 36) (pc' := 40) rfl (hb hby at_36) (by decide) (by decide) k) ?_
      refine own_st (V := T20.setTop (mkF m 42 #[.val (.int p1), .val (.int p2), .val (.int (0 : Int32)), .val (.ref (A 0)), .val (.int (p2.toInt16.toInt32)), .val (.int (4 : Int32)), .val (.int (1 : Int32))] [])) (fun t k => XS.istore X20.here hx rfl (hb hby at_40) rfl (l' := #[.val (.int p1), .val (.int p2), .val (.int (0 : Int32)), .val (.ref (A 0)), .val (.int (p2.toInt16.toInt32)), .val (.int (4 : Int32)), .val (.int (1 : Int32))]) rfl k) ?_
      refine own_st (V := T20.setTop (mkF m 43 #[.val (.int p1), .val (.int p2), .val (.int (0 : Int32)), .val (.ref (A 0)), .val (.int (p2.toInt16.toInt32)), .val (.int (4 : Int32)), .val (.int (1 : Int32))] [(.ref (A 0))])) (fun t k => XS.aloadN X20.here hx rfl (hb hby at_42) rfl rfl k) ?_
      refine own_st (V := T20.setTop (mkF m 45 #[.val (.int p1), .val (.int p2), .val (.int (0 : Int32)), .val (.ref (A 0)), .val (.int (p2.toInt16.toInt32)), .val (.int (4 : Int32)), .val (.int (1 : Int32))] [(.int (p2.toInt16.toInt32)), (.ref (A 0))])) (fun t k => XS.iload X20.here hx rfl (hb hby at_43) rfl k) ?_
      obtain ⟨cq23, kq23, q23a, q23b, q23c⟩ := isOf hZ e20 (own_E En 0 (i := 0) (n := "FETCH") rfl)
      obtain ⟨_, _, ⟨T23, L23, k23, n23⟩, -, X23, ⟨Lc23, hQ23, l23, y23, z23⟩, st23⟩ := X20.virtualBack hx (y := (⟨"com/example/bhaga/bhaga/wire/Api", "serves", "(S)Z"⟩ : MethodName)) (z := (⟨"com/example/bhaga/bhaga/wire/Api", "serves", "(S)Z"⟩ : MethodName)) hown (mvT hZ (hw _ (List.mem_of_getElem? (i := 11) rfl))) (mvT hZ (hw _ (List.mem_of_getElem? (i := 12) rfl))) (notFace_of_selects (args := #[]) (mvT hZ (hw _ (List.mem_of_getElem? (i := 14) rfl)))) (mvT hZ (hw _ (List.mem_of_getElem? (i := 14) rfl))) (mvT hZ (hw _ (List.mem_of_getElem? (i := 13) rfl))) (by decide) (backOf (W := 0) (own_mc l Z a0 hw [] (A 0) (p2.toInt16.toInt32) (4 : Int32) h0 n0 Z0 (own_F0 En 0 (i := 0) (n := "FETCH") rfl) (own_F1 En 0 (i := 0) (n := "FETCH") rfl) ha hc) hZ (hw _ (List.mem_of_getElem? (i := 15) rfl)) (hw _ (List.mem_of_getElem? (i := 6) rfl)) (by decide) (by decide)) q23a q23c (g := (mkF m 45 #[.val (.int p1), .val (.int p2), .val (.int (0 : Int32)), .val (.ref (A 0)), .val (.int (p2.toInt16.toInt32)), .val (.int (4 : Int32)), .val (.int (1 : Int32))] [(.int (p2.toInt16.toInt32)), (.ref (A 0))])) rfl (by rw [hml]; rfl) (Steps.refl _) (argsL := [(.int (p2.toInt16.toInt32))]) (rest := []) (lenOf own_pd2 rfl) rfl (by show 2 * 0 + _ ≤ _; exact Nat.le_of_eq rfl) (hb hby at_45) (fun _ _ => ⟨rfl, e20, (by decide : 0 + 0 ≤ _), (by decide : 0 + 0 ≤ _)⟩)
      dsimp only [Pt.U, Pt.locs, Pt.cells, Pt.slots] at X23 l23 y23 z23 st23 hQ23
      subst l23 y23 z23
      obtain ⟨rfl, N23q, e23⟩ := hQ23
      have N23 := Fr.app N20 N23q
      refine own_st (V := T23.setTop (mkF m 48 #[.val (.int p1), .val (.int p2), .val (.int (0 : Int32)), .val (.ref (A 0)), .val (.int (p2.toInt16.toInt32)), .val (.int (4 : Int32)), .val (.int (1 : Int32))] [(.int (1 : Int32))])) (fun t k => st23.trans k) ?_
      refine own_st (V := T23.setTop (mkF m 50 #[.val (.int p1), .val (.int p2), .val (.int (0 : Int32)), .val (.ref (A 0)), .val (.int (p2.toInt16.toInt32)), .val (.int (4 : Int32)), .val (.int (1 : Int32))] [(.int (1 : Int32)), (.int (1 : Int32))])) (fun t k => XS.iload X23.here hx rfl (hb hby at_48) rfl k) ?_
      refine own_st (V := T23.setTop (mkF m 53 #[.val (.int p1), .val (.int p2), .val (.int (0 : Int32)), .val (.ref (A 0)), .val (.int (p2.toInt16.toInt32)), .val (.int (4 : Int32)), .val (.int (1 : Int32))] [])) (fun t k => XS.icmpNo X23.here hx rfl (hb hby at_50) rfl (teq (by decide : (1 : Int32) = (1 : Int32))).2 k) ?_
      refine own_st (V := T23.setTop (mkF m 54 #[.val (.int p1), .val (.int p2), .val (.int (0 : Int32)), .val (.ref (A 0)), .val (.int (p2.toInt16.toInt32)), .val (.int (4 : Int32)), .val (.int (1 : Int32))] [(.int (1 : Int32))])) (fun t k => XS.iconst X23.here hx rfl (hb hby at_53) k) ?_
      refine own_st (V := T23.setTop (mkF m 58 #[.val (.int p1), .val (.int p2), .val (.int (0 : Int32)), .val (.ref (A 0)), .val (.int (p2.toInt16.toInt32)), .val (.int (4 : Int32)), .val (.int (1 : Int32))] [(.int (1 : Int32))])) (fun t k => XS.goto X23.here hx rfl (pc0 := 54) (pc' := 58) rfl (hb hby at_54) (by decide) (by decide) k) ?_
      exact own_ret X23 hx hlk Bd.returns (by decide +kernel) (Or.inl ⟨rfl, by simp, _, rfl⟩) (hb hby at_58) (by decide) (by decide) (by show own_Q0 Z p1 p2 A h0 n0 _ T23.heap _; rw [e23]; exact ⟨rfl, N23⟩)
set_option maxRecDepth 65536 in
set_option maxHeartbeats 40000000 in
theorem own_law1 (l : Launch) (Z : State) (a0 : Array Value) (hw : ∀ d ∈ tables_1, d.before a0 Z = true) (ws : List Jvm.Cond) (p1 : Int32) (p2 : Int32) (A : Nat → Addr) (h0 : Heap) (n0 : Nat) (Z0 : n0 ≤ h0.size) (En : own_En Z h0 A) (hk : ((p1 &&& (2147483647 : Int32)) % (13 : Int32)) = (1 : Int32)) :
    MetFree l x (head1 (Jvm.Cond.code x code maxLocals ret :: ws) room_1) (fun a U => a = #[(.int p1), (.int p2)] ∧ Z.Warmed39 U.vm ∧ U.heap = h0) (fun _ _ _ _ _ => True) (fun _ U o U' => ∃ v L, o = .returned v ∧ own_Q0 Z p1 p2 A h0 n0 v U'.heap L ∧ FrameEnd U o U' L room_1.cells room_1.slots) := by
  refine MetFree.of_bodySF (plainFor_of_name own_pn_com_example_bhaga_bhaga_wire_ApiServesPinLaw) hisR ?_
  intro p e s m args below meth c s₁ Bd hml0 hP hK
  obtain ⟨rfl, hZ, hh⟩ := hP
  have hx := Bd.exec
  have hby := Bd.bytes
  have hml : c.maxLocals = 7 := hml0
  have hown : s.vm.findClass "com/example/bhaga/bhaga/wire/ApiServesPinLaw" = some m.cls := findClass_of_methodNamed Bd.named
  have hnm := (name_of_methodNamed Bd.named Bd.method).1
  have hlk : meth.locks = false := BodyLoose.notSynchronized Bd
  have X0 : Stand p l e room_1 s m #[(.int p1), (.int p2)] below meth c s₁ [] 0 0 := Stand.of_body Bd
  have e0 : s₁.heap = h0 := by rw [← hh, Bd.state]; rfl
  have N0 := Fr.nil n0
  show own_Go p e below #[(.int p1), (.int p2)] s (fun _ U o U' => ∃ v L, o = .returned v ∧ own_Q0 Z p1 p2 A h0 n0 v U'.heap L ∧ FrameEnd U o U' L room_1.cells room_1.slots) (s₁.setTop (entryFrame m #[(.int p1), (.int p2)] maxLocals))
  refine own_st (V := s₁.setTop (mkF m 0 #[.val (.int p1), .val (.int p2), .unset, .unset, .unset, .unset, .unset] [])) (fun t k => castTop (by first | (simp [entryFrame, mkF, argsToLocals, Value.category, maxLocals]; done) | rfl) k) ?_
  refine own_st (V := s₁.setTop (mkF m 1 #[.val (.int p1), .val (.int p2), .unset, .unset, .unset, .unset, .unset] [(.int p1)])) (fun t k => XS.iloadN X0.here hx rfl (hb hby at_0) rfl k) ?_
  refine own_st (V := s₁.setTop (mkF m 3 #[.val (.int p1), .val (.int p2), .unset, .unset, .unset, .unset, .unset] [(.int (2147483647 : Int32)), (.int p1)])) (fun t k => X0.ldcInt hx hown (mvT hZ (hw _ (List.mem_of_getElem? (i := 0) rfl))) (g := (mkF m 1 #[.val (.int p1), .val (.int p2), .unset, .unset, .unset, .unset, .unset] [(.int p1)])) rfl (hb hby at_1) t k) ?_
  refine own_st (V := s₁.setTop (mkF m 4 #[.val (.int p1), .val (.int p2), .unset, .unset, .unset, .unset, .unset] [(.int (p1 &&& (2147483647 : Int32)))])) (fun t k => XS.iand X0.here hx rfl (hb hby at_3) rfl k) ?_
  refine own_st (V := s₁.setTop (mkF m 6 #[.val (.int p1), .val (.int p2), .unset, .unset, .unset, .unset, .unset] [(.int (13 : Int32)), (.int (p1 &&& (2147483647 : Int32)))])) (fun t k => XS.bipush X0.here hx rfl (hb hby at_4) k) ?_
  refine own_st (V := s₁.setTop (mkF m 7 #[.val (.int p1), .val (.int p2), .unset, .unset, .unset, .unset, .unset] [(.int ((p1 &&& (2147483647 : Int32)) % (13 : Int32)))])) (fun t k => Jvm.RoadKit.iremM X0 hx rfl (hb hby at_6) rfl (by decide) k) ?_
  rw [hk]
  refine own_st (V := s₁.setTop (mkF m 8 #[.val (.int p1), .val (.int p2), .val (.int (1 : Int32)), .unset, .unset, .unset, .unset] [])) (fun t k => XS.istoreN X0.here hx rfl (hb hby at_7) rfl (l' := #[.val (.int p1), .val (.int p2), .val (.int (1 : Int32)), .unset, .unset, .unset, .unset]) rfl k) ?_
  refine own_st (V := s₁.setTop (mkF m 9 #[.val (.int p1), .val (.int p2), .val (.int (1 : Int32)), .unset, .unset, .unset, .unset] [(.int (1 : Int32))])) (fun t k => XS.iloadN X0.here hx rfl (hb hby at_8) rfl k) ?_
  obtain ⟨_, _, ⟨T24, L24, k24, n24⟩, -, X24, ⟨Lc24, hQ24, l24, y24, z24⟩, st24⟩ := Jvm.LawKit.callS X0 hx (y := (⟨"com/example/bhaga/bhaga/wire/ApiServesPinLaw", "pick", "(I)Lcom/example/bhaga/bhaga/wire/Api;"⟩ : MethodName)) hown (mvT hZ (hw _ (List.mem_of_getElem? (i := 1) rfl))) (mvT hZ (hw _ (List.mem_of_getElem? (i := 2) rfl))) (mvT hZ (hw _ (List.mem_of_getElem? (i := 3) rfl))) (mvT hZ (hw _ (List.mem_of_getElem? (i := 4) rfl))) (by decide) (backOf (W := 0) (own_pick1 l Z a0 hw [] A h0 n0 Z0 En ) hZ (hw _ (List.mem_of_getElem? (i := 4) rfl)) (hw _ (List.mem_of_getElem? (i := 3) rfl)) (by decide) (by decide)) (g := (mkF m 9 #[.val (.int p1), .val (.int p2), .val (.int (1 : Int32)), .unset, .unset, .unset, .unset] [(.int (1 : Int32))])) rfl (by rw [hml]; rfl) (argsL := [(.int (1 : Int32))]) (rest := []) (lenOf own_pd0 rfl) rfl (by show 2 * 0 + _ ≤ _; exact Nat.le_of_eq rfl) (hb hby at_9) (fun _ _ => ⟨rfl, e0, (by decide : 0 + 0 ≤ _), (by decide : 0 + 0 ≤ _)⟩)
  dsimp only [Pt.U, Pt.locs, Pt.cells, Pt.slots] at X24 l24 y24 z24 st24 hQ24
  subst l24 y24 z24
  obtain ⟨rfl, N24q, e24⟩ := hQ24
  have N24 := Fr.app N0 N24q
  refine own_st (V := T24.setTop (mkF m 12 #[.val (.int p1), .val (.int p2), .val (.int (1 : Int32)), .unset, .unset, .unset, .unset] [(.ref (A 1))])) (fun t k => st24 _ k) ?_
  refine own_st (V := T24.setTop (mkF m 13 #[.val (.int p1), .val (.int p2), .val (.int (1 : Int32)), .val (.ref (A 1)), .unset, .unset, .unset] [])) (fun t k => XS.astoreN X24.here hx rfl (hb hby at_12) rfl rfl (l' := #[.val (.int p1), .val (.int p2), .val (.int (1 : Int32)), .val (.ref (A 1)), .unset, .unset, .unset]) rfl k) ?_
  refine own_st (V := T24.setTop (mkF m 14 #[.val (.int p1), .val (.int p2), .val (.int (1 : Int32)), .val (.ref (A 1)), .unset, .unset, .unset] [(.int p2)])) (fun t k => XS.iloadN X24.here hx rfl (hb hby at_13) rfl k) ?_
  refine own_st (V := T24.setTop (mkF m 15 #[.val (.int p1), .val (.int p2), .val (.int (1 : Int32)), .val (.ref (A 1)), .unset, .unset, .unset] [(.int (p2.toInt16.toInt32))])) (fun t k => XS.i2s X24.here hx rfl (hb hby at_14) rfl k) ?_
  refine own_st (V := T24.setTop (mkF m 17 #[.val (.int p1), .val (.int p2), .val (.int (1 : Int32)), .val (.ref (A 1)), .val (.int (p2.toInt16.toInt32)), .unset, .unset] [])) (fun t k => XS.istore X24.here hx rfl (hb hby at_15) rfl (l' := #[.val (.int p1), .val (.int p2), .val (.int (1 : Int32)), .val (.ref (A 1)), .val (.int (p2.toInt16.toInt32)), .unset, .unset]) rfl k) ?_
  refine own_st (V := T24.setTop (mkF m 18 #[.val (.int p1), .val (.int p2), .val (.int (1 : Int32)), .val (.ref (A 1)), .val (.int (p2.toInt16.toInt32)), .unset, .unset] [(.int (1 : Int32))])) (fun t k => XS.iloadN X24.here hx rfl (hb hby at_17) rfl k) ?_
  obtain ⟨_, _, ⟨T25, L25, k25, n25⟩, -, X25, ⟨Lc25, hQ25, l25, y25, z25⟩, st25⟩ := Jvm.LawKit.callS X24 hx (y := (⟨"com/example/bhaga/bhaga/wire/ApiServesPinLaw", "expectedMax", "(I)I"⟩ : MethodName)) hown (mvT hZ (hw _ (List.mem_of_getElem? (i := 8) rfl))) (mvT hZ (hw _ (List.mem_of_getElem? (i := 9) rfl))) (mvT hZ (hw _ (List.mem_of_getElem? (i := 3) rfl))) (mvT hZ (hw _ (List.mem_of_getElem? (i := 10) rfl))) (by decide) (backOf (W := 0) (own_em1 l Z a0 hw [] h0 n0 Z0 ) hZ (hw _ (List.mem_of_getElem? (i := 10) rfl)) (hw _ (List.mem_of_getElem? (i := 3) rfl)) (by decide) (by decide)) (g := (mkF m 18 #[.val (.int p1), .val (.int p2), .val (.int (1 : Int32)), .val (.ref (A 1)), .val (.int (p2.toInt16.toInt32)), .unset, .unset] [(.int (1 : Int32))])) rfl (by rw [hml]; rfl) (argsL := [(.int (1 : Int32))]) (rest := []) (lenOf own_pd1 rfl) rfl (by show 2 * 0 + _ ≤ _; exact Nat.le_of_eq rfl) (hb hby at_18) (fun _ _ => ⟨rfl, e24, (by decide : 0 + 0 ≤ _), (by decide : 0 + 0 ≤ _)⟩)
  dsimp only [Pt.U, Pt.locs, Pt.cells, Pt.slots] at X25 l25 y25 z25 st25 hQ25
  subst l25 y25 z25
  obtain ⟨rfl, N25q, e25⟩ := hQ25
  have N25 := Fr.app N24 N25q
  refine own_st (V := T25.setTop (mkF m 21 #[.val (.int p1), .val (.int p2), .val (.int (1 : Int32)), .val (.ref (A 1)), .val (.int (p2.toInt16.toInt32)), .unset, .unset] [(.int (2 : Int32))])) (fun t k => st25 _ k) ?_
  refine own_st (V := T25.setTop (mkF m 23 #[.val (.int p1), .val (.int p2), .val (.int (1 : Int32)), .val (.ref (A 1)), .val (.int (p2.toInt16.toInt32)), .val (.int (2 : Int32)), .unset] [])) (fun t k => XS.istore X25.here hx rfl (hb hby at_21) rfl (l' := #[.val (.int p1), .val (.int p2), .val (.int (1 : Int32)), .val (.ref (A 1)), .val (.int (p2.toInt16.toInt32)), .val (.int (2 : Int32)), .unset]) rfl k) ?_
  refine own_st (V := T25.setTop (mkF m 25 #[.val (.int p1), .val (.int p2), .val (.int (1 : Int32)), .val (.ref (A 1)), .val (.int (p2.toInt16.toInt32)), .val (.int (2 : Int32)), .unset] [(.int (p2.toInt16.toInt32))])) (fun t k => XS.iload X25.here hx rfl (hb hby at_23) rfl k) ?_
  by_cases ha : (p2.toInt16.toInt32) < (0 : Int32)
  · refine own_st (V := T25.setTop (mkF m 39 #[.val (.int p1), .val (.int p2), .val (.int (1 : Int32)), .val (.ref (A 1)), .val (.int (p2.toInt16.toInt32)), .val (.int (2 : Int32)), .unset] [])) (fun t k => XS.ifYes X25.here hx rfl (pc0 := 25) (pc' := 39) rfl (hb hby at_25) rfl ((if0 _ _).trans (tlt ha).1) (by decide) (by decide) k) ?_
    refine own_st (V := T25.setTop (mkF m 40 #[.val (.int p1), .val (.int p2), .val (.int (1 : Int32)), .val (.ref (A 1)), .val (.int (p2.toInt16.toInt32)), .val (.int (2 : Int32)), .unset] [(.int (0 : Int32))])) (fun t k => XS.iconst X25.here hx rfl (hb hby at_39) k) ?_
    refine own_st (V := T25.setTop (mkF m 42 #[.val (.int p1), .val (.int p2), .val (.int (1 : Int32)), .val (.ref (A 1)), .val (.int (p2.toInt16.toInt32)), .val (.int (2 : Int32)), .val (.int (0 : Int32))] [])) (fun t k => XS.istore X25.here hx rfl (hb hby at_40) rfl (l' := #[.val (.int p1), .val (.int p2), .val (.int (1 : Int32)), .val (.ref (A 1)), .val (.int (p2.toInt16.toInt32)), .val (.int (2 : Int32)), .val (.int (0 : Int32))]) rfl k) ?_
    refine own_st (V := T25.setTop (mkF m 43 #[.val (.int p1), .val (.int p2), .val (.int (1 : Int32)), .val (.ref (A 1)), .val (.int (p2.toInt16.toInt32)), .val (.int (2 : Int32)), .val (.int (0 : Int32))] [(.ref (A 1))])) (fun t k => XS.aloadN X25.here hx rfl (hb hby at_42) rfl rfl k) ?_
    refine own_st (V := T25.setTop (mkF m 45 #[.val (.int p1), .val (.int p2), .val (.int (1 : Int32)), .val (.ref (A 1)), .val (.int (p2.toInt16.toInt32)), .val (.int (2 : Int32)), .val (.int (0 : Int32))] [(.int (p2.toInt16.toInt32)), (.ref (A 1))])) (fun t k => XS.iload X25.here hx rfl (hb hby at_43) rfl k) ?_
    obtain ⟨cq26, kq26, q26a, q26b, q26c⟩ := isOf hZ e25 (own_E En 1 (i := 1) (n := "LIST_OFFSETS") rfl)
    obtain ⟨_, _, ⟨T26, L26, k26, n26⟩, -, X26, ⟨Lc26, hQ26, l26, y26, z26⟩, st26⟩ := X25.virtualBack hx (y := (⟨"com/example/bhaga/bhaga/wire/Api", "serves", "(S)Z"⟩ : MethodName)) (z := (⟨"com/example/bhaga/bhaga/wire/Api", "serves", "(S)Z"⟩ : MethodName)) hown (mvT hZ (hw _ (List.mem_of_getElem? (i := 11) rfl))) (mvT hZ (hw _ (List.mem_of_getElem? (i := 12) rfl))) (notFace_of_selects (args := #[]) (mvT hZ (hw _ (List.mem_of_getElem? (i := 14) rfl)))) (mvT hZ (hw _ (List.mem_of_getElem? (i := 14) rfl))) (mvT hZ (hw _ (List.mem_of_getElem? (i := 13) rfl))) (by decide) (backOf (W := 0) (own_ma l Z a0 hw [] (A 1) (p2.toInt16.toInt32) (2 : Int32) h0 n0 Z0 (own_F0 En 1 (i := 1) (n := "LIST_OFFSETS") rfl) (own_F1 En 1 (i := 1) (n := "LIST_OFFSETS") rfl) ha) hZ (hw _ (List.mem_of_getElem? (i := 15) rfl)) (hw _ (List.mem_of_getElem? (i := 6) rfl)) (by decide) (by decide)) q26a q26c (g := (mkF m 45 #[.val (.int p1), .val (.int p2), .val (.int (1 : Int32)), .val (.ref (A 1)), .val (.int (p2.toInt16.toInt32)), .val (.int (2 : Int32)), .val (.int (0 : Int32))] [(.int (p2.toInt16.toInt32)), (.ref (A 1))])) rfl (by rw [hml]; rfl) (Steps.refl _) (argsL := [(.int (p2.toInt16.toInt32))]) (rest := []) (lenOf own_pd2 rfl) rfl (by show 2 * 0 + _ ≤ _; exact Nat.le_of_eq rfl) (hb hby at_45) (fun _ _ => ⟨rfl, e25, (by decide : 0 + 0 ≤ _), (by decide : 0 + 0 ≤ _)⟩)
    dsimp only [Pt.U, Pt.locs, Pt.cells, Pt.slots] at X26 l26 y26 z26 st26 hQ26
    subst l26 y26 z26
    obtain ⟨rfl, N26q, e26⟩ := hQ26
    have N26 := Fr.app N25 N26q
    refine own_st (V := T26.setTop (mkF m 48 #[.val (.int p1), .val (.int p2), .val (.int (1 : Int32)), .val (.ref (A 1)), .val (.int (p2.toInt16.toInt32)), .val (.int (2 : Int32)), .val (.int (0 : Int32))] [(.int (0 : Int32))])) (fun t k => st26.trans k) ?_
    refine own_st (V := T26.setTop (mkF m 50 #[.val (.int p1), .val (.int p2), .val (.int (1 : Int32)), .val (.ref (A 1)), .val (.int (p2.toInt16.toInt32)), .val (.int (2 : Int32)), .val (.int (0 : Int32))] [(.int (0 : Int32)), (.int (0 : Int32))])) (fun t k => XS.iload X26.here hx rfl (hb hby at_48) rfl k) ?_
    refine own_st (V := T26.setTop (mkF m 53 #[.val (.int p1), .val (.int p2), .val (.int (1 : Int32)), .val (.ref (A 1)), .val (.int (p2.toInt16.toInt32)), .val (.int (2 : Int32)), .val (.int (0 : Int32))] [])) (fun t k => XS.icmpNo X26.here hx rfl (hb hby at_50) rfl (teq (by decide : (0 : Int32) = (0 : Int32))).2 k) ?_
    refine own_st (V := T26.setTop (mkF m 54 #[.val (.int p1), .val (.int p2), .val (.int (1 : Int32)), .val (.ref (A 1)), .val (.int (p2.toInt16.toInt32)), .val (.int (2 : Int32)), .val (.int (0 : Int32))] [(.int (1 : Int32))])) (fun t k => XS.iconst X26.here hx rfl (hb hby at_53) k) ?_
    refine own_st (V := T26.setTop (mkF m 58 #[.val (.int p1), .val (.int p2), .val (.int (1 : Int32)), .val (.ref (A 1)), .val (.int (p2.toInt16.toInt32)), .val (.int (2 : Int32)), .val (.int (0 : Int32))] [(.int (1 : Int32))])) (fun t k => XS.goto X26.here hx rfl (pc0 := 54) (pc' := 58) rfl (hb hby at_54) (by decide) (by decide) k) ?_
    exact own_ret X26 hx hlk Bd.returns (by decide +kernel) (Or.inl ⟨rfl, by simp, _, rfl⟩) (hb hby at_58) (by decide) (by decide) (by show own_Q0 Z p1 p2 A h0 n0 _ T26.heap _; rw [e26]; exact ⟨rfl, N26⟩)
  · refine own_st (V := T25.setTop (mkF m 28 #[.val (.int p1), .val (.int p2), .val (.int (1 : Int32)), .val (.ref (A 1)), .val (.int (p2.toInt16.toInt32)), .val (.int (2 : Int32)), .unset] [])) (fun t k => XS.ifNo X25.here hx rfl (hb hby at_25) rfl ((if0 _ _).trans (flt ha).1) k) ?_
    refine own_st (V := T25.setTop (mkF m 30 #[.val (.int p1), .val (.int p2), .val (.int (1 : Int32)), .val (.ref (A 1)), .val (.int (p2.toInt16.toInt32)), .val (.int (2 : Int32)), .unset] [(.int (p2.toInt16.toInt32))])) (fun t k => XS.iload X25.here hx rfl (hb hby at_28) rfl k) ?_
    refine own_st (V := T25.setTop (mkF m 32 #[.val (.int p1), .val (.int p2), .val (.int (1 : Int32)), .val (.ref (A 1)), .val (.int (p2.toInt16.toInt32)), .val (.int (2 : Int32)), .unset] [(.int (2 : Int32)), (.int (p2.toInt16.toInt32))])) (fun t k => XS.iload X25.here hx rfl (hb hby at_30) rfl k) ?_
    by_cases hc : (2 : Int32) < (p2.toInt16.toInt32)
    · refine own_st (V := T25.setTop (mkF m 39 #[.val (.int p1), .val (.int p2), .val (.int (1 : Int32)), .val (.ref (A 1)), .val (.int (p2.toInt16.toInt32)), .val (.int (2 : Int32)), .unset] [])) (fun t k => XS.icmpYes X25.here hx rfl (pc0 := 32) (pc' := 39) rfl (hb hby at_32) rfl (tlt hc).2.2.1 (by decide) (by decide) k) ?_
      refine own_st (V := T25.setTop (mkF m 40 #[.val (.int p1), .val (.int p2), .val (.int (1 : Int32)), .val (.ref (A 1)), .val (.int (p2.toInt16.toInt32)), .val (.int (2 : Int32)), .unset] [(.int (0 : Int32))])) (fun t k => XS.iconst X25.here hx rfl (hb hby at_39) k) ?_
      refine own_st (V := T25.setTop (mkF m 42 #[.val (.int p1), .val (.int p2), .val (.int (1 : Int32)), .val (.ref (A 1)), .val (.int (p2.toInt16.toInt32)), .val (.int (2 : Int32)), .val (.int (0 : Int32))] [])) (fun t k => XS.istore X25.here hx rfl (hb hby at_40) rfl (l' := #[.val (.int p1), .val (.int p2), .val (.int (1 : Int32)), .val (.ref (A 1)), .val (.int (p2.toInt16.toInt32)), .val (.int (2 : Int32)), .val (.int (0 : Int32))]) rfl k) ?_
      refine own_st (V := T25.setTop (mkF m 43 #[.val (.int p1), .val (.int p2), .val (.int (1 : Int32)), .val (.ref (A 1)), .val (.int (p2.toInt16.toInt32)), .val (.int (2 : Int32)), .val (.int (0 : Int32))] [(.ref (A 1))])) (fun t k => XS.aloadN X25.here hx rfl (hb hby at_42) rfl rfl k) ?_
      refine own_st (V := T25.setTop (mkF m 45 #[.val (.int p1), .val (.int p2), .val (.int (1 : Int32)), .val (.ref (A 1)), .val (.int (p2.toInt16.toInt32)), .val (.int (2 : Int32)), .val (.int (0 : Int32))] [(.int (p2.toInt16.toInt32)), (.ref (A 1))])) (fun t k => XS.iload X25.here hx rfl (hb hby at_43) rfl k) ?_
      obtain ⟨cq27, kq27, q27a, q27b, q27c⟩ := isOf hZ e25 (own_E En 1 (i := 1) (n := "LIST_OFFSETS") rfl)
      obtain ⟨_, _, ⟨T27, L27, k27, n27⟩, -, X27, ⟨Lc27, hQ27, l27, y27, z27⟩, st27⟩ := X25.virtualBack hx (y := (⟨"com/example/bhaga/bhaga/wire/Api", "serves", "(S)Z"⟩ : MethodName)) (z := (⟨"com/example/bhaga/bhaga/wire/Api", "serves", "(S)Z"⟩ : MethodName)) hown (mvT hZ (hw _ (List.mem_of_getElem? (i := 11) rfl))) (mvT hZ (hw _ (List.mem_of_getElem? (i := 12) rfl))) (notFace_of_selects (args := #[]) (mvT hZ (hw _ (List.mem_of_getElem? (i := 14) rfl)))) (mvT hZ (hw _ (List.mem_of_getElem? (i := 14) rfl))) (mvT hZ (hw _ (List.mem_of_getElem? (i := 13) rfl))) (by decide) (backOf (W := 0) (own_mb l Z a0 hw [] (A 1) (p2.toInt16.toInt32) (2 : Int32) h0 n0 Z0 (own_F0 En 1 (i := 1) (n := "LIST_OFFSETS") rfl) (own_F1 En 1 (i := 1) (n := "LIST_OFFSETS") rfl) ha hc) hZ (hw _ (List.mem_of_getElem? (i := 15) rfl)) (hw _ (List.mem_of_getElem? (i := 6) rfl)) (by decide) (by decide)) q27a q27c (g := (mkF m 45 #[.val (.int p1), .val (.int p2), .val (.int (1 : Int32)), .val (.ref (A 1)), .val (.int (p2.toInt16.toInt32)), .val (.int (2 : Int32)), .val (.int (0 : Int32))] [(.int (p2.toInt16.toInt32)), (.ref (A 1))])) rfl (by rw [hml]; rfl) (Steps.refl _) (argsL := [(.int (p2.toInt16.toInt32))]) (rest := []) (lenOf own_pd2 rfl) rfl (by show 2 * 0 + _ ≤ _; exact Nat.le_of_eq rfl) (hb hby at_45) (fun _ _ => ⟨rfl, e25, (by decide : 0 + 0 ≤ _), (by decide : 0 + 0 ≤ _)⟩)
      dsimp only [Pt.U, Pt.locs, Pt.cells, Pt.slots] at X27 l27 y27 z27 st27 hQ27
      subst l27 y27 z27
      obtain ⟨rfl, N27q, e27⟩ := hQ27
      have N27 := Fr.app N25 N27q
      refine own_st (V := T27.setTop (mkF m 48 #[.val (.int p1), .val (.int p2), .val (.int (1 : Int32)), .val (.ref (A 1)), .val (.int (p2.toInt16.toInt32)), .val (.int (2 : Int32)), .val (.int (0 : Int32))] [(.int (0 : Int32))])) (fun t k => st27.trans k) ?_
      refine own_st (V := T27.setTop (mkF m 50 #[.val (.int p1), .val (.int p2), .val (.int (1 : Int32)), .val (.ref (A 1)), .val (.int (p2.toInt16.toInt32)), .val (.int (2 : Int32)), .val (.int (0 : Int32))] [(.int (0 : Int32)), (.int (0 : Int32))])) (fun t k => XS.iload X27.here hx rfl (hb hby at_48) rfl k) ?_
      refine own_st (V := T27.setTop (mkF m 53 #[.val (.int p1), .val (.int p2), .val (.int (1 : Int32)), .val (.ref (A 1)), .val (.int (p2.toInt16.toInt32)), .val (.int (2 : Int32)), .val (.int (0 : Int32))] [])) (fun t k => XS.icmpNo X27.here hx rfl (hb hby at_50) rfl (teq (by decide : (0 : Int32) = (0 : Int32))).2 k) ?_
      refine own_st (V := T27.setTop (mkF m 54 #[.val (.int p1), .val (.int p2), .val (.int (1 : Int32)), .val (.ref (A 1)), .val (.int (p2.toInt16.toInt32)), .val (.int (2 : Int32)), .val (.int (0 : Int32))] [(.int (1 : Int32))])) (fun t k => XS.iconst X27.here hx rfl (hb hby at_53) k) ?_
      refine own_st (V := T27.setTop (mkF m 58 #[.val (.int p1), .val (.int p2), .val (.int (1 : Int32)), .val (.ref (A 1)), .val (.int (p2.toInt16.toInt32)), .val (.int (2 : Int32)), .val (.int (0 : Int32))] [(.int (1 : Int32))])) (fun t k => XS.goto X27.here hx rfl (pc0 := 54) (pc' := 58) rfl (hb hby at_54) (by decide) (by decide) k) ?_
      exact own_ret X27 hx hlk Bd.returns (by decide +kernel) (Or.inl ⟨rfl, by simp, _, rfl⟩) (hb hby at_58) (by decide) (by decide) (by show own_Q0 Z p1 p2 A h0 n0 _ T27.heap _; rw [e27]; exact ⟨rfl, N27⟩)
    · refine own_st (V := T25.setTop (mkF m 35 #[.val (.int p1), .val (.int p2), .val (.int (1 : Int32)), .val (.ref (A 1)), .val (.int (p2.toInt16.toInt32)), .val (.int (2 : Int32)), .unset] [])) (fun t k => XS.icmpNo X25.here hx rfl (hb hby at_32) rfl (flt hc).2.2.1 k) ?_
      refine own_st (V := T25.setTop (mkF m 36 #[.val (.int p1), .val (.int p2), .val (.int (1 : Int32)), .val (.ref (A 1)), .val (.int (p2.toInt16.toInt32)), .val (.int (2 : Int32)), .unset] [(.int (1 : Int32))])) (fun t k => XS.iconst X25.here hx rfl (hb hby at_35) k) ?_
      refine own_st (V := T25.setTop (mkF m 40 #[.val (.int p1), .val (.int p2), .val (.int (1 : Int32)), .val (.ref (A 1)), .val (.int (p2.toInt16.toInt32)), .val (.int (2 : Int32)), .unset] [(.int (1 : Int32))])) (fun t k => XS.goto X25.here hx rfl (pc0 := 36) (pc' := 40) rfl (hb hby at_36) (by decide) (by decide) k) ?_
      refine own_st (V := T25.setTop (mkF m 42 #[.val (.int p1), .val (.int p2), .val (.int (1 : Int32)), .val (.ref (A 1)), .val (.int (p2.toInt16.toInt32)), .val (.int (2 : Int32)), .val (.int (1 : Int32))] [])) (fun t k => XS.istore X25.here hx rfl (hb hby at_40) rfl (l' := #[.val (.int p1), .val (.int p2), .val (.int (1 : Int32)), .val (.ref (A 1)), .val (.int (p2.toInt16.toInt32)), .val (.int (2 : Int32)), .val (.int (1 : Int32))]) rfl k) ?_
      refine own_st (V := T25.setTop (mkF m 43 #[.val (.int p1), .val (.int p2), .val (.int (1 : Int32)), .val (.ref (A 1)), .val (.int (p2.toInt16.toInt32)), .val (.int (2 : Int32)), .val (.int (1 : Int32))] [(.ref (A 1))])) (fun t k => XS.aloadN X25.here hx rfl (hb hby at_42) rfl rfl k) ?_
      refine own_st (V := T25.setTop (mkF m 45 #[.val (.int p1), .val (.int p2), .val (.int (1 : Int32)), .val (.ref (A 1)), .val (.int (p2.toInt16.toInt32)), .val (.int (2 : Int32)), .val (.int (1 : Int32))] [(.int (p2.toInt16.toInt32)), (.ref (A 1))])) (fun t k => XS.iload X25.here hx rfl (hb hby at_43) rfl k) ?_
      obtain ⟨cq28, kq28, q28a, q28b, q28c⟩ := isOf hZ e25 (own_E En 1 (i := 1) (n := "LIST_OFFSETS") rfl)
      obtain ⟨_, _, ⟨T28, L28, k28, n28⟩, -, X28, ⟨Lc28, hQ28, l28, y28, z28⟩, st28⟩ := X25.virtualBack hx (y := (⟨"com/example/bhaga/bhaga/wire/Api", "serves", "(S)Z"⟩ : MethodName)) (z := (⟨"com/example/bhaga/bhaga/wire/Api", "serves", "(S)Z"⟩ : MethodName)) hown (mvT hZ (hw _ (List.mem_of_getElem? (i := 11) rfl))) (mvT hZ (hw _ (List.mem_of_getElem? (i := 12) rfl))) (notFace_of_selects (args := #[]) (mvT hZ (hw _ (List.mem_of_getElem? (i := 14) rfl)))) (mvT hZ (hw _ (List.mem_of_getElem? (i := 14) rfl))) (mvT hZ (hw _ (List.mem_of_getElem? (i := 13) rfl))) (by decide) (backOf (W := 0) (own_mc l Z a0 hw [] (A 1) (p2.toInt16.toInt32) (2 : Int32) h0 n0 Z0 (own_F0 En 1 (i := 1) (n := "LIST_OFFSETS") rfl) (own_F1 En 1 (i := 1) (n := "LIST_OFFSETS") rfl) ha hc) hZ (hw _ (List.mem_of_getElem? (i := 15) rfl)) (hw _ (List.mem_of_getElem? (i := 6) rfl)) (by decide) (by decide)) q28a q28c (g := (mkF m 45 #[.val (.int p1), .val (.int p2), .val (.int (1 : Int32)), .val (.ref (A 1)), .val (.int (p2.toInt16.toInt32)), .val (.int (2 : Int32)), .val (.int (1 : Int32))] [(.int (p2.toInt16.toInt32)), (.ref (A 1))])) rfl (by rw [hml]; rfl) (Steps.refl _) (argsL := [(.int (p2.toInt16.toInt32))]) (rest := []) (lenOf own_pd2 rfl) rfl (by show 2 * 0 + _ ≤ _; exact Nat.le_of_eq rfl) (hb hby at_45) (fun _ _ => ⟨rfl, e25, (by decide : 0 + 0 ≤ _), (by decide : 0 + 0 ≤ _)⟩)
      dsimp only [Pt.U, Pt.locs, Pt.cells, Pt.slots] at X28 l28 y28 z28 st28 hQ28
      subst l28 y28 z28
      obtain ⟨rfl, N28q, e28⟩ := hQ28
      have N28 := Fr.app N25 N28q
      refine own_st (V := T28.setTop (mkF m 48 #[.val (.int p1), .val (.int p2), .val (.int (1 : Int32)), .val (.ref (A 1)), .val (.int (p2.toInt16.toInt32)), .val (.int (2 : Int32)), .val (.int (1 : Int32))] [(.int (1 : Int32))])) (fun t k => st28.trans k) ?_
      refine own_st (V := T28.setTop (mkF m 50 #[.val (.int p1), .val (.int p2), .val (.int (1 : Int32)), .val (.ref (A 1)), .val (.int (p2.toInt16.toInt32)), .val (.int (2 : Int32)), .val (.int (1 : Int32))] [(.int (1 : Int32)), (.int (1 : Int32))])) (fun t k => XS.iload X28.here hx rfl (hb hby at_48) rfl k) ?_
      refine own_st (V := T28.setTop (mkF m 53 #[.val (.int p1), .val (.int p2), .val (.int (1 : Int32)), .val (.ref (A 1)), .val (.int (p2.toInt16.toInt32)), .val (.int (2 : Int32)), .val (.int (1 : Int32))] [])) (fun t k => XS.icmpNo X28.here hx rfl (hb hby at_50) rfl (teq (by decide : (1 : Int32) = (1 : Int32))).2 k) ?_
      refine own_st (V := T28.setTop (mkF m 54 #[.val (.int p1), .val (.int p2), .val (.int (1 : Int32)), .val (.ref (A 1)), .val (.int (p2.toInt16.toInt32)), .val (.int (2 : Int32)), .val (.int (1 : Int32))] [(.int (1 : Int32))])) (fun t k => XS.iconst X28.here hx rfl (hb hby at_53) k) ?_
      refine own_st (V := T28.setTop (mkF m 58 #[.val (.int p1), .val (.int p2), .val (.int (1 : Int32)), .val (.ref (A 1)), .val (.int (p2.toInt16.toInt32)), .val (.int (2 : Int32)), .val (.int (1 : Int32))] [(.int (1 : Int32))])) (fun t k => XS.goto X28.here hx rfl (pc0 := 54) (pc' := 58) rfl (hb hby at_54) (by decide) (by decide) k) ?_
      exact own_ret X28 hx hlk Bd.returns (by decide +kernel) (Or.inl ⟨rfl, by simp, _, rfl⟩) (hb hby at_58) (by decide) (by decide) (by show own_Q0 Z p1 p2 A h0 n0 _ T28.heap _; rw [e28]; exact ⟨rfl, N28⟩)
set_option maxRecDepth 65536 in
set_option maxHeartbeats 40000000 in
theorem own_law2 (l : Launch) (Z : State) (a0 : Array Value) (hw : ∀ d ∈ tables_1, d.before a0 Z = true) (ws : List Jvm.Cond) (p1 : Int32) (p2 : Int32) (A : Nat → Addr) (h0 : Heap) (n0 : Nat) (Z0 : n0 ≤ h0.size) (En : own_En Z h0 A) (hk : ((p1 &&& (2147483647 : Int32)) % (13 : Int32)) = (2 : Int32)) :
    MetFree l x (head1 (Jvm.Cond.code x code maxLocals ret :: ws) room_1) (fun a U => a = #[(.int p1), (.int p2)] ∧ Z.Warmed39 U.vm ∧ U.heap = h0) (fun _ _ _ _ _ => True) (fun _ U o U' => ∃ v L, o = .returned v ∧ own_Q0 Z p1 p2 A h0 n0 v U'.heap L ∧ FrameEnd U o U' L room_1.cells room_1.slots) := by
  refine MetFree.of_bodySF (plainFor_of_name own_pn_com_example_bhaga_bhaga_wire_ApiServesPinLaw) hisR ?_
  intro p e s m args below meth c s₁ Bd hml0 hP hK
  obtain ⟨rfl, hZ, hh⟩ := hP
  have hx := Bd.exec
  have hby := Bd.bytes
  have hml : c.maxLocals = 7 := hml0
  have hown : s.vm.findClass "com/example/bhaga/bhaga/wire/ApiServesPinLaw" = some m.cls := findClass_of_methodNamed Bd.named
  have hnm := (name_of_methodNamed Bd.named Bd.method).1
  have hlk : meth.locks = false := BodyLoose.notSynchronized Bd
  have X0 : Stand p l e room_1 s m #[(.int p1), (.int p2)] below meth c s₁ [] 0 0 := Stand.of_body Bd
  have e0 : s₁.heap = h0 := by rw [← hh, Bd.state]; rfl
  have N0 := Fr.nil n0
  show own_Go p e below #[(.int p1), (.int p2)] s (fun _ U o U' => ∃ v L, o = .returned v ∧ own_Q0 Z p1 p2 A h0 n0 v U'.heap L ∧ FrameEnd U o U' L room_1.cells room_1.slots) (s₁.setTop (entryFrame m #[(.int p1), (.int p2)] maxLocals))
  refine own_st (V := s₁.setTop (mkF m 0 #[.val (.int p1), .val (.int p2), .unset, .unset, .unset, .unset, .unset] [])) (fun t k => castTop (by first | (simp [entryFrame, mkF, argsToLocals, Value.category, maxLocals]; done) | rfl) k) ?_
  refine own_st (V := s₁.setTop (mkF m 1 #[.val (.int p1), .val (.int p2), .unset, .unset, .unset, .unset, .unset] [(.int p1)])) (fun t k => XS.iloadN X0.here hx rfl (hb hby at_0) rfl k) ?_
  refine own_st (V := s₁.setTop (mkF m 3 #[.val (.int p1), .val (.int p2), .unset, .unset, .unset, .unset, .unset] [(.int (2147483647 : Int32)), (.int p1)])) (fun t k => X0.ldcInt hx hown (mvT hZ (hw _ (List.mem_of_getElem? (i := 0) rfl))) (g := (mkF m 1 #[.val (.int p1), .val (.int p2), .unset, .unset, .unset, .unset, .unset] [(.int p1)])) rfl (hb hby at_1) t k) ?_
  refine own_st (V := s₁.setTop (mkF m 4 #[.val (.int p1), .val (.int p2), .unset, .unset, .unset, .unset, .unset] [(.int (p1 &&& (2147483647 : Int32)))])) (fun t k => XS.iand X0.here hx rfl (hb hby at_3) rfl k) ?_
  refine own_st (V := s₁.setTop (mkF m 6 #[.val (.int p1), .val (.int p2), .unset, .unset, .unset, .unset, .unset] [(.int (13 : Int32)), (.int (p1 &&& (2147483647 : Int32)))])) (fun t k => XS.bipush X0.here hx rfl (hb hby at_4) k) ?_
  refine own_st (V := s₁.setTop (mkF m 7 #[.val (.int p1), .val (.int p2), .unset, .unset, .unset, .unset, .unset] [(.int ((p1 &&& (2147483647 : Int32)) % (13 : Int32)))])) (fun t k => Jvm.RoadKit.iremM X0 hx rfl (hb hby at_6) rfl (by decide) k) ?_
  rw [hk]
  refine own_st (V := s₁.setTop (mkF m 8 #[.val (.int p1), .val (.int p2), .val (.int (2 : Int32)), .unset, .unset, .unset, .unset] [])) (fun t k => XS.istoreN X0.here hx rfl (hb hby at_7) rfl (l' := #[.val (.int p1), .val (.int p2), .val (.int (2 : Int32)), .unset, .unset, .unset, .unset]) rfl k) ?_
  refine own_st (V := s₁.setTop (mkF m 9 #[.val (.int p1), .val (.int p2), .val (.int (2 : Int32)), .unset, .unset, .unset, .unset] [(.int (2 : Int32))])) (fun t k => XS.iloadN X0.here hx rfl (hb hby at_8) rfl k) ?_
  obtain ⟨_, _, ⟨T29, L29, k29, n29⟩, -, X29, ⟨Lc29, hQ29, l29, y29, z29⟩, st29⟩ := Jvm.LawKit.callS X0 hx (y := (⟨"com/example/bhaga/bhaga/wire/ApiServesPinLaw", "pick", "(I)Lcom/example/bhaga/bhaga/wire/Api;"⟩ : MethodName)) hown (mvT hZ (hw _ (List.mem_of_getElem? (i := 1) rfl))) (mvT hZ (hw _ (List.mem_of_getElem? (i := 2) rfl))) (mvT hZ (hw _ (List.mem_of_getElem? (i := 3) rfl))) (mvT hZ (hw _ (List.mem_of_getElem? (i := 4) rfl))) (by decide) (backOf (W := 0) (own_pick2 l Z a0 hw [] A h0 n0 Z0 En ) hZ (hw _ (List.mem_of_getElem? (i := 4) rfl)) (hw _ (List.mem_of_getElem? (i := 3) rfl)) (by decide) (by decide)) (g := (mkF m 9 #[.val (.int p1), .val (.int p2), .val (.int (2 : Int32)), .unset, .unset, .unset, .unset] [(.int (2 : Int32))])) rfl (by rw [hml]; rfl) (argsL := [(.int (2 : Int32))]) (rest := []) (lenOf own_pd0 rfl) rfl (by show 2 * 0 + _ ≤ _; exact Nat.le_of_eq rfl) (hb hby at_9) (fun _ _ => ⟨rfl, e0, (by decide : 0 + 0 ≤ _), (by decide : 0 + 0 ≤ _)⟩)
  dsimp only [Pt.U, Pt.locs, Pt.cells, Pt.slots] at X29 l29 y29 z29 st29 hQ29
  subst l29 y29 z29
  obtain ⟨rfl, N29q, e29⟩ := hQ29
  have N29 := Fr.app N0 N29q
  refine own_st (V := T29.setTop (mkF m 12 #[.val (.int p1), .val (.int p2), .val (.int (2 : Int32)), .unset, .unset, .unset, .unset] [(.ref (A 2))])) (fun t k => st29 _ k) ?_
  refine own_st (V := T29.setTop (mkF m 13 #[.val (.int p1), .val (.int p2), .val (.int (2 : Int32)), .val (.ref (A 2)), .unset, .unset, .unset] [])) (fun t k => XS.astoreN X29.here hx rfl (hb hby at_12) rfl rfl (l' := #[.val (.int p1), .val (.int p2), .val (.int (2 : Int32)), .val (.ref (A 2)), .unset, .unset, .unset]) rfl k) ?_
  refine own_st (V := T29.setTop (mkF m 14 #[.val (.int p1), .val (.int p2), .val (.int (2 : Int32)), .val (.ref (A 2)), .unset, .unset, .unset] [(.int p2)])) (fun t k => XS.iloadN X29.here hx rfl (hb hby at_13) rfl k) ?_
  refine own_st (V := T29.setTop (mkF m 15 #[.val (.int p1), .val (.int p2), .val (.int (2 : Int32)), .val (.ref (A 2)), .unset, .unset, .unset] [(.int (p2.toInt16.toInt32))])) (fun t k => XS.i2s X29.here hx rfl (hb hby at_14) rfl k) ?_
  refine own_st (V := T29.setTop (mkF m 17 #[.val (.int p1), .val (.int p2), .val (.int (2 : Int32)), .val (.ref (A 2)), .val (.int (p2.toInt16.toInt32)), .unset, .unset] [])) (fun t k => XS.istore X29.here hx rfl (hb hby at_15) rfl (l' := #[.val (.int p1), .val (.int p2), .val (.int (2 : Int32)), .val (.ref (A 2)), .val (.int (p2.toInt16.toInt32)), .unset, .unset]) rfl k) ?_
  refine own_st (V := T29.setTop (mkF m 18 #[.val (.int p1), .val (.int p2), .val (.int (2 : Int32)), .val (.ref (A 2)), .val (.int (p2.toInt16.toInt32)), .unset, .unset] [(.int (2 : Int32))])) (fun t k => XS.iloadN X29.here hx rfl (hb hby at_17) rfl k) ?_
  obtain ⟨_, _, ⟨T30, L30, k30, n30⟩, -, X30, ⟨Lc30, hQ30, l30, y30, z30⟩, st30⟩ := Jvm.LawKit.callS X29 hx (y := (⟨"com/example/bhaga/bhaga/wire/ApiServesPinLaw", "expectedMax", "(I)I"⟩ : MethodName)) hown (mvT hZ (hw _ (List.mem_of_getElem? (i := 8) rfl))) (mvT hZ (hw _ (List.mem_of_getElem? (i := 9) rfl))) (mvT hZ (hw _ (List.mem_of_getElem? (i := 3) rfl))) (mvT hZ (hw _ (List.mem_of_getElem? (i := 10) rfl))) (by decide) (backOf (W := 0) (own_em2 l Z a0 hw [] h0 n0 Z0 ) hZ (hw _ (List.mem_of_getElem? (i := 10) rfl)) (hw _ (List.mem_of_getElem? (i := 3) rfl)) (by decide) (by decide)) (g := (mkF m 18 #[.val (.int p1), .val (.int p2), .val (.int (2 : Int32)), .val (.ref (A 2)), .val (.int (p2.toInt16.toInt32)), .unset, .unset] [(.int (2 : Int32))])) rfl (by rw [hml]; rfl) (argsL := [(.int (2 : Int32))]) (rest := []) (lenOf own_pd1 rfl) rfl (by show 2 * 0 + _ ≤ _; exact Nat.le_of_eq rfl) (hb hby at_18) (fun _ _ => ⟨rfl, e29, (by decide : 0 + 0 ≤ _), (by decide : 0 + 0 ≤ _)⟩)
  dsimp only [Pt.U, Pt.locs, Pt.cells, Pt.slots] at X30 l30 y30 z30 st30 hQ30
  subst l30 y30 z30
  obtain ⟨rfl, N30q, e30⟩ := hQ30
  have N30 := Fr.app N29 N30q
  refine own_st (V := T30.setTop (mkF m 21 #[.val (.int p1), .val (.int p2), .val (.int (2 : Int32)), .val (.ref (A 2)), .val (.int (p2.toInt16.toInt32)), .unset, .unset] [(.int (5 : Int32))])) (fun t k => st30 _ k) ?_
  refine own_st (V := T30.setTop (mkF m 23 #[.val (.int p1), .val (.int p2), .val (.int (2 : Int32)), .val (.ref (A 2)), .val (.int (p2.toInt16.toInt32)), .val (.int (5 : Int32)), .unset] [])) (fun t k => XS.istore X30.here hx rfl (hb hby at_21) rfl (l' := #[.val (.int p1), .val (.int p2), .val (.int (2 : Int32)), .val (.ref (A 2)), .val (.int (p2.toInt16.toInt32)), .val (.int (5 : Int32)), .unset]) rfl k) ?_
  refine own_st (V := T30.setTop (mkF m 25 #[.val (.int p1), .val (.int p2), .val (.int (2 : Int32)), .val (.ref (A 2)), .val (.int (p2.toInt16.toInt32)), .val (.int (5 : Int32)), .unset] [(.int (p2.toInt16.toInt32))])) (fun t k => XS.iload X30.here hx rfl (hb hby at_23) rfl k) ?_
  by_cases ha : (p2.toInt16.toInt32) < (0 : Int32)
  · refine own_st (V := T30.setTop (mkF m 39 #[.val (.int p1), .val (.int p2), .val (.int (2 : Int32)), .val (.ref (A 2)), .val (.int (p2.toInt16.toInt32)), .val (.int (5 : Int32)), .unset] [])) (fun t k => XS.ifYes X30.here hx rfl (pc0 := 25) (pc' := 39) rfl (hb hby at_25) rfl ((if0 _ _).trans (tlt ha).1) (by decide) (by decide) k) ?_
    refine own_st (V := T30.setTop (mkF m 40 #[.val (.int p1), .val (.int p2), .val (.int (2 : Int32)), .val (.ref (A 2)), .val (.int (p2.toInt16.toInt32)), .val (.int (5 : Int32)), .unset] [(.int (0 : Int32))])) (fun t k => XS.iconst X30.here hx rfl (hb hby at_39) k) ?_
    refine own_st (V := T30.setTop (mkF m 42 #[.val (.int p1), .val (.int p2), .val (.int (2 : Int32)), .val (.ref (A 2)), .val (.int (p2.toInt16.toInt32)), .val (.int (5 : Int32)), .val (.int (0 : Int32))] [])) (fun t k => XS.istore X30.here hx rfl (hb hby at_40) rfl (l' := #[.val (.int p1), .val (.int p2), .val (.int (2 : Int32)), .val (.ref (A 2)), .val (.int (p2.toInt16.toInt32)), .val (.int (5 : Int32)), .val (.int (0 : Int32))]) rfl k) ?_
    refine own_st (V := T30.setTop (mkF m 43 #[.val (.int p1), .val (.int p2), .val (.int (2 : Int32)), .val (.ref (A 2)), .val (.int (p2.toInt16.toInt32)), .val (.int (5 : Int32)), .val (.int (0 : Int32))] [(.ref (A 2))])) (fun t k => XS.aloadN X30.here hx rfl (hb hby at_42) rfl rfl k) ?_
    refine own_st (V := T30.setTop (mkF m 45 #[.val (.int p1), .val (.int p2), .val (.int (2 : Int32)), .val (.ref (A 2)), .val (.int (p2.toInt16.toInt32)), .val (.int (5 : Int32)), .val (.int (0 : Int32))] [(.int (p2.toInt16.toInt32)), (.ref (A 2))])) (fun t k => XS.iload X30.here hx rfl (hb hby at_43) rfl k) ?_
    obtain ⟨cq31, kq31, q31a, q31b, q31c⟩ := isOf hZ e30 (own_E En 2 (i := 2) (n := "METADATA") rfl)
    obtain ⟨_, _, ⟨T31, L31, k31, n31⟩, -, X31, ⟨Lc31, hQ31, l31, y31, z31⟩, st31⟩ := X30.virtualBack hx (y := (⟨"com/example/bhaga/bhaga/wire/Api", "serves", "(S)Z"⟩ : MethodName)) (z := (⟨"com/example/bhaga/bhaga/wire/Api", "serves", "(S)Z"⟩ : MethodName)) hown (mvT hZ (hw _ (List.mem_of_getElem? (i := 11) rfl))) (mvT hZ (hw _ (List.mem_of_getElem? (i := 12) rfl))) (notFace_of_selects (args := #[]) (mvT hZ (hw _ (List.mem_of_getElem? (i := 14) rfl)))) (mvT hZ (hw _ (List.mem_of_getElem? (i := 14) rfl))) (mvT hZ (hw _ (List.mem_of_getElem? (i := 13) rfl))) (by decide) (backOf (W := 0) (own_ma l Z a0 hw [] (A 2) (p2.toInt16.toInt32) (5 : Int32) h0 n0 Z0 (own_F0 En 2 (i := 2) (n := "METADATA") rfl) (own_F1 En 2 (i := 2) (n := "METADATA") rfl) ha) hZ (hw _ (List.mem_of_getElem? (i := 15) rfl)) (hw _ (List.mem_of_getElem? (i := 6) rfl)) (by decide) (by decide)) q31a q31c (g := (mkF m 45 #[.val (.int p1), .val (.int p2), .val (.int (2 : Int32)), .val (.ref (A 2)), .val (.int (p2.toInt16.toInt32)), .val (.int (5 : Int32)), .val (.int (0 : Int32))] [(.int (p2.toInt16.toInt32)), (.ref (A 2))])) rfl (by rw [hml]; rfl) (Steps.refl _) (argsL := [(.int (p2.toInt16.toInt32))]) (rest := []) (lenOf own_pd2 rfl) rfl (by show 2 * 0 + _ ≤ _; exact Nat.le_of_eq rfl) (hb hby at_45) (fun _ _ => ⟨rfl, e30, (by decide : 0 + 0 ≤ _), (by decide : 0 + 0 ≤ _)⟩)
    dsimp only [Pt.U, Pt.locs, Pt.cells, Pt.slots] at X31 l31 y31 z31 st31 hQ31
    subst l31 y31 z31
    obtain ⟨rfl, N31q, e31⟩ := hQ31
    have N31 := Fr.app N30 N31q
    refine own_st (V := T31.setTop (mkF m 48 #[.val (.int p1), .val (.int p2), .val (.int (2 : Int32)), .val (.ref (A 2)), .val (.int (p2.toInt16.toInt32)), .val (.int (5 : Int32)), .val (.int (0 : Int32))] [(.int (0 : Int32))])) (fun t k => st31.trans k) ?_
    refine own_st (V := T31.setTop (mkF m 50 #[.val (.int p1), .val (.int p2), .val (.int (2 : Int32)), .val (.ref (A 2)), .val (.int (p2.toInt16.toInt32)), .val (.int (5 : Int32)), .val (.int (0 : Int32))] [(.int (0 : Int32)), (.int (0 : Int32))])) (fun t k => XS.iload X31.here hx rfl (hb hby at_48) rfl k) ?_
    refine own_st (V := T31.setTop (mkF m 53 #[.val (.int p1), .val (.int p2), .val (.int (2 : Int32)), .val (.ref (A 2)), .val (.int (p2.toInt16.toInt32)), .val (.int (5 : Int32)), .val (.int (0 : Int32))] [])) (fun t k => XS.icmpNo X31.here hx rfl (hb hby at_50) rfl (teq (by decide : (0 : Int32) = (0 : Int32))).2 k) ?_
    refine own_st (V := T31.setTop (mkF m 54 #[.val (.int p1), .val (.int p2), .val (.int (2 : Int32)), .val (.ref (A 2)), .val (.int (p2.toInt16.toInt32)), .val (.int (5 : Int32)), .val (.int (0 : Int32))] [(.int (1 : Int32))])) (fun t k => XS.iconst X31.here hx rfl (hb hby at_53) k) ?_
    refine own_st (V := T31.setTop (mkF m 58 #[.val (.int p1), .val (.int p2), .val (.int (2 : Int32)), .val (.ref (A 2)), .val (.int (p2.toInt16.toInt32)), .val (.int (5 : Int32)), .val (.int (0 : Int32))] [(.int (1 : Int32))])) (fun t k => XS.goto X31.here hx rfl (pc0 := 54) (pc' := 58) rfl (hb hby at_54) (by decide) (by decide) k) ?_
    exact own_ret X31 hx hlk Bd.returns (by decide +kernel) (Or.inl ⟨rfl, by simp, _, rfl⟩) (hb hby at_58) (by decide) (by decide) (by show own_Q0 Z p1 p2 A h0 n0 _ T31.heap _; rw [e31]; exact ⟨rfl, N31⟩)
  · refine own_st (V := T30.setTop (mkF m 28 #[.val (.int p1), .val (.int p2), .val (.int (2 : Int32)), .val (.ref (A 2)), .val (.int (p2.toInt16.toInt32)), .val (.int (5 : Int32)), .unset] [])) (fun t k => XS.ifNo X30.here hx rfl (hb hby at_25) rfl ((if0 _ _).trans (flt ha).1) k) ?_
    refine own_st (V := T30.setTop (mkF m 30 #[.val (.int p1), .val (.int p2), .val (.int (2 : Int32)), .val (.ref (A 2)), .val (.int (p2.toInt16.toInt32)), .val (.int (5 : Int32)), .unset] [(.int (p2.toInt16.toInt32))])) (fun t k => XS.iload X30.here hx rfl (hb hby at_28) rfl k) ?_
    refine own_st (V := T30.setTop (mkF m 32 #[.val (.int p1), .val (.int p2), .val (.int (2 : Int32)), .val (.ref (A 2)), .val (.int (p2.toInt16.toInt32)), .val (.int (5 : Int32)), .unset] [(.int (5 : Int32)), (.int (p2.toInt16.toInt32))])) (fun t k => XS.iload X30.here hx rfl (hb hby at_30) rfl k) ?_
    by_cases hc : (5 : Int32) < (p2.toInt16.toInt32)
    · refine own_st (V := T30.setTop (mkF m 39 #[.val (.int p1), .val (.int p2), .val (.int (2 : Int32)), .val (.ref (A 2)), .val (.int (p2.toInt16.toInt32)), .val (.int (5 : Int32)), .unset] [])) (fun t k => XS.icmpYes X30.here hx rfl (pc0 := 32) (pc' := 39) rfl (hb hby at_32) rfl (tlt hc).2.2.1 (by decide) (by decide) k) ?_
      refine own_st (V := T30.setTop (mkF m 40 #[.val (.int p1), .val (.int p2), .val (.int (2 : Int32)), .val (.ref (A 2)), .val (.int (p2.toInt16.toInt32)), .val (.int (5 : Int32)), .unset] [(.int (0 : Int32))])) (fun t k => XS.iconst X30.here hx rfl (hb hby at_39) k) ?_
      refine own_st (V := T30.setTop (mkF m 42 #[.val (.int p1), .val (.int p2), .val (.int (2 : Int32)), .val (.ref (A 2)), .val (.int (p2.toInt16.toInt32)), .val (.int (5 : Int32)), .val (.int (0 : Int32))] [])) (fun t k => XS.istore X30.here hx rfl (hb hby at_40) rfl (l' := #[.val (.int p1), .val (.int p2), .val (.int (2 : Int32)), .val (.ref (A 2)), .val (.int (p2.toInt16.toInt32)), .val (.int (5 : Int32)), .val (.int (0 : Int32))]) rfl k) ?_
      refine own_st (V := T30.setTop (mkF m 43 #[.val (.int p1), .val (.int p2), .val (.int (2 : Int32)), .val (.ref (A 2)), .val (.int (p2.toInt16.toInt32)), .val (.int (5 : Int32)), .val (.int (0 : Int32))] [(.ref (A 2))])) (fun t k => XS.aloadN X30.here hx rfl (hb hby at_42) rfl rfl k) ?_
      refine own_st (V := T30.setTop (mkF m 45 #[.val (.int p1), .val (.int p2), .val (.int (2 : Int32)), .val (.ref (A 2)), .val (.int (p2.toInt16.toInt32)), .val (.int (5 : Int32)), .val (.int (0 : Int32))] [(.int (p2.toInt16.toInt32)), (.ref (A 2))])) (fun t k => XS.iload X30.here hx rfl (hb hby at_43) rfl k) ?_
      obtain ⟨cq32, kq32, q32a, q32b, q32c⟩ := isOf hZ e30 (own_E En 2 (i := 2) (n := "METADATA") rfl)
      obtain ⟨_, _, ⟨T32, L32, k32, n32⟩, -, X32, ⟨Lc32, hQ32, l32, y32, z32⟩, st32⟩ := X30.virtualBack hx (y := (⟨"com/example/bhaga/bhaga/wire/Api", "serves", "(S)Z"⟩ : MethodName)) (z := (⟨"com/example/bhaga/bhaga/wire/Api", "serves", "(S)Z"⟩ : MethodName)) hown (mvT hZ (hw _ (List.mem_of_getElem? (i := 11) rfl))) (mvT hZ (hw _ (List.mem_of_getElem? (i := 12) rfl))) (notFace_of_selects (args := #[]) (mvT hZ (hw _ (List.mem_of_getElem? (i := 14) rfl)))) (mvT hZ (hw _ (List.mem_of_getElem? (i := 14) rfl))) (mvT hZ (hw _ (List.mem_of_getElem? (i := 13) rfl))) (by decide) (backOf (W := 0) (own_mb l Z a0 hw [] (A 2) (p2.toInt16.toInt32) (5 : Int32) h0 n0 Z0 (own_F0 En 2 (i := 2) (n := "METADATA") rfl) (own_F1 En 2 (i := 2) (n := "METADATA") rfl) ha hc) hZ (hw _ (List.mem_of_getElem? (i := 15) rfl)) (hw _ (List.mem_of_getElem? (i := 6) rfl)) (by decide) (by decide)) q32a q32c (g := (mkF m 45 #[.val (.int p1), .val (.int p2), .val (.int (2 : Int32)), .val (.ref (A 2)), .val (.int (p2.toInt16.toInt32)), .val (.int (5 : Int32)), .val (.int (0 : Int32))] [(.int (p2.toInt16.toInt32)), (.ref (A 2))])) rfl (by rw [hml]; rfl) (Steps.refl _) (argsL := [(.int (p2.toInt16.toInt32))]) (rest := []) (lenOf own_pd2 rfl) rfl (by show 2 * 0 + _ ≤ _; exact Nat.le_of_eq rfl) (hb hby at_45) (fun _ _ => ⟨rfl, e30, (by decide : 0 + 0 ≤ _), (by decide : 0 + 0 ≤ _)⟩)
      dsimp only [Pt.U, Pt.locs, Pt.cells, Pt.slots] at X32 l32 y32 z32 st32 hQ32
      subst l32 y32 z32
      obtain ⟨rfl, N32q, e32⟩ := hQ32
      have N32 := Fr.app N30 N32q
      refine own_st (V := T32.setTop (mkF m 48 #[.val (.int p1), .val (.int p2), .val (.int (2 : Int32)), .val (.ref (A 2)), .val (.int (p2.toInt16.toInt32)), .val (.int (5 : Int32)), .val (.int (0 : Int32))] [(.int (0 : Int32))])) (fun t k => st32.trans k) ?_
      refine own_st (V := T32.setTop (mkF m 50 #[.val (.int p1), .val (.int p2), .val (.int (2 : Int32)), .val (.ref (A 2)), .val (.int (p2.toInt16.toInt32)), .val (.int (5 : Int32)), .val (.int (0 : Int32))] [(.int (0 : Int32)), (.int (0 : Int32))])) (fun t k => XS.iload X32.here hx rfl (hb hby at_48) rfl k) ?_
      refine own_st (V := T32.setTop (mkF m 53 #[.val (.int p1), .val (.int p2), .val (.int (2 : Int32)), .val (.ref (A 2)), .val (.int (p2.toInt16.toInt32)), .val (.int (5 : Int32)), .val (.int (0 : Int32))] [])) (fun t k => XS.icmpNo X32.here hx rfl (hb hby at_50) rfl (teq (by decide : (0 : Int32) = (0 : Int32))).2 k) ?_
      refine own_st (V := T32.setTop (mkF m 54 #[.val (.int p1), .val (.int p2), .val (.int (2 : Int32)), .val (.ref (A 2)), .val (.int (p2.toInt16.toInt32)), .val (.int (5 : Int32)), .val (.int (0 : Int32))] [(.int (1 : Int32))])) (fun t k => XS.iconst X32.here hx rfl (hb hby at_53) k) ?_
      refine own_st (V := T32.setTop (mkF m 58 #[.val (.int p1), .val (.int p2), .val (.int (2 : Int32)), .val (.ref (A 2)), .val (.int (p2.toInt16.toInt32)), .val (.int (5 : Int32)), .val (.int (0 : Int32))] [(.int (1 : Int32))])) (fun t k => XS.goto X32.here hx rfl (pc0 := 54) (pc' := 58) rfl (hb hby at_54) (by decide) (by decide) k) ?_
      exact own_ret X32 hx hlk Bd.returns (by decide +kernel) (Or.inl ⟨rfl, by simp, _, rfl⟩) (hb hby at_58) (by decide) (by decide) (by show own_Q0 Z p1 p2 A h0 n0 _ T32.heap _; rw [e32]; exact ⟨rfl, N32⟩)
    · refine own_st (V := T30.setTop (mkF m 35 #[.val (.int p1), .val (.int p2), .val (.int (2 : Int32)), .val (.ref (A 2)), .val (.int (p2.toInt16.toInt32)), .val (.int (5 : Int32)), .unset] [])) (fun t k => XS.icmpNo X30.here hx rfl (hb hby at_32) rfl (flt hc).2.2.1 k) ?_
      refine own_st (V := T30.setTop (mkF m 36 #[.val (.int p1), .val (.int p2), .val (.int (2 : Int32)), .val (.ref (A 2)), .val (.int (p2.toInt16.toInt32)), .val (.int (5 : Int32)), .unset] [(.int (1 : Int32))])) (fun t k => XS.iconst X30.here hx rfl (hb hby at_35) k) ?_
      refine own_st (V := T30.setTop (mkF m 40 #[.val (.int p1), .val (.int p2), .val (.int (2 : Int32)), .val (.ref (A 2)), .val (.int (p2.toInt16.toInt32)), .val (.int (5 : Int32)), .unset] [(.int (1 : Int32))])) (fun t k => XS.goto X30.here hx rfl (pc0 := 36) (pc' := 40) rfl (hb hby at_36) (by decide) (by decide) k) ?_
      refine own_st (V := T30.setTop (mkF m 42 #[.val (.int p1), .val (.int p2), .val (.int (2 : Int32)), .val (.ref (A 2)), .val (.int (p2.toInt16.toInt32)), .val (.int (5 : Int32)), .val (.int (1 : Int32))] [])) (fun t k => XS.istore X30.here hx rfl (hb hby at_40) rfl (l' := #[.val (.int p1), .val (.int p2), .val (.int (2 : Int32)), .val (.ref (A 2)), .val (.int (p2.toInt16.toInt32)), .val (.int (5 : Int32)), .val (.int (1 : Int32))]) rfl k) ?_
      refine own_st (V := T30.setTop (mkF m 43 #[.val (.int p1), .val (.int p2), .val (.int (2 : Int32)), .val (.ref (A 2)), .val (.int (p2.toInt16.toInt32)), .val (.int (5 : Int32)), .val (.int (1 : Int32))] [(.ref (A 2))])) (fun t k => XS.aloadN X30.here hx rfl (hb hby at_42) rfl rfl k) ?_
      refine own_st (V := T30.setTop (mkF m 45 #[.val (.int p1), .val (.int p2), .val (.int (2 : Int32)), .val (.ref (A 2)), .val (.int (p2.toInt16.toInt32)), .val (.int (5 : Int32)), .val (.int (1 : Int32))] [(.int (p2.toInt16.toInt32)), (.ref (A 2))])) (fun t k => XS.iload X30.here hx rfl (hb hby at_43) rfl k) ?_
      obtain ⟨cq33, kq33, q33a, q33b, q33c⟩ := isOf hZ e30 (own_E En 2 (i := 2) (n := "METADATA") rfl)
      obtain ⟨_, _, ⟨T33, L33, k33, n33⟩, -, X33, ⟨Lc33, hQ33, l33, y33, z33⟩, st33⟩ := X30.virtualBack hx (y := (⟨"com/example/bhaga/bhaga/wire/Api", "serves", "(S)Z"⟩ : MethodName)) (z := (⟨"com/example/bhaga/bhaga/wire/Api", "serves", "(S)Z"⟩ : MethodName)) hown (mvT hZ (hw _ (List.mem_of_getElem? (i := 11) rfl))) (mvT hZ (hw _ (List.mem_of_getElem? (i := 12) rfl))) (notFace_of_selects (args := #[]) (mvT hZ (hw _ (List.mem_of_getElem? (i := 14) rfl)))) (mvT hZ (hw _ (List.mem_of_getElem? (i := 14) rfl))) (mvT hZ (hw _ (List.mem_of_getElem? (i := 13) rfl))) (by decide) (backOf (W := 0) (own_mc l Z a0 hw [] (A 2) (p2.toInt16.toInt32) (5 : Int32) h0 n0 Z0 (own_F0 En 2 (i := 2) (n := "METADATA") rfl) (own_F1 En 2 (i := 2) (n := "METADATA") rfl) ha hc) hZ (hw _ (List.mem_of_getElem? (i := 15) rfl)) (hw _ (List.mem_of_getElem? (i := 6) rfl)) (by decide) (by decide)) q33a q33c (g := (mkF m 45 #[.val (.int p1), .val (.int p2), .val (.int (2 : Int32)), .val (.ref (A 2)), .val (.int (p2.toInt16.toInt32)), .val (.int (5 : Int32)), .val (.int (1 : Int32))] [(.int (p2.toInt16.toInt32)), (.ref (A 2))])) rfl (by rw [hml]; rfl) (Steps.refl _) (argsL := [(.int (p2.toInt16.toInt32))]) (rest := []) (lenOf own_pd2 rfl) rfl (by show 2 * 0 + _ ≤ _; exact Nat.le_of_eq rfl) (hb hby at_45) (fun _ _ => ⟨rfl, e30, (by decide : 0 + 0 ≤ _), (by decide : 0 + 0 ≤ _)⟩)
      dsimp only [Pt.U, Pt.locs, Pt.cells, Pt.slots] at X33 l33 y33 z33 st33 hQ33
      subst l33 y33 z33
      obtain ⟨rfl, N33q, e33⟩ := hQ33
      have N33 := Fr.app N30 N33q
      refine own_st (V := T33.setTop (mkF m 48 #[.val (.int p1), .val (.int p2), .val (.int (2 : Int32)), .val (.ref (A 2)), .val (.int (p2.toInt16.toInt32)), .val (.int (5 : Int32)), .val (.int (1 : Int32))] [(.int (1 : Int32))])) (fun t k => st33.trans k) ?_
      refine own_st (V := T33.setTop (mkF m 50 #[.val (.int p1), .val (.int p2), .val (.int (2 : Int32)), .val (.ref (A 2)), .val (.int (p2.toInt16.toInt32)), .val (.int (5 : Int32)), .val (.int (1 : Int32))] [(.int (1 : Int32)), (.int (1 : Int32))])) (fun t k => XS.iload X33.here hx rfl (hb hby at_48) rfl k) ?_
      refine own_st (V := T33.setTop (mkF m 53 #[.val (.int p1), .val (.int p2), .val (.int (2 : Int32)), .val (.ref (A 2)), .val (.int (p2.toInt16.toInt32)), .val (.int (5 : Int32)), .val (.int (1 : Int32))] [])) (fun t k => XS.icmpNo X33.here hx rfl (hb hby at_50) rfl (teq (by decide : (1 : Int32) = (1 : Int32))).2 k) ?_
      refine own_st (V := T33.setTop (mkF m 54 #[.val (.int p1), .val (.int p2), .val (.int (2 : Int32)), .val (.ref (A 2)), .val (.int (p2.toInt16.toInt32)), .val (.int (5 : Int32)), .val (.int (1 : Int32))] [(.int (1 : Int32))])) (fun t k => XS.iconst X33.here hx rfl (hb hby at_53) k) ?_
      refine own_st (V := T33.setTop (mkF m 58 #[.val (.int p1), .val (.int p2), .val (.int (2 : Int32)), .val (.ref (A 2)), .val (.int (p2.toInt16.toInt32)), .val (.int (5 : Int32)), .val (.int (1 : Int32))] [(.int (1 : Int32))])) (fun t k => XS.goto X33.here hx rfl (pc0 := 54) (pc' := 58) rfl (hb hby at_54) (by decide) (by decide) k) ?_
      exact own_ret X33 hx hlk Bd.returns (by decide +kernel) (Or.inl ⟨rfl, by simp, _, rfl⟩) (hb hby at_58) (by decide) (by decide) (by show own_Q0 Z p1 p2 A h0 n0 _ T33.heap _; rw [e33]; exact ⟨rfl, N33⟩)
set_option maxRecDepth 65536 in
set_option maxHeartbeats 40000000 in
theorem own_law3 (l : Launch) (Z : State) (a0 : Array Value) (hw : ∀ d ∈ tables_1, d.before a0 Z = true) (ws : List Jvm.Cond) (p1 : Int32) (p2 : Int32) (A : Nat → Addr) (h0 : Heap) (n0 : Nat) (Z0 : n0 ≤ h0.size) (En : own_En Z h0 A) (hk : ((p1 &&& (2147483647 : Int32)) % (13 : Int32)) = (3 : Int32)) :
    MetFree l x (head1 (Jvm.Cond.code x code maxLocals ret :: ws) room_1) (fun a U => a = #[(.int p1), (.int p2)] ∧ Z.Warmed39 U.vm ∧ U.heap = h0) (fun _ _ _ _ _ => True) (fun _ U o U' => ∃ v L, o = .returned v ∧ own_Q0 Z p1 p2 A h0 n0 v U'.heap L ∧ FrameEnd U o U' L room_1.cells room_1.slots) := by
  refine MetFree.of_bodySF (plainFor_of_name own_pn_com_example_bhaga_bhaga_wire_ApiServesPinLaw) hisR ?_
  intro p e s m args below meth c s₁ Bd hml0 hP hK
  obtain ⟨rfl, hZ, hh⟩ := hP
  have hx := Bd.exec
  have hby := Bd.bytes
  have hml : c.maxLocals = 7 := hml0
  have hown : s.vm.findClass "com/example/bhaga/bhaga/wire/ApiServesPinLaw" = some m.cls := findClass_of_methodNamed Bd.named
  have hnm := (name_of_methodNamed Bd.named Bd.method).1
  have hlk : meth.locks = false := BodyLoose.notSynchronized Bd
  have X0 : Stand p l e room_1 s m #[(.int p1), (.int p2)] below meth c s₁ [] 0 0 := Stand.of_body Bd
  have e0 : s₁.heap = h0 := by rw [← hh, Bd.state]; rfl
  have N0 := Fr.nil n0
  show own_Go p e below #[(.int p1), (.int p2)] s (fun _ U o U' => ∃ v L, o = .returned v ∧ own_Q0 Z p1 p2 A h0 n0 v U'.heap L ∧ FrameEnd U o U' L room_1.cells room_1.slots) (s₁.setTop (entryFrame m #[(.int p1), (.int p2)] maxLocals))
  refine own_st (V := s₁.setTop (mkF m 0 #[.val (.int p1), .val (.int p2), .unset, .unset, .unset, .unset, .unset] [])) (fun t k => castTop (by first | (simp [entryFrame, mkF, argsToLocals, Value.category, maxLocals]; done) | rfl) k) ?_
  refine own_st (V := s₁.setTop (mkF m 1 #[.val (.int p1), .val (.int p2), .unset, .unset, .unset, .unset, .unset] [(.int p1)])) (fun t k => XS.iloadN X0.here hx rfl (hb hby at_0) rfl k) ?_
  refine own_st (V := s₁.setTop (mkF m 3 #[.val (.int p1), .val (.int p2), .unset, .unset, .unset, .unset, .unset] [(.int (2147483647 : Int32)), (.int p1)])) (fun t k => X0.ldcInt hx hown (mvT hZ (hw _ (List.mem_of_getElem? (i := 0) rfl))) (g := (mkF m 1 #[.val (.int p1), .val (.int p2), .unset, .unset, .unset, .unset, .unset] [(.int p1)])) rfl (hb hby at_1) t k) ?_
  refine own_st (V := s₁.setTop (mkF m 4 #[.val (.int p1), .val (.int p2), .unset, .unset, .unset, .unset, .unset] [(.int (p1 &&& (2147483647 : Int32)))])) (fun t k => XS.iand X0.here hx rfl (hb hby at_3) rfl k) ?_
  refine own_st (V := s₁.setTop (mkF m 6 #[.val (.int p1), .val (.int p2), .unset, .unset, .unset, .unset, .unset] [(.int (13 : Int32)), (.int (p1 &&& (2147483647 : Int32)))])) (fun t k => XS.bipush X0.here hx rfl (hb hby at_4) k) ?_
  refine own_st (V := s₁.setTop (mkF m 7 #[.val (.int p1), .val (.int p2), .unset, .unset, .unset, .unset, .unset] [(.int ((p1 &&& (2147483647 : Int32)) % (13 : Int32)))])) (fun t k => Jvm.RoadKit.iremM X0 hx rfl (hb hby at_6) rfl (by decide) k) ?_
  rw [hk]
  refine own_st (V := s₁.setTop (mkF m 8 #[.val (.int p1), .val (.int p2), .val (.int (3 : Int32)), .unset, .unset, .unset, .unset] [])) (fun t k => XS.istoreN X0.here hx rfl (hb hby at_7) rfl (l' := #[.val (.int p1), .val (.int p2), .val (.int (3 : Int32)), .unset, .unset, .unset, .unset]) rfl k) ?_
  refine own_st (V := s₁.setTop (mkF m 9 #[.val (.int p1), .val (.int p2), .val (.int (3 : Int32)), .unset, .unset, .unset, .unset] [(.int (3 : Int32))])) (fun t k => XS.iloadN X0.here hx rfl (hb hby at_8) rfl k) ?_
  obtain ⟨_, _, ⟨T34, L34, k34, n34⟩, -, X34, ⟨Lc34, hQ34, l34, y34, z34⟩, st34⟩ := Jvm.LawKit.callS X0 hx (y := (⟨"com/example/bhaga/bhaga/wire/ApiServesPinLaw", "pick", "(I)Lcom/example/bhaga/bhaga/wire/Api;"⟩ : MethodName)) hown (mvT hZ (hw _ (List.mem_of_getElem? (i := 1) rfl))) (mvT hZ (hw _ (List.mem_of_getElem? (i := 2) rfl))) (mvT hZ (hw _ (List.mem_of_getElem? (i := 3) rfl))) (mvT hZ (hw _ (List.mem_of_getElem? (i := 4) rfl))) (by decide) (backOf (W := 0) (own_pick3 l Z a0 hw [] A h0 n0 Z0 En ) hZ (hw _ (List.mem_of_getElem? (i := 4) rfl)) (hw _ (List.mem_of_getElem? (i := 3) rfl)) (by decide) (by decide)) (g := (mkF m 9 #[.val (.int p1), .val (.int p2), .val (.int (3 : Int32)), .unset, .unset, .unset, .unset] [(.int (3 : Int32))])) rfl (by rw [hml]; rfl) (argsL := [(.int (3 : Int32))]) (rest := []) (lenOf own_pd0 rfl) rfl (by show 2 * 0 + _ ≤ _; exact Nat.le_of_eq rfl) (hb hby at_9) (fun _ _ => ⟨rfl, e0, (by decide : 0 + 0 ≤ _), (by decide : 0 + 0 ≤ _)⟩)
  dsimp only [Pt.U, Pt.locs, Pt.cells, Pt.slots] at X34 l34 y34 z34 st34 hQ34
  subst l34 y34 z34
  obtain ⟨rfl, N34q, e34⟩ := hQ34
  have N34 := Fr.app N0 N34q
  refine own_st (V := T34.setTop (mkF m 12 #[.val (.int p1), .val (.int p2), .val (.int (3 : Int32)), .unset, .unset, .unset, .unset] [(.ref (A 3))])) (fun t k => st34 _ k) ?_
  refine own_st (V := T34.setTop (mkF m 13 #[.val (.int p1), .val (.int p2), .val (.int (3 : Int32)), .val (.ref (A 3)), .unset, .unset, .unset] [])) (fun t k => XS.astoreN X34.here hx rfl (hb hby at_12) rfl rfl (l' := #[.val (.int p1), .val (.int p2), .val (.int (3 : Int32)), .val (.ref (A 3)), .unset, .unset, .unset]) rfl k) ?_
  refine own_st (V := T34.setTop (mkF m 14 #[.val (.int p1), .val (.int p2), .val (.int (3 : Int32)), .val (.ref (A 3)), .unset, .unset, .unset] [(.int p2)])) (fun t k => XS.iloadN X34.here hx rfl (hb hby at_13) rfl k) ?_
  refine own_st (V := T34.setTop (mkF m 15 #[.val (.int p1), .val (.int p2), .val (.int (3 : Int32)), .val (.ref (A 3)), .unset, .unset, .unset] [(.int (p2.toInt16.toInt32))])) (fun t k => XS.i2s X34.here hx rfl (hb hby at_14) rfl k) ?_
  refine own_st (V := T34.setTop (mkF m 17 #[.val (.int p1), .val (.int p2), .val (.int (3 : Int32)), .val (.ref (A 3)), .val (.int (p2.toInt16.toInt32)), .unset, .unset] [])) (fun t k => XS.istore X34.here hx rfl (hb hby at_15) rfl (l' := #[.val (.int p1), .val (.int p2), .val (.int (3 : Int32)), .val (.ref (A 3)), .val (.int (p2.toInt16.toInt32)), .unset, .unset]) rfl k) ?_
  refine own_st (V := T34.setTop (mkF m 18 #[.val (.int p1), .val (.int p2), .val (.int (3 : Int32)), .val (.ref (A 3)), .val (.int (p2.toInt16.toInt32)), .unset, .unset] [(.int (3 : Int32))])) (fun t k => XS.iloadN X34.here hx rfl (hb hby at_17) rfl k) ?_
  obtain ⟨_, _, ⟨T35, L35, k35, n35⟩, -, X35, ⟨Lc35, hQ35, l35, y35, z35⟩, st35⟩ := Jvm.LawKit.callS X34 hx (y := (⟨"com/example/bhaga/bhaga/wire/ApiServesPinLaw", "expectedMax", "(I)I"⟩ : MethodName)) hown (mvT hZ (hw _ (List.mem_of_getElem? (i := 8) rfl))) (mvT hZ (hw _ (List.mem_of_getElem? (i := 9) rfl))) (mvT hZ (hw _ (List.mem_of_getElem? (i := 3) rfl))) (mvT hZ (hw _ (List.mem_of_getElem? (i := 10) rfl))) (by decide) (backOf (W := 0) (own_em3 l Z a0 hw [] h0 n0 Z0 ) hZ (hw _ (List.mem_of_getElem? (i := 10) rfl)) (hw _ (List.mem_of_getElem? (i := 3) rfl)) (by decide) (by decide)) (g := (mkF m 18 #[.val (.int p1), .val (.int p2), .val (.int (3 : Int32)), .val (.ref (A 3)), .val (.int (p2.toInt16.toInt32)), .unset, .unset] [(.int (3 : Int32))])) rfl (by rw [hml]; rfl) (argsL := [(.int (3 : Int32))]) (rest := []) (lenOf own_pd1 rfl) rfl (by show 2 * 0 + _ ≤ _; exact Nat.le_of_eq rfl) (hb hby at_18) (fun _ _ => ⟨rfl, e34, (by decide : 0 + 0 ≤ _), (by decide : 0 + 0 ≤ _)⟩)
  dsimp only [Pt.U, Pt.locs, Pt.cells, Pt.slots] at X35 l35 y35 z35 st35 hQ35
  subst l35 y35 z35
  obtain ⟨rfl, N35q, e35⟩ := hQ35
  have N35 := Fr.app N34 N35q
  refine own_st (V := T35.setTop (mkF m 21 #[.val (.int p1), .val (.int p2), .val (.int (3 : Int32)), .val (.ref (A 3)), .val (.int (p2.toInt16.toInt32)), .unset, .unset] [(.int (3 : Int32))])) (fun t k => st35 _ k) ?_
  refine own_st (V := T35.setTop (mkF m 23 #[.val (.int p1), .val (.int p2), .val (.int (3 : Int32)), .val (.ref (A 3)), .val (.int (p2.toInt16.toInt32)), .val (.int (3 : Int32)), .unset] [])) (fun t k => XS.istore X35.here hx rfl (hb hby at_21) rfl (l' := #[.val (.int p1), .val (.int p2), .val (.int (3 : Int32)), .val (.ref (A 3)), .val (.int (p2.toInt16.toInt32)), .val (.int (3 : Int32)), .unset]) rfl k) ?_
  refine own_st (V := T35.setTop (mkF m 25 #[.val (.int p1), .val (.int p2), .val (.int (3 : Int32)), .val (.ref (A 3)), .val (.int (p2.toInt16.toInt32)), .val (.int (3 : Int32)), .unset] [(.int (p2.toInt16.toInt32))])) (fun t k => XS.iload X35.here hx rfl (hb hby at_23) rfl k) ?_
  by_cases ha : (p2.toInt16.toInt32) < (0 : Int32)
  · refine own_st (V := T35.setTop (mkF m 39 #[.val (.int p1), .val (.int p2), .val (.int (3 : Int32)), .val (.ref (A 3)), .val (.int (p2.toInt16.toInt32)), .val (.int (3 : Int32)), .unset] [])) (fun t k => XS.ifYes X35.here hx rfl (pc0 := 25) (pc' := 39) rfl (hb hby at_25) rfl ((if0 _ _).trans (tlt ha).1) (by decide) (by decide) k) ?_
    refine own_st (V := T35.setTop (mkF m 40 #[.val (.int p1), .val (.int p2), .val (.int (3 : Int32)), .val (.ref (A 3)), .val (.int (p2.toInt16.toInt32)), .val (.int (3 : Int32)), .unset] [(.int (0 : Int32))])) (fun t k => XS.iconst X35.here hx rfl (hb hby at_39) k) ?_
    refine own_st (V := T35.setTop (mkF m 42 #[.val (.int p1), .val (.int p2), .val (.int (3 : Int32)), .val (.ref (A 3)), .val (.int (p2.toInt16.toInt32)), .val (.int (3 : Int32)), .val (.int (0 : Int32))] [])) (fun t k => XS.istore X35.here hx rfl (hb hby at_40) rfl (l' := #[.val (.int p1), .val (.int p2), .val (.int (3 : Int32)), .val (.ref (A 3)), .val (.int (p2.toInt16.toInt32)), .val (.int (3 : Int32)), .val (.int (0 : Int32))]) rfl k) ?_
    refine own_st (V := T35.setTop (mkF m 43 #[.val (.int p1), .val (.int p2), .val (.int (3 : Int32)), .val (.ref (A 3)), .val (.int (p2.toInt16.toInt32)), .val (.int (3 : Int32)), .val (.int (0 : Int32))] [(.ref (A 3))])) (fun t k => XS.aloadN X35.here hx rfl (hb hby at_42) rfl rfl k) ?_
    refine own_st (V := T35.setTop (mkF m 45 #[.val (.int p1), .val (.int p2), .val (.int (3 : Int32)), .val (.ref (A 3)), .val (.int (p2.toInt16.toInt32)), .val (.int (3 : Int32)), .val (.int (0 : Int32))] [(.int (p2.toInt16.toInt32)), (.ref (A 3))])) (fun t k => XS.iload X35.here hx rfl (hb hby at_43) rfl k) ?_
    obtain ⟨cq36, kq36, q36a, q36b, q36c⟩ := isOf hZ e35 (own_E En 3 (i := 3) (n := "OFFSET_COMMIT") rfl)
    obtain ⟨_, _, ⟨T36, L36, k36, n36⟩, -, X36, ⟨Lc36, hQ36, l36, y36, z36⟩, st36⟩ := X35.virtualBack hx (y := (⟨"com/example/bhaga/bhaga/wire/Api", "serves", "(S)Z"⟩ : MethodName)) (z := (⟨"com/example/bhaga/bhaga/wire/Api", "serves", "(S)Z"⟩ : MethodName)) hown (mvT hZ (hw _ (List.mem_of_getElem? (i := 11) rfl))) (mvT hZ (hw _ (List.mem_of_getElem? (i := 12) rfl))) (notFace_of_selects (args := #[]) (mvT hZ (hw _ (List.mem_of_getElem? (i := 14) rfl)))) (mvT hZ (hw _ (List.mem_of_getElem? (i := 14) rfl))) (mvT hZ (hw _ (List.mem_of_getElem? (i := 13) rfl))) (by decide) (backOf (W := 0) (own_ma l Z a0 hw [] (A 3) (p2.toInt16.toInt32) (3 : Int32) h0 n0 Z0 (own_F0 En 3 (i := 3) (n := "OFFSET_COMMIT") rfl) (own_F1 En 3 (i := 3) (n := "OFFSET_COMMIT") rfl) ha) hZ (hw _ (List.mem_of_getElem? (i := 15) rfl)) (hw _ (List.mem_of_getElem? (i := 6) rfl)) (by decide) (by decide)) q36a q36c (g := (mkF m 45 #[.val (.int p1), .val (.int p2), .val (.int (3 : Int32)), .val (.ref (A 3)), .val (.int (p2.toInt16.toInt32)), .val (.int (3 : Int32)), .val (.int (0 : Int32))] [(.int (p2.toInt16.toInt32)), (.ref (A 3))])) rfl (by rw [hml]; rfl) (Steps.refl _) (argsL := [(.int (p2.toInt16.toInt32))]) (rest := []) (lenOf own_pd2 rfl) rfl (by show 2 * 0 + _ ≤ _; exact Nat.le_of_eq rfl) (hb hby at_45) (fun _ _ => ⟨rfl, e35, (by decide : 0 + 0 ≤ _), (by decide : 0 + 0 ≤ _)⟩)
    dsimp only [Pt.U, Pt.locs, Pt.cells, Pt.slots] at X36 l36 y36 z36 st36 hQ36
    subst l36 y36 z36
    obtain ⟨rfl, N36q, e36⟩ := hQ36
    have N36 := Fr.app N35 N36q
    refine own_st (V := T36.setTop (mkF m 48 #[.val (.int p1), .val (.int p2), .val (.int (3 : Int32)), .val (.ref (A 3)), .val (.int (p2.toInt16.toInt32)), .val (.int (3 : Int32)), .val (.int (0 : Int32))] [(.int (0 : Int32))])) (fun t k => st36.trans k) ?_
    refine own_st (V := T36.setTop (mkF m 50 #[.val (.int p1), .val (.int p2), .val (.int (3 : Int32)), .val (.ref (A 3)), .val (.int (p2.toInt16.toInt32)), .val (.int (3 : Int32)), .val (.int (0 : Int32))] [(.int (0 : Int32)), (.int (0 : Int32))])) (fun t k => XS.iload X36.here hx rfl (hb hby at_48) rfl k) ?_
    refine own_st (V := T36.setTop (mkF m 53 #[.val (.int p1), .val (.int p2), .val (.int (3 : Int32)), .val (.ref (A 3)), .val (.int (p2.toInt16.toInt32)), .val (.int (3 : Int32)), .val (.int (0 : Int32))] [])) (fun t k => XS.icmpNo X36.here hx rfl (hb hby at_50) rfl (teq (by decide : (0 : Int32) = (0 : Int32))).2 k) ?_
    refine own_st (V := T36.setTop (mkF m 54 #[.val (.int p1), .val (.int p2), .val (.int (3 : Int32)), .val (.ref (A 3)), .val (.int (p2.toInt16.toInt32)), .val (.int (3 : Int32)), .val (.int (0 : Int32))] [(.int (1 : Int32))])) (fun t k => XS.iconst X36.here hx rfl (hb hby at_53) k) ?_
    refine own_st (V := T36.setTop (mkF m 58 #[.val (.int p1), .val (.int p2), .val (.int (3 : Int32)), .val (.ref (A 3)), .val (.int (p2.toInt16.toInt32)), .val (.int (3 : Int32)), .val (.int (0 : Int32))] [(.int (1 : Int32))])) (fun t k => XS.goto X36.here hx rfl (pc0 := 54) (pc' := 58) rfl (hb hby at_54) (by decide) (by decide) k) ?_
    exact own_ret X36 hx hlk Bd.returns (by decide +kernel) (Or.inl ⟨rfl, by simp, _, rfl⟩) (hb hby at_58) (by decide) (by decide) (by show own_Q0 Z p1 p2 A h0 n0 _ T36.heap _; rw [e36]; exact ⟨rfl, N36⟩)
  · refine own_st (V := T35.setTop (mkF m 28 #[.val (.int p1), .val (.int p2), .val (.int (3 : Int32)), .val (.ref (A 3)), .val (.int (p2.toInt16.toInt32)), .val (.int (3 : Int32)), .unset] [])) (fun t k => XS.ifNo X35.here hx rfl (hb hby at_25) rfl ((if0 _ _).trans (flt ha).1) k) ?_
    refine own_st (V := T35.setTop (mkF m 30 #[.val (.int p1), .val (.int p2), .val (.int (3 : Int32)), .val (.ref (A 3)), .val (.int (p2.toInt16.toInt32)), .val (.int (3 : Int32)), .unset] [(.int (p2.toInt16.toInt32))])) (fun t k => XS.iload X35.here hx rfl (hb hby at_28) rfl k) ?_
    refine own_st (V := T35.setTop (mkF m 32 #[.val (.int p1), .val (.int p2), .val (.int (3 : Int32)), .val (.ref (A 3)), .val (.int (p2.toInt16.toInt32)), .val (.int (3 : Int32)), .unset] [(.int (3 : Int32)), (.int (p2.toInt16.toInt32))])) (fun t k => XS.iload X35.here hx rfl (hb hby at_30) rfl k) ?_
    by_cases hc : (3 : Int32) < (p2.toInt16.toInt32)
    · refine own_st (V := T35.setTop (mkF m 39 #[.val (.int p1), .val (.int p2), .val (.int (3 : Int32)), .val (.ref (A 3)), .val (.int (p2.toInt16.toInt32)), .val (.int (3 : Int32)), .unset] [])) (fun t k => XS.icmpYes X35.here hx rfl (pc0 := 32) (pc' := 39) rfl (hb hby at_32) rfl (tlt hc).2.2.1 (by decide) (by decide) k) ?_
      refine own_st (V := T35.setTop (mkF m 40 #[.val (.int p1), .val (.int p2), .val (.int (3 : Int32)), .val (.ref (A 3)), .val (.int (p2.toInt16.toInt32)), .val (.int (3 : Int32)), .unset] [(.int (0 : Int32))])) (fun t k => XS.iconst X35.here hx rfl (hb hby at_39) k) ?_
      refine own_st (V := T35.setTop (mkF m 42 #[.val (.int p1), .val (.int p2), .val (.int (3 : Int32)), .val (.ref (A 3)), .val (.int (p2.toInt16.toInt32)), .val (.int (3 : Int32)), .val (.int (0 : Int32))] [])) (fun t k => XS.istore X35.here hx rfl (hb hby at_40) rfl (l' := #[.val (.int p1), .val (.int p2), .val (.int (3 : Int32)), .val (.ref (A 3)), .val (.int (p2.toInt16.toInt32)), .val (.int (3 : Int32)), .val (.int (0 : Int32))]) rfl k) ?_
      refine own_st (V := T35.setTop (mkF m 43 #[.val (.int p1), .val (.int p2), .val (.int (3 : Int32)), .val (.ref (A 3)), .val (.int (p2.toInt16.toInt32)), .val (.int (3 : Int32)), .val (.int (0 : Int32))] [(.ref (A 3))])) (fun t k => XS.aloadN X35.here hx rfl (hb hby at_42) rfl rfl k) ?_
      refine own_st (V := T35.setTop (mkF m 45 #[.val (.int p1), .val (.int p2), .val (.int (3 : Int32)), .val (.ref (A 3)), .val (.int (p2.toInt16.toInt32)), .val (.int (3 : Int32)), .val (.int (0 : Int32))] [(.int (p2.toInt16.toInt32)), (.ref (A 3))])) (fun t k => XS.iload X35.here hx rfl (hb hby at_43) rfl k) ?_
      obtain ⟨cq37, kq37, q37a, q37b, q37c⟩ := isOf hZ e35 (own_E En 3 (i := 3) (n := "OFFSET_COMMIT") rfl)
      obtain ⟨_, _, ⟨T37, L37, k37, n37⟩, -, X37, ⟨Lc37, hQ37, l37, y37, z37⟩, st37⟩ := X35.virtualBack hx (y := (⟨"com/example/bhaga/bhaga/wire/Api", "serves", "(S)Z"⟩ : MethodName)) (z := (⟨"com/example/bhaga/bhaga/wire/Api", "serves", "(S)Z"⟩ : MethodName)) hown (mvT hZ (hw _ (List.mem_of_getElem? (i := 11) rfl))) (mvT hZ (hw _ (List.mem_of_getElem? (i := 12) rfl))) (notFace_of_selects (args := #[]) (mvT hZ (hw _ (List.mem_of_getElem? (i := 14) rfl)))) (mvT hZ (hw _ (List.mem_of_getElem? (i := 14) rfl))) (mvT hZ (hw _ (List.mem_of_getElem? (i := 13) rfl))) (by decide) (backOf (W := 0) (own_mb l Z a0 hw [] (A 3) (p2.toInt16.toInt32) (3 : Int32) h0 n0 Z0 (own_F0 En 3 (i := 3) (n := "OFFSET_COMMIT") rfl) (own_F1 En 3 (i := 3) (n := "OFFSET_COMMIT") rfl) ha hc) hZ (hw _ (List.mem_of_getElem? (i := 15) rfl)) (hw _ (List.mem_of_getElem? (i := 6) rfl)) (by decide) (by decide)) q37a q37c (g := (mkF m 45 #[.val (.int p1), .val (.int p2), .val (.int (3 : Int32)), .val (.ref (A 3)), .val (.int (p2.toInt16.toInt32)), .val (.int (3 : Int32)), .val (.int (0 : Int32))] [(.int (p2.toInt16.toInt32)), (.ref (A 3))])) rfl (by rw [hml]; rfl) (Steps.refl _) (argsL := [(.int (p2.toInt16.toInt32))]) (rest := []) (lenOf own_pd2 rfl) rfl (by show 2 * 0 + _ ≤ _; exact Nat.le_of_eq rfl) (hb hby at_45) (fun _ _ => ⟨rfl, e35, (by decide : 0 + 0 ≤ _), (by decide : 0 + 0 ≤ _)⟩)
      dsimp only [Pt.U, Pt.locs, Pt.cells, Pt.slots] at X37 l37 y37 z37 st37 hQ37
      subst l37 y37 z37
      obtain ⟨rfl, N37q, e37⟩ := hQ37
      have N37 := Fr.app N35 N37q
      refine own_st (V := T37.setTop (mkF m 48 #[.val (.int p1), .val (.int p2), .val (.int (3 : Int32)), .val (.ref (A 3)), .val (.int (p2.toInt16.toInt32)), .val (.int (3 : Int32)), .val (.int (0 : Int32))] [(.int (0 : Int32))])) (fun t k => st37.trans k) ?_
      refine own_st (V := T37.setTop (mkF m 50 #[.val (.int p1), .val (.int p2), .val (.int (3 : Int32)), .val (.ref (A 3)), .val (.int (p2.toInt16.toInt32)), .val (.int (3 : Int32)), .val (.int (0 : Int32))] [(.int (0 : Int32)), (.int (0 : Int32))])) (fun t k => XS.iload X37.here hx rfl (hb hby at_48) rfl k) ?_
      refine own_st (V := T37.setTop (mkF m 53 #[.val (.int p1), .val (.int p2), .val (.int (3 : Int32)), .val (.ref (A 3)), .val (.int (p2.toInt16.toInt32)), .val (.int (3 : Int32)), .val (.int (0 : Int32))] [])) (fun t k => XS.icmpNo X37.here hx rfl (hb hby at_50) rfl (teq (by decide : (0 : Int32) = (0 : Int32))).2 k) ?_
      refine own_st (V := T37.setTop (mkF m 54 #[.val (.int p1), .val (.int p2), .val (.int (3 : Int32)), .val (.ref (A 3)), .val (.int (p2.toInt16.toInt32)), .val (.int (3 : Int32)), .val (.int (0 : Int32))] [(.int (1 : Int32))])) (fun t k => XS.iconst X37.here hx rfl (hb hby at_53) k) ?_
      refine own_st (V := T37.setTop (mkF m 58 #[.val (.int p1), .val (.int p2), .val (.int (3 : Int32)), .val (.ref (A 3)), .val (.int (p2.toInt16.toInt32)), .val (.int (3 : Int32)), .val (.int (0 : Int32))] [(.int (1 : Int32))])) (fun t k => XS.goto X37.here hx rfl (pc0 := 54) (pc' := 58) rfl (hb hby at_54) (by decide) (by decide) k) ?_
      exact own_ret X37 hx hlk Bd.returns (by decide +kernel) (Or.inl ⟨rfl, by simp, _, rfl⟩) (hb hby at_58) (by decide) (by decide) (by show own_Q0 Z p1 p2 A h0 n0 _ T37.heap _; rw [e37]; exact ⟨rfl, N37⟩)
    · refine own_st (V := T35.setTop (mkF m 35 #[.val (.int p1), .val (.int p2), .val (.int (3 : Int32)), .val (.ref (A 3)), .val (.int (p2.toInt16.toInt32)), .val (.int (3 : Int32)), .unset] [])) (fun t k => XS.icmpNo X35.here hx rfl (hb hby at_32) rfl (flt hc).2.2.1 k) ?_
      refine own_st (V := T35.setTop (mkF m 36 #[.val (.int p1), .val (.int p2), .val (.int (3 : Int32)), .val (.ref (A 3)), .val (.int (p2.toInt16.toInt32)), .val (.int (3 : Int32)), .unset] [(.int (1 : Int32))])) (fun t k => XS.iconst X35.here hx rfl (hb hby at_35) k) ?_
      refine own_st (V := T35.setTop (mkF m 40 #[.val (.int p1), .val (.int p2), .val (.int (3 : Int32)), .val (.ref (A 3)), .val (.int (p2.toInt16.toInt32)), .val (.int (3 : Int32)), .unset] [(.int (1 : Int32))])) (fun t k => XS.goto X35.here hx rfl (pc0 := 36) (pc' := 40) rfl (hb hby at_36) (by decide) (by decide) k) ?_
      refine own_st (V := T35.setTop (mkF m 42 #[.val (.int p1), .val (.int p2), .val (.int (3 : Int32)), .val (.ref (A 3)), .val (.int (p2.toInt16.toInt32)), .val (.int (3 : Int32)), .val (.int (1 : Int32))] [])) (fun t k => XS.istore X35.here hx rfl (hb hby at_40) rfl (l' := #[.val (.int p1), .val (.int p2), .val (.int (3 : Int32)), .val (.ref (A 3)), .val (.int (p2.toInt16.toInt32)), .val (.int (3 : Int32)), .val (.int (1 : Int32))]) rfl k) ?_
      refine own_st (V := T35.setTop (mkF m 43 #[.val (.int p1), .val (.int p2), .val (.int (3 : Int32)), .val (.ref (A 3)), .val (.int (p2.toInt16.toInt32)), .val (.int (3 : Int32)), .val (.int (1 : Int32))] [(.ref (A 3))])) (fun t k => XS.aloadN X35.here hx rfl (hb hby at_42) rfl rfl k) ?_
      refine own_st (V := T35.setTop (mkF m 45 #[.val (.int p1), .val (.int p2), .val (.int (3 : Int32)), .val (.ref (A 3)), .val (.int (p2.toInt16.toInt32)), .val (.int (3 : Int32)), .val (.int (1 : Int32))] [(.int (p2.toInt16.toInt32)), (.ref (A 3))])) (fun t k => XS.iload X35.here hx rfl (hb hby at_43) rfl k) ?_
      obtain ⟨cq38, kq38, q38a, q38b, q38c⟩ := isOf hZ e35 (own_E En 3 (i := 3) (n := "OFFSET_COMMIT") rfl)
      obtain ⟨_, _, ⟨T38, L38, k38, n38⟩, -, X38, ⟨Lc38, hQ38, l38, y38, z38⟩, st38⟩ := X35.virtualBack hx (y := (⟨"com/example/bhaga/bhaga/wire/Api", "serves", "(S)Z"⟩ : MethodName)) (z := (⟨"com/example/bhaga/bhaga/wire/Api", "serves", "(S)Z"⟩ : MethodName)) hown (mvT hZ (hw _ (List.mem_of_getElem? (i := 11) rfl))) (mvT hZ (hw _ (List.mem_of_getElem? (i := 12) rfl))) (notFace_of_selects (args := #[]) (mvT hZ (hw _ (List.mem_of_getElem? (i := 14) rfl)))) (mvT hZ (hw _ (List.mem_of_getElem? (i := 14) rfl))) (mvT hZ (hw _ (List.mem_of_getElem? (i := 13) rfl))) (by decide) (backOf (W := 0) (own_mc l Z a0 hw [] (A 3) (p2.toInt16.toInt32) (3 : Int32) h0 n0 Z0 (own_F0 En 3 (i := 3) (n := "OFFSET_COMMIT") rfl) (own_F1 En 3 (i := 3) (n := "OFFSET_COMMIT") rfl) ha hc) hZ (hw _ (List.mem_of_getElem? (i := 15) rfl)) (hw _ (List.mem_of_getElem? (i := 6) rfl)) (by decide) (by decide)) q38a q38c (g := (mkF m 45 #[.val (.int p1), .val (.int p2), .val (.int (3 : Int32)), .val (.ref (A 3)), .val (.int (p2.toInt16.toInt32)), .val (.int (3 : Int32)), .val (.int (1 : Int32))] [(.int (p2.toInt16.toInt32)), (.ref (A 3))])) rfl (by rw [hml]; rfl) (Steps.refl _) (argsL := [(.int (p2.toInt16.toInt32))]) (rest := []) (lenOf own_pd2 rfl) rfl (by show 2 * 0 + _ ≤ _; exact Nat.le_of_eq rfl) (hb hby at_45) (fun _ _ => ⟨rfl, e35, (by decide : 0 + 0 ≤ _), (by decide : 0 + 0 ≤ _)⟩)
      dsimp only [Pt.U, Pt.locs, Pt.cells, Pt.slots] at X38 l38 y38 z38 st38 hQ38
      subst l38 y38 z38
      obtain ⟨rfl, N38q, e38⟩ := hQ38
      have N38 := Fr.app N35 N38q
      refine own_st (V := T38.setTop (mkF m 48 #[.val (.int p1), .val (.int p2), .val (.int (3 : Int32)), .val (.ref (A 3)), .val (.int (p2.toInt16.toInt32)), .val (.int (3 : Int32)), .val (.int (1 : Int32))] [(.int (1 : Int32))])) (fun t k => st38.trans k) ?_
      refine own_st (V := T38.setTop (mkF m 50 #[.val (.int p1), .val (.int p2), .val (.int (3 : Int32)), .val (.ref (A 3)), .val (.int (p2.toInt16.toInt32)), .val (.int (3 : Int32)), .val (.int (1 : Int32))] [(.int (1 : Int32)), (.int (1 : Int32))])) (fun t k => XS.iload X38.here hx rfl (hb hby at_48) rfl k) ?_
      refine own_st (V := T38.setTop (mkF m 53 #[.val (.int p1), .val (.int p2), .val (.int (3 : Int32)), .val (.ref (A 3)), .val (.int (p2.toInt16.toInt32)), .val (.int (3 : Int32)), .val (.int (1 : Int32))] [])) (fun t k => XS.icmpNo X38.here hx rfl (hb hby at_50) rfl (teq (by decide : (1 : Int32) = (1 : Int32))).2 k) ?_
      refine own_st (V := T38.setTop (mkF m 54 #[.val (.int p1), .val (.int p2), .val (.int (3 : Int32)), .val (.ref (A 3)), .val (.int (p2.toInt16.toInt32)), .val (.int (3 : Int32)), .val (.int (1 : Int32))] [(.int (1 : Int32))])) (fun t k => XS.iconst X38.here hx rfl (hb hby at_53) k) ?_
      refine own_st (V := T38.setTop (mkF m 58 #[.val (.int p1), .val (.int p2), .val (.int (3 : Int32)), .val (.ref (A 3)), .val (.int (p2.toInt16.toInt32)), .val (.int (3 : Int32)), .val (.int (1 : Int32))] [(.int (1 : Int32))])) (fun t k => XS.goto X38.here hx rfl (pc0 := 54) (pc' := 58) rfl (hb hby at_54) (by decide) (by decide) k) ?_
      exact own_ret X38 hx hlk Bd.returns (by decide +kernel) (Or.inl ⟨rfl, by simp, _, rfl⟩) (hb hby at_58) (by decide) (by decide) (by show own_Q0 Z p1 p2 A h0 n0 _ T38.heap _; rw [e38]; exact ⟨rfl, N38⟩)
set_option maxRecDepth 65536 in
set_option maxHeartbeats 40000000 in
theorem own_law4 (l : Launch) (Z : State) (a0 : Array Value) (hw : ∀ d ∈ tables_1, d.before a0 Z = true) (ws : List Jvm.Cond) (p1 : Int32) (p2 : Int32) (A : Nat → Addr) (h0 : Heap) (n0 : Nat) (Z0 : n0 ≤ h0.size) (En : own_En Z h0 A) (hk : ((p1 &&& (2147483647 : Int32)) % (13 : Int32)) = (4 : Int32)) :
    MetFree l x (head1 (Jvm.Cond.code x code maxLocals ret :: ws) room_1) (fun a U => a = #[(.int p1), (.int p2)] ∧ Z.Warmed39 U.vm ∧ U.heap = h0) (fun _ _ _ _ _ => True) (fun _ U o U' => ∃ v L, o = .returned v ∧ own_Q0 Z p1 p2 A h0 n0 v U'.heap L ∧ FrameEnd U o U' L room_1.cells room_1.slots) := by
  refine MetFree.of_bodySF (plainFor_of_name own_pn_com_example_bhaga_bhaga_wire_ApiServesPinLaw) hisR ?_
  intro p e s m args below meth c s₁ Bd hml0 hP hK
  obtain ⟨rfl, hZ, hh⟩ := hP
  have hx := Bd.exec
  have hby := Bd.bytes
  have hml : c.maxLocals = 7 := hml0
  have hown : s.vm.findClass "com/example/bhaga/bhaga/wire/ApiServesPinLaw" = some m.cls := findClass_of_methodNamed Bd.named
  have hnm := (name_of_methodNamed Bd.named Bd.method).1
  have hlk : meth.locks = false := BodyLoose.notSynchronized Bd
  have X0 : Stand p l e room_1 s m #[(.int p1), (.int p2)] below meth c s₁ [] 0 0 := Stand.of_body Bd
  have e0 : s₁.heap = h0 := by rw [← hh, Bd.state]; rfl
  have N0 := Fr.nil n0
  show own_Go p e below #[(.int p1), (.int p2)] s (fun _ U o U' => ∃ v L, o = .returned v ∧ own_Q0 Z p1 p2 A h0 n0 v U'.heap L ∧ FrameEnd U o U' L room_1.cells room_1.slots) (s₁.setTop (entryFrame m #[(.int p1), (.int p2)] maxLocals))
  refine own_st (V := s₁.setTop (mkF m 0 #[.val (.int p1), .val (.int p2), .unset, .unset, .unset, .unset, .unset] [])) (fun t k => castTop (by first | (simp [entryFrame, mkF, argsToLocals, Value.category, maxLocals]; done) | rfl) k) ?_
  refine own_st (V := s₁.setTop (mkF m 1 #[.val (.int p1), .val (.int p2), .unset, .unset, .unset, .unset, .unset] [(.int p1)])) (fun t k => XS.iloadN X0.here hx rfl (hb hby at_0) rfl k) ?_
  refine own_st (V := s₁.setTop (mkF m 3 #[.val (.int p1), .val (.int p2), .unset, .unset, .unset, .unset, .unset] [(.int (2147483647 : Int32)), (.int p1)])) (fun t k => X0.ldcInt hx hown (mvT hZ (hw _ (List.mem_of_getElem? (i := 0) rfl))) (g := (mkF m 1 #[.val (.int p1), .val (.int p2), .unset, .unset, .unset, .unset, .unset] [(.int p1)])) rfl (hb hby at_1) t k) ?_
  refine own_st (V := s₁.setTop (mkF m 4 #[.val (.int p1), .val (.int p2), .unset, .unset, .unset, .unset, .unset] [(.int (p1 &&& (2147483647 : Int32)))])) (fun t k => XS.iand X0.here hx rfl (hb hby at_3) rfl k) ?_
  refine own_st (V := s₁.setTop (mkF m 6 #[.val (.int p1), .val (.int p2), .unset, .unset, .unset, .unset, .unset] [(.int (13 : Int32)), (.int (p1 &&& (2147483647 : Int32)))])) (fun t k => XS.bipush X0.here hx rfl (hb hby at_4) k) ?_
  refine own_st (V := s₁.setTop (mkF m 7 #[.val (.int p1), .val (.int p2), .unset, .unset, .unset, .unset, .unset] [(.int ((p1 &&& (2147483647 : Int32)) % (13 : Int32)))])) (fun t k => Jvm.RoadKit.iremM X0 hx rfl (hb hby at_6) rfl (by decide) k) ?_
  rw [hk]
  refine own_st (V := s₁.setTop (mkF m 8 #[.val (.int p1), .val (.int p2), .val (.int (4 : Int32)), .unset, .unset, .unset, .unset] [])) (fun t k => XS.istoreN X0.here hx rfl (hb hby at_7) rfl (l' := #[.val (.int p1), .val (.int p2), .val (.int (4 : Int32)), .unset, .unset, .unset, .unset]) rfl k) ?_
  refine own_st (V := s₁.setTop (mkF m 9 #[.val (.int p1), .val (.int p2), .val (.int (4 : Int32)), .unset, .unset, .unset, .unset] [(.int (4 : Int32))])) (fun t k => XS.iloadN X0.here hx rfl (hb hby at_8) rfl k) ?_
  obtain ⟨_, _, ⟨T39, L39, k39, n39⟩, -, X39, ⟨Lc39, hQ39, l39, y39, z39⟩, st39⟩ := Jvm.LawKit.callS X0 hx (y := (⟨"com/example/bhaga/bhaga/wire/ApiServesPinLaw", "pick", "(I)Lcom/example/bhaga/bhaga/wire/Api;"⟩ : MethodName)) hown (mvT hZ (hw _ (List.mem_of_getElem? (i := 1) rfl))) (mvT hZ (hw _ (List.mem_of_getElem? (i := 2) rfl))) (mvT hZ (hw _ (List.mem_of_getElem? (i := 3) rfl))) (mvT hZ (hw _ (List.mem_of_getElem? (i := 4) rfl))) (by decide) (backOf (W := 0) (own_pick4 l Z a0 hw [] A h0 n0 Z0 En ) hZ (hw _ (List.mem_of_getElem? (i := 4) rfl)) (hw _ (List.mem_of_getElem? (i := 3) rfl)) (by decide) (by decide)) (g := (mkF m 9 #[.val (.int p1), .val (.int p2), .val (.int (4 : Int32)), .unset, .unset, .unset, .unset] [(.int (4 : Int32))])) rfl (by rw [hml]; rfl) (argsL := [(.int (4 : Int32))]) (rest := []) (lenOf own_pd0 rfl) rfl (by show 2 * 0 + _ ≤ _; exact Nat.le_of_eq rfl) (hb hby at_9) (fun _ _ => ⟨rfl, e0, (by decide : 0 + 0 ≤ _), (by decide : 0 + 0 ≤ _)⟩)
  dsimp only [Pt.U, Pt.locs, Pt.cells, Pt.slots] at X39 l39 y39 z39 st39 hQ39
  subst l39 y39 z39
  obtain ⟨rfl, N39q, e39⟩ := hQ39
  have N39 := Fr.app N0 N39q
  refine own_st (V := T39.setTop (mkF m 12 #[.val (.int p1), .val (.int p2), .val (.int (4 : Int32)), .unset, .unset, .unset, .unset] [(.ref (A 4))])) (fun t k => st39 _ k) ?_
  refine own_st (V := T39.setTop (mkF m 13 #[.val (.int p1), .val (.int p2), .val (.int (4 : Int32)), .val (.ref (A 4)), .unset, .unset, .unset] [])) (fun t k => XS.astoreN X39.here hx rfl (hb hby at_12) rfl rfl (l' := #[.val (.int p1), .val (.int p2), .val (.int (4 : Int32)), .val (.ref (A 4)), .unset, .unset, .unset]) rfl k) ?_
  refine own_st (V := T39.setTop (mkF m 14 #[.val (.int p1), .val (.int p2), .val (.int (4 : Int32)), .val (.ref (A 4)), .unset, .unset, .unset] [(.int p2)])) (fun t k => XS.iloadN X39.here hx rfl (hb hby at_13) rfl k) ?_
  refine own_st (V := T39.setTop (mkF m 15 #[.val (.int p1), .val (.int p2), .val (.int (4 : Int32)), .val (.ref (A 4)), .unset, .unset, .unset] [(.int (p2.toInt16.toInt32))])) (fun t k => XS.i2s X39.here hx rfl (hb hby at_14) rfl k) ?_
  refine own_st (V := T39.setTop (mkF m 17 #[.val (.int p1), .val (.int p2), .val (.int (4 : Int32)), .val (.ref (A 4)), .val (.int (p2.toInt16.toInt32)), .unset, .unset] [])) (fun t k => XS.istore X39.here hx rfl (hb hby at_15) rfl (l' := #[.val (.int p1), .val (.int p2), .val (.int (4 : Int32)), .val (.ref (A 4)), .val (.int (p2.toInt16.toInt32)), .unset, .unset]) rfl k) ?_
  refine own_st (V := T39.setTop (mkF m 18 #[.val (.int p1), .val (.int p2), .val (.int (4 : Int32)), .val (.ref (A 4)), .val (.int (p2.toInt16.toInt32)), .unset, .unset] [(.int (4 : Int32))])) (fun t k => XS.iloadN X39.here hx rfl (hb hby at_17) rfl k) ?_
  obtain ⟨_, _, ⟨T40, L40, k40, n40⟩, -, X40, ⟨Lc40, hQ40, l40, y40, z40⟩, st40⟩ := Jvm.LawKit.callS X39 hx (y := (⟨"com/example/bhaga/bhaga/wire/ApiServesPinLaw", "expectedMax", "(I)I"⟩ : MethodName)) hown (mvT hZ (hw _ (List.mem_of_getElem? (i := 8) rfl))) (mvT hZ (hw _ (List.mem_of_getElem? (i := 9) rfl))) (mvT hZ (hw _ (List.mem_of_getElem? (i := 3) rfl))) (mvT hZ (hw _ (List.mem_of_getElem? (i := 10) rfl))) (by decide) (backOf (W := 0) (own_em4 l Z a0 hw [] h0 n0 Z0 ) hZ (hw _ (List.mem_of_getElem? (i := 10) rfl)) (hw _ (List.mem_of_getElem? (i := 3) rfl)) (by decide) (by decide)) (g := (mkF m 18 #[.val (.int p1), .val (.int p2), .val (.int (4 : Int32)), .val (.ref (A 4)), .val (.int (p2.toInt16.toInt32)), .unset, .unset] [(.int (4 : Int32))])) rfl (by rw [hml]; rfl) (argsL := [(.int (4 : Int32))]) (rest := []) (lenOf own_pd1 rfl) rfl (by show 2 * 0 + _ ≤ _; exact Nat.le_of_eq rfl) (hb hby at_18) (fun _ _ => ⟨rfl, e39, (by decide : 0 + 0 ≤ _), (by decide : 0 + 0 ≤ _)⟩)
  dsimp only [Pt.U, Pt.locs, Pt.cells, Pt.slots] at X40 l40 y40 z40 st40 hQ40
  subst l40 y40 z40
  obtain ⟨rfl, N40q, e40⟩ := hQ40
  have N40 := Fr.app N39 N40q
  refine own_st (V := T40.setTop (mkF m 21 #[.val (.int p1), .val (.int p2), .val (.int (4 : Int32)), .val (.ref (A 4)), .val (.int (p2.toInt16.toInt32)), .unset, .unset] [(.int (3 : Int32))])) (fun t k => st40 _ k) ?_
  refine own_st (V := T40.setTop (mkF m 23 #[.val (.int p1), .val (.int p2), .val (.int (4 : Int32)), .val (.ref (A 4)), .val (.int (p2.toInt16.toInt32)), .val (.int (3 : Int32)), .unset] [])) (fun t k => XS.istore X40.here hx rfl (hb hby at_21) rfl (l' := #[.val (.int p1), .val (.int p2), .val (.int (4 : Int32)), .val (.ref (A 4)), .val (.int (p2.toInt16.toInt32)), .val (.int (3 : Int32)), .unset]) rfl k) ?_
  refine own_st (V := T40.setTop (mkF m 25 #[.val (.int p1), .val (.int p2), .val (.int (4 : Int32)), .val (.ref (A 4)), .val (.int (p2.toInt16.toInt32)), .val (.int (3 : Int32)), .unset] [(.int (p2.toInt16.toInt32))])) (fun t k => XS.iload X40.here hx rfl (hb hby at_23) rfl k) ?_
  by_cases ha : (p2.toInt16.toInt32) < (0 : Int32)
  · refine own_st (V := T40.setTop (mkF m 39 #[.val (.int p1), .val (.int p2), .val (.int (4 : Int32)), .val (.ref (A 4)), .val (.int (p2.toInt16.toInt32)), .val (.int (3 : Int32)), .unset] [])) (fun t k => XS.ifYes X40.here hx rfl (pc0 := 25) (pc' := 39) rfl (hb hby at_25) rfl ((if0 _ _).trans (tlt ha).1) (by decide) (by decide) k) ?_
    refine own_st (V := T40.setTop (mkF m 40 #[.val (.int p1), .val (.int p2), .val (.int (4 : Int32)), .val (.ref (A 4)), .val (.int (p2.toInt16.toInt32)), .val (.int (3 : Int32)), .unset] [(.int (0 : Int32))])) (fun t k => XS.iconst X40.here hx rfl (hb hby at_39) k) ?_
    refine own_st (V := T40.setTop (mkF m 42 #[.val (.int p1), .val (.int p2), .val (.int (4 : Int32)), .val (.ref (A 4)), .val (.int (p2.toInt16.toInt32)), .val (.int (3 : Int32)), .val (.int (0 : Int32))] [])) (fun t k => XS.istore X40.here hx rfl (hb hby at_40) rfl (l' := #[.val (.int p1), .val (.int p2), .val (.int (4 : Int32)), .val (.ref (A 4)), .val (.int (p2.toInt16.toInt32)), .val (.int (3 : Int32)), .val (.int (0 : Int32))]) rfl k) ?_
    refine own_st (V := T40.setTop (mkF m 43 #[.val (.int p1), .val (.int p2), .val (.int (4 : Int32)), .val (.ref (A 4)), .val (.int (p2.toInt16.toInt32)), .val (.int (3 : Int32)), .val (.int (0 : Int32))] [(.ref (A 4))])) (fun t k => XS.aloadN X40.here hx rfl (hb hby at_42) rfl rfl k) ?_
    refine own_st (V := T40.setTop (mkF m 45 #[.val (.int p1), .val (.int p2), .val (.int (4 : Int32)), .val (.ref (A 4)), .val (.int (p2.toInt16.toInt32)), .val (.int (3 : Int32)), .val (.int (0 : Int32))] [(.int (p2.toInt16.toInt32)), (.ref (A 4))])) (fun t k => XS.iload X40.here hx rfl (hb hby at_43) rfl k) ?_
    obtain ⟨cq41, kq41, q41a, q41b, q41c⟩ := isOf hZ e40 (own_E En 4 (i := 4) (n := "OFFSET_FETCH") rfl)
    obtain ⟨_, _, ⟨T41, L41, k41, n41⟩, -, X41, ⟨Lc41, hQ41, l41, y41, z41⟩, st41⟩ := X40.virtualBack hx (y := (⟨"com/example/bhaga/bhaga/wire/Api", "serves", "(S)Z"⟩ : MethodName)) (z := (⟨"com/example/bhaga/bhaga/wire/Api", "serves", "(S)Z"⟩ : MethodName)) hown (mvT hZ (hw _ (List.mem_of_getElem? (i := 11) rfl))) (mvT hZ (hw _ (List.mem_of_getElem? (i := 12) rfl))) (notFace_of_selects (args := #[]) (mvT hZ (hw _ (List.mem_of_getElem? (i := 14) rfl)))) (mvT hZ (hw _ (List.mem_of_getElem? (i := 14) rfl))) (mvT hZ (hw _ (List.mem_of_getElem? (i := 13) rfl))) (by decide) (backOf (W := 0) (own_ma l Z a0 hw [] (A 4) (p2.toInt16.toInt32) (3 : Int32) h0 n0 Z0 (own_F0 En 4 (i := 4) (n := "OFFSET_FETCH") rfl) (own_F1 En 4 (i := 4) (n := "OFFSET_FETCH") rfl) ha) hZ (hw _ (List.mem_of_getElem? (i := 15) rfl)) (hw _ (List.mem_of_getElem? (i := 6) rfl)) (by decide) (by decide)) q41a q41c (g := (mkF m 45 #[.val (.int p1), .val (.int p2), .val (.int (4 : Int32)), .val (.ref (A 4)), .val (.int (p2.toInt16.toInt32)), .val (.int (3 : Int32)), .val (.int (0 : Int32))] [(.int (p2.toInt16.toInt32)), (.ref (A 4))])) rfl (by rw [hml]; rfl) (Steps.refl _) (argsL := [(.int (p2.toInt16.toInt32))]) (rest := []) (lenOf own_pd2 rfl) rfl (by show 2 * 0 + _ ≤ _; exact Nat.le_of_eq rfl) (hb hby at_45) (fun _ _ => ⟨rfl, e40, (by decide : 0 + 0 ≤ _), (by decide : 0 + 0 ≤ _)⟩)
    dsimp only [Pt.U, Pt.locs, Pt.cells, Pt.slots] at X41 l41 y41 z41 st41 hQ41
    subst l41 y41 z41
    obtain ⟨rfl, N41q, e41⟩ := hQ41
    have N41 := Fr.app N40 N41q
    refine own_st (V := T41.setTop (mkF m 48 #[.val (.int p1), .val (.int p2), .val (.int (4 : Int32)), .val (.ref (A 4)), .val (.int (p2.toInt16.toInt32)), .val (.int (3 : Int32)), .val (.int (0 : Int32))] [(.int (0 : Int32))])) (fun t k => st41.trans k) ?_
    refine own_st (V := T41.setTop (mkF m 50 #[.val (.int p1), .val (.int p2), .val (.int (4 : Int32)), .val (.ref (A 4)), .val (.int (p2.toInt16.toInt32)), .val (.int (3 : Int32)), .val (.int (0 : Int32))] [(.int (0 : Int32)), (.int (0 : Int32))])) (fun t k => XS.iload X41.here hx rfl (hb hby at_48) rfl k) ?_
    refine own_st (V := T41.setTop (mkF m 53 #[.val (.int p1), .val (.int p2), .val (.int (4 : Int32)), .val (.ref (A 4)), .val (.int (p2.toInt16.toInt32)), .val (.int (3 : Int32)), .val (.int (0 : Int32))] [])) (fun t k => XS.icmpNo X41.here hx rfl (hb hby at_50) rfl (teq (by decide : (0 : Int32) = (0 : Int32))).2 k) ?_
    refine own_st (V := T41.setTop (mkF m 54 #[.val (.int p1), .val (.int p2), .val (.int (4 : Int32)), .val (.ref (A 4)), .val (.int (p2.toInt16.toInt32)), .val (.int (3 : Int32)), .val (.int (0 : Int32))] [(.int (1 : Int32))])) (fun t k => XS.iconst X41.here hx rfl (hb hby at_53) k) ?_
    refine own_st (V := T41.setTop (mkF m 58 #[.val (.int p1), .val (.int p2), .val (.int (4 : Int32)), .val (.ref (A 4)), .val (.int (p2.toInt16.toInt32)), .val (.int (3 : Int32)), .val (.int (0 : Int32))] [(.int (1 : Int32))])) (fun t k => XS.goto X41.here hx rfl (pc0 := 54) (pc' := 58) rfl (hb hby at_54) (by decide) (by decide) k) ?_
    exact own_ret X41 hx hlk Bd.returns (by decide +kernel) (Or.inl ⟨rfl, by simp, _, rfl⟩) (hb hby at_58) (by decide) (by decide) (by show own_Q0 Z p1 p2 A h0 n0 _ T41.heap _; rw [e41]; exact ⟨rfl, N41⟩)
  · refine own_st (V := T40.setTop (mkF m 28 #[.val (.int p1), .val (.int p2), .val (.int (4 : Int32)), .val (.ref (A 4)), .val (.int (p2.toInt16.toInt32)), .val (.int (3 : Int32)), .unset] [])) (fun t k => XS.ifNo X40.here hx rfl (hb hby at_25) rfl ((if0 _ _).trans (flt ha).1) k) ?_
    refine own_st (V := T40.setTop (mkF m 30 #[.val (.int p1), .val (.int p2), .val (.int (4 : Int32)), .val (.ref (A 4)), .val (.int (p2.toInt16.toInt32)), .val (.int (3 : Int32)), .unset] [(.int (p2.toInt16.toInt32))])) (fun t k => XS.iload X40.here hx rfl (hb hby at_28) rfl k) ?_
    refine own_st (V := T40.setTop (mkF m 32 #[.val (.int p1), .val (.int p2), .val (.int (4 : Int32)), .val (.ref (A 4)), .val (.int (p2.toInt16.toInt32)), .val (.int (3 : Int32)), .unset] [(.int (3 : Int32)), (.int (p2.toInt16.toInt32))])) (fun t k => XS.iload X40.here hx rfl (hb hby at_30) rfl k) ?_
    by_cases hc : (3 : Int32) < (p2.toInt16.toInt32)
    · refine own_st (V := T40.setTop (mkF m 39 #[.val (.int p1), .val (.int p2), .val (.int (4 : Int32)), .val (.ref (A 4)), .val (.int (p2.toInt16.toInt32)), .val (.int (3 : Int32)), .unset] [])) (fun t k => XS.icmpYes X40.here hx rfl (pc0 := 32) (pc' := 39) rfl (hb hby at_32) rfl (tlt hc).2.2.1 (by decide) (by decide) k) ?_
      refine own_st (V := T40.setTop (mkF m 40 #[.val (.int p1), .val (.int p2), .val (.int (4 : Int32)), .val (.ref (A 4)), .val (.int (p2.toInt16.toInt32)), .val (.int (3 : Int32)), .unset] [(.int (0 : Int32))])) (fun t k => XS.iconst X40.here hx rfl (hb hby at_39) k) ?_
      refine own_st (V := T40.setTop (mkF m 42 #[.val (.int p1), .val (.int p2), .val (.int (4 : Int32)), .val (.ref (A 4)), .val (.int (p2.toInt16.toInt32)), .val (.int (3 : Int32)), .val (.int (0 : Int32))] [])) (fun t k => XS.istore X40.here hx rfl (hb hby at_40) rfl (l' := #[.val (.int p1), .val (.int p2), .val (.int (4 : Int32)), .val (.ref (A 4)), .val (.int (p2.toInt16.toInt32)), .val (.int (3 : Int32)), .val (.int (0 : Int32))]) rfl k) ?_
      refine own_st (V := T40.setTop (mkF m 43 #[.val (.int p1), .val (.int p2), .val (.int (4 : Int32)), .val (.ref (A 4)), .val (.int (p2.toInt16.toInt32)), .val (.int (3 : Int32)), .val (.int (0 : Int32))] [(.ref (A 4))])) (fun t k => XS.aloadN X40.here hx rfl (hb hby at_42) rfl rfl k) ?_
      refine own_st (V := T40.setTop (mkF m 45 #[.val (.int p1), .val (.int p2), .val (.int (4 : Int32)), .val (.ref (A 4)), .val (.int (p2.toInt16.toInt32)), .val (.int (3 : Int32)), .val (.int (0 : Int32))] [(.int (p2.toInt16.toInt32)), (.ref (A 4))])) (fun t k => XS.iload X40.here hx rfl (hb hby at_43) rfl k) ?_
      obtain ⟨cq42, kq42, q42a, q42b, q42c⟩ := isOf hZ e40 (own_E En 4 (i := 4) (n := "OFFSET_FETCH") rfl)
      obtain ⟨_, _, ⟨T42, L42, k42, n42⟩, -, X42, ⟨Lc42, hQ42, l42, y42, z42⟩, st42⟩ := X40.virtualBack hx (y := (⟨"com/example/bhaga/bhaga/wire/Api", "serves", "(S)Z"⟩ : MethodName)) (z := (⟨"com/example/bhaga/bhaga/wire/Api", "serves", "(S)Z"⟩ : MethodName)) hown (mvT hZ (hw _ (List.mem_of_getElem? (i := 11) rfl))) (mvT hZ (hw _ (List.mem_of_getElem? (i := 12) rfl))) (notFace_of_selects (args := #[]) (mvT hZ (hw _ (List.mem_of_getElem? (i := 14) rfl)))) (mvT hZ (hw _ (List.mem_of_getElem? (i := 14) rfl))) (mvT hZ (hw _ (List.mem_of_getElem? (i := 13) rfl))) (by decide) (backOf (W := 0) (own_mb l Z a0 hw [] (A 4) (p2.toInt16.toInt32) (3 : Int32) h0 n0 Z0 (own_F0 En 4 (i := 4) (n := "OFFSET_FETCH") rfl) (own_F1 En 4 (i := 4) (n := "OFFSET_FETCH") rfl) ha hc) hZ (hw _ (List.mem_of_getElem? (i := 15) rfl)) (hw _ (List.mem_of_getElem? (i := 6) rfl)) (by decide) (by decide)) q42a q42c (g := (mkF m 45 #[.val (.int p1), .val (.int p2), .val (.int (4 : Int32)), .val (.ref (A 4)), .val (.int (p2.toInt16.toInt32)), .val (.int (3 : Int32)), .val (.int (0 : Int32))] [(.int (p2.toInt16.toInt32)), (.ref (A 4))])) rfl (by rw [hml]; rfl) (Steps.refl _) (argsL := [(.int (p2.toInt16.toInt32))]) (rest := []) (lenOf own_pd2 rfl) rfl (by show 2 * 0 + _ ≤ _; exact Nat.le_of_eq rfl) (hb hby at_45) (fun _ _ => ⟨rfl, e40, (by decide : 0 + 0 ≤ _), (by decide : 0 + 0 ≤ _)⟩)
      dsimp only [Pt.U, Pt.locs, Pt.cells, Pt.slots] at X42 l42 y42 z42 st42 hQ42
      subst l42 y42 z42
      obtain ⟨rfl, N42q, e42⟩ := hQ42
      have N42 := Fr.app N40 N42q
      refine own_st (V := T42.setTop (mkF m 48 #[.val (.int p1), .val (.int p2), .val (.int (4 : Int32)), .val (.ref (A 4)), .val (.int (p2.toInt16.toInt32)), .val (.int (3 : Int32)), .val (.int (0 : Int32))] [(.int (0 : Int32))])) (fun t k => st42.trans k) ?_
      refine own_st (V := T42.setTop (mkF m 50 #[.val (.int p1), .val (.int p2), .val (.int (4 : Int32)), .val (.ref (A 4)), .val (.int (p2.toInt16.toInt32)), .val (.int (3 : Int32)), .val (.int (0 : Int32))] [(.int (0 : Int32)), (.int (0 : Int32))])) (fun t k => XS.iload X42.here hx rfl (hb hby at_48) rfl k) ?_
      refine own_st (V := T42.setTop (mkF m 53 #[.val (.int p1), .val (.int p2), .val (.int (4 : Int32)), .val (.ref (A 4)), .val (.int (p2.toInt16.toInt32)), .val (.int (3 : Int32)), .val (.int (0 : Int32))] [])) (fun t k => XS.icmpNo X42.here hx rfl (hb hby at_50) rfl (teq (by decide : (0 : Int32) = (0 : Int32))).2 k) ?_
      refine own_st (V := T42.setTop (mkF m 54 #[.val (.int p1), .val (.int p2), .val (.int (4 : Int32)), .val (.ref (A 4)), .val (.int (p2.toInt16.toInt32)), .val (.int (3 : Int32)), .val (.int (0 : Int32))] [(.int (1 : Int32))])) (fun t k => XS.iconst X42.here hx rfl (hb hby at_53) k) ?_
      refine own_st (V := T42.setTop (mkF m 58 #[.val (.int p1), .val (.int p2), .val (.int (4 : Int32)), .val (.ref (A 4)), .val (.int (p2.toInt16.toInt32)), .val (.int (3 : Int32)), .val (.int (0 : Int32))] [(.int (1 : Int32))])) (fun t k => XS.goto X42.here hx rfl (pc0 := 54) (pc' := 58) rfl (hb hby at_54) (by decide) (by decide) k) ?_
      exact own_ret X42 hx hlk Bd.returns (by decide +kernel) (Or.inl ⟨rfl, by simp, _, rfl⟩) (hb hby at_58) (by decide) (by decide) (by show own_Q0 Z p1 p2 A h0 n0 _ T42.heap _; rw [e42]; exact ⟨rfl, N42⟩)
    · refine own_st (V := T40.setTop (mkF m 35 #[.val (.int p1), .val (.int p2), .val (.int (4 : Int32)), .val (.ref (A 4)), .val (.int (p2.toInt16.toInt32)), .val (.int (3 : Int32)), .unset] [])) (fun t k => XS.icmpNo X40.here hx rfl (hb hby at_32) rfl (flt hc).2.2.1 k) ?_
      refine own_st (V := T40.setTop (mkF m 36 #[.val (.int p1), .val (.int p2), .val (.int (4 : Int32)), .val (.ref (A 4)), .val (.int (p2.toInt16.toInt32)), .val (.int (3 : Int32)), .unset] [(.int (1 : Int32))])) (fun t k => XS.iconst X40.here hx rfl (hb hby at_35) k) ?_
      refine own_st (V := T40.setTop (mkF m 40 #[.val (.int p1), .val (.int p2), .val (.int (4 : Int32)), .val (.ref (A 4)), .val (.int (p2.toInt16.toInt32)), .val (.int (3 : Int32)), .unset] [(.int (1 : Int32))])) (fun t k => XS.goto X40.here hx rfl (pc0 := 36) (pc' := 40) rfl (hb hby at_36) (by decide) (by decide) k) ?_
      refine own_st (V := T40.setTop (mkF m 42 #[.val (.int p1), .val (.int p2), .val (.int (4 : Int32)), .val (.ref (A 4)), .val (.int (p2.toInt16.toInt32)), .val (.int (3 : Int32)), .val (.int (1 : Int32))] [])) (fun t k => XS.istore X40.here hx rfl (hb hby at_40) rfl (l' := #[.val (.int p1), .val (.int p2), .val (.int (4 : Int32)), .val (.ref (A 4)), .val (.int (p2.toInt16.toInt32)), .val (.int (3 : Int32)), .val (.int (1 : Int32))]) rfl k) ?_
      refine own_st (V := T40.setTop (mkF m 43 #[.val (.int p1), .val (.int p2), .val (.int (4 : Int32)), .val (.ref (A 4)), .val (.int (p2.toInt16.toInt32)), .val (.int (3 : Int32)), .val (.int (1 : Int32))] [(.ref (A 4))])) (fun t k => XS.aloadN X40.here hx rfl (hb hby at_42) rfl rfl k) ?_
      refine own_st (V := T40.setTop (mkF m 45 #[.val (.int p1), .val (.int p2), .val (.int (4 : Int32)), .val (.ref (A 4)), .val (.int (p2.toInt16.toInt32)), .val (.int (3 : Int32)), .val (.int (1 : Int32))] [(.int (p2.toInt16.toInt32)), (.ref (A 4))])) (fun t k => XS.iload X40.here hx rfl (hb hby at_43) rfl k) ?_
      obtain ⟨cq43, kq43, q43a, q43b, q43c⟩ := isOf hZ e40 (own_E En 4 (i := 4) (n := "OFFSET_FETCH") rfl)
      obtain ⟨_, _, ⟨T43, L43, k43, n43⟩, -, X43, ⟨Lc43, hQ43, l43, y43, z43⟩, st43⟩ := X40.virtualBack hx (y := (⟨"com/example/bhaga/bhaga/wire/Api", "serves", "(S)Z"⟩ : MethodName)) (z := (⟨"com/example/bhaga/bhaga/wire/Api", "serves", "(S)Z"⟩ : MethodName)) hown (mvT hZ (hw _ (List.mem_of_getElem? (i := 11) rfl))) (mvT hZ (hw _ (List.mem_of_getElem? (i := 12) rfl))) (notFace_of_selects (args := #[]) (mvT hZ (hw _ (List.mem_of_getElem? (i := 14) rfl)))) (mvT hZ (hw _ (List.mem_of_getElem? (i := 14) rfl))) (mvT hZ (hw _ (List.mem_of_getElem? (i := 13) rfl))) (by decide) (backOf (W := 0) (own_mc l Z a0 hw [] (A 4) (p2.toInt16.toInt32) (3 : Int32) h0 n0 Z0 (own_F0 En 4 (i := 4) (n := "OFFSET_FETCH") rfl) (own_F1 En 4 (i := 4) (n := "OFFSET_FETCH") rfl) ha hc) hZ (hw _ (List.mem_of_getElem? (i := 15) rfl)) (hw _ (List.mem_of_getElem? (i := 6) rfl)) (by decide) (by decide)) q43a q43c (g := (mkF m 45 #[.val (.int p1), .val (.int p2), .val (.int (4 : Int32)), .val (.ref (A 4)), .val (.int (p2.toInt16.toInt32)), .val (.int (3 : Int32)), .val (.int (1 : Int32))] [(.int (p2.toInt16.toInt32)), (.ref (A 4))])) rfl (by rw [hml]; rfl) (Steps.refl _) (argsL := [(.int (p2.toInt16.toInt32))]) (rest := []) (lenOf own_pd2 rfl) rfl (by show 2 * 0 + _ ≤ _; exact Nat.le_of_eq rfl) (hb hby at_45) (fun _ _ => ⟨rfl, e40, (by decide : 0 + 0 ≤ _), (by decide : 0 + 0 ≤ _)⟩)
      dsimp only [Pt.U, Pt.locs, Pt.cells, Pt.slots] at X43 l43 y43 z43 st43 hQ43
      subst l43 y43 z43
      obtain ⟨rfl, N43q, e43⟩ := hQ43
      have N43 := Fr.app N40 N43q
      refine own_st (V := T43.setTop (mkF m 48 #[.val (.int p1), .val (.int p2), .val (.int (4 : Int32)), .val (.ref (A 4)), .val (.int (p2.toInt16.toInt32)), .val (.int (3 : Int32)), .val (.int (1 : Int32))] [(.int (1 : Int32))])) (fun t k => st43.trans k) ?_
      refine own_st (V := T43.setTop (mkF m 50 #[.val (.int p1), .val (.int p2), .val (.int (4 : Int32)), .val (.ref (A 4)), .val (.int (p2.toInt16.toInt32)), .val (.int (3 : Int32)), .val (.int (1 : Int32))] [(.int (1 : Int32)), (.int (1 : Int32))])) (fun t k => XS.iload X43.here hx rfl (hb hby at_48) rfl k) ?_
      refine own_st (V := T43.setTop (mkF m 53 #[.val (.int p1), .val (.int p2), .val (.int (4 : Int32)), .val (.ref (A 4)), .val (.int (p2.toInt16.toInt32)), .val (.int (3 : Int32)), .val (.int (1 : Int32))] [])) (fun t k => XS.icmpNo X43.here hx rfl (hb hby at_50) rfl (teq (by decide : (1 : Int32) = (1 : Int32))).2 k) ?_
      refine own_st (V := T43.setTop (mkF m 54 #[.val (.int p1), .val (.int p2), .val (.int (4 : Int32)), .val (.ref (A 4)), .val (.int (p2.toInt16.toInt32)), .val (.int (3 : Int32)), .val (.int (1 : Int32))] [(.int (1 : Int32))])) (fun t k => XS.iconst X43.here hx rfl (hb hby at_53) k) ?_
      refine own_st (V := T43.setTop (mkF m 58 #[.val (.int p1), .val (.int p2), .val (.int (4 : Int32)), .val (.ref (A 4)), .val (.int (p2.toInt16.toInt32)), .val (.int (3 : Int32)), .val (.int (1 : Int32))] [(.int (1 : Int32))])) (fun t k => XS.goto X43.here hx rfl (pc0 := 54) (pc' := 58) rfl (hb hby at_54) (by decide) (by decide) k) ?_
      exact own_ret X43 hx hlk Bd.returns (by decide +kernel) (Or.inl ⟨rfl, by simp, _, rfl⟩) (hb hby at_58) (by decide) (by decide) (by show own_Q0 Z p1 p2 A h0 n0 _ T43.heap _; rw [e43]; exact ⟨rfl, N43⟩)
set_option maxRecDepth 65536 in
set_option maxHeartbeats 40000000 in
theorem own_law5 (l : Launch) (Z : State) (a0 : Array Value) (hw : ∀ d ∈ tables_1, d.before a0 Z = true) (ws : List Jvm.Cond) (p1 : Int32) (p2 : Int32) (A : Nat → Addr) (h0 : Heap) (n0 : Nat) (Z0 : n0 ≤ h0.size) (En : own_En Z h0 A) (hk : ((p1 &&& (2147483647 : Int32)) % (13 : Int32)) = (5 : Int32)) :
    MetFree l x (head1 (Jvm.Cond.code x code maxLocals ret :: ws) room_1) (fun a U => a = #[(.int p1), (.int p2)] ∧ Z.Warmed39 U.vm ∧ U.heap = h0) (fun _ _ _ _ _ => True) (fun _ U o U' => ∃ v L, o = .returned v ∧ own_Q0 Z p1 p2 A h0 n0 v U'.heap L ∧ FrameEnd U o U' L room_1.cells room_1.slots) := by
  refine MetFree.of_bodySF (plainFor_of_name own_pn_com_example_bhaga_bhaga_wire_ApiServesPinLaw) hisR ?_
  intro p e s m args below meth c s₁ Bd hml0 hP hK
  obtain ⟨rfl, hZ, hh⟩ := hP
  have hx := Bd.exec
  have hby := Bd.bytes
  have hml : c.maxLocals = 7 := hml0
  have hown : s.vm.findClass "com/example/bhaga/bhaga/wire/ApiServesPinLaw" = some m.cls := findClass_of_methodNamed Bd.named
  have hnm := (name_of_methodNamed Bd.named Bd.method).1
  have hlk : meth.locks = false := BodyLoose.notSynchronized Bd
  have X0 : Stand p l e room_1 s m #[(.int p1), (.int p2)] below meth c s₁ [] 0 0 := Stand.of_body Bd
  have e0 : s₁.heap = h0 := by rw [← hh, Bd.state]; rfl
  have N0 := Fr.nil n0
  show own_Go p e below #[(.int p1), (.int p2)] s (fun _ U o U' => ∃ v L, o = .returned v ∧ own_Q0 Z p1 p2 A h0 n0 v U'.heap L ∧ FrameEnd U o U' L room_1.cells room_1.slots) (s₁.setTop (entryFrame m #[(.int p1), (.int p2)] maxLocals))
  refine own_st (V := s₁.setTop (mkF m 0 #[.val (.int p1), .val (.int p2), .unset, .unset, .unset, .unset, .unset] [])) (fun t k => castTop (by first | (simp [entryFrame, mkF, argsToLocals, Value.category, maxLocals]; done) | rfl) k) ?_
  refine own_st (V := s₁.setTop (mkF m 1 #[.val (.int p1), .val (.int p2), .unset, .unset, .unset, .unset, .unset] [(.int p1)])) (fun t k => XS.iloadN X0.here hx rfl (hb hby at_0) rfl k) ?_
  refine own_st (V := s₁.setTop (mkF m 3 #[.val (.int p1), .val (.int p2), .unset, .unset, .unset, .unset, .unset] [(.int (2147483647 : Int32)), (.int p1)])) (fun t k => X0.ldcInt hx hown (mvT hZ (hw _ (List.mem_of_getElem? (i := 0) rfl))) (g := (mkF m 1 #[.val (.int p1), .val (.int p2), .unset, .unset, .unset, .unset, .unset] [(.int p1)])) rfl (hb hby at_1) t k) ?_
  refine own_st (V := s₁.setTop (mkF m 4 #[.val (.int p1), .val (.int p2), .unset, .unset, .unset, .unset, .unset] [(.int (p1 &&& (2147483647 : Int32)))])) (fun t k => XS.iand X0.here hx rfl (hb hby at_3) rfl k) ?_
  refine own_st (V := s₁.setTop (mkF m 6 #[.val (.int p1), .val (.int p2), .unset, .unset, .unset, .unset, .unset] [(.int (13 : Int32)), (.int (p1 &&& (2147483647 : Int32)))])) (fun t k => XS.bipush X0.here hx rfl (hb hby at_4) k) ?_
  refine own_st (V := s₁.setTop (mkF m 7 #[.val (.int p1), .val (.int p2), .unset, .unset, .unset, .unset, .unset] [(.int ((p1 &&& (2147483647 : Int32)) % (13 : Int32)))])) (fun t k => Jvm.RoadKit.iremM X0 hx rfl (hb hby at_6) rfl (by decide) k) ?_
  rw [hk]
  refine own_st (V := s₁.setTop (mkF m 8 #[.val (.int p1), .val (.int p2), .val (.int (5 : Int32)), .unset, .unset, .unset, .unset] [])) (fun t k => XS.istoreN X0.here hx rfl (hb hby at_7) rfl (l' := #[.val (.int p1), .val (.int p2), .val (.int (5 : Int32)), .unset, .unset, .unset, .unset]) rfl k) ?_
  refine own_st (V := s₁.setTop (mkF m 9 #[.val (.int p1), .val (.int p2), .val (.int (5 : Int32)), .unset, .unset, .unset, .unset] [(.int (5 : Int32))])) (fun t k => XS.iloadN X0.here hx rfl (hb hby at_8) rfl k) ?_
  obtain ⟨_, _, ⟨T44, L44, k44, n44⟩, -, X44, ⟨Lc44, hQ44, l44, y44, z44⟩, st44⟩ := Jvm.LawKit.callS X0 hx (y := (⟨"com/example/bhaga/bhaga/wire/ApiServesPinLaw", "pick", "(I)Lcom/example/bhaga/bhaga/wire/Api;"⟩ : MethodName)) hown (mvT hZ (hw _ (List.mem_of_getElem? (i := 1) rfl))) (mvT hZ (hw _ (List.mem_of_getElem? (i := 2) rfl))) (mvT hZ (hw _ (List.mem_of_getElem? (i := 3) rfl))) (mvT hZ (hw _ (List.mem_of_getElem? (i := 4) rfl))) (by decide) (backOf (W := 0) (own_pick5 l Z a0 hw [] A h0 n0 Z0 En ) hZ (hw _ (List.mem_of_getElem? (i := 4) rfl)) (hw _ (List.mem_of_getElem? (i := 3) rfl)) (by decide) (by decide)) (g := (mkF m 9 #[.val (.int p1), .val (.int p2), .val (.int (5 : Int32)), .unset, .unset, .unset, .unset] [(.int (5 : Int32))])) rfl (by rw [hml]; rfl) (argsL := [(.int (5 : Int32))]) (rest := []) (lenOf own_pd0 rfl) rfl (by show 2 * 0 + _ ≤ _; exact Nat.le_of_eq rfl) (hb hby at_9) (fun _ _ => ⟨rfl, e0, (by decide : 0 + 0 ≤ _), (by decide : 0 + 0 ≤ _)⟩)
  dsimp only [Pt.U, Pt.locs, Pt.cells, Pt.slots] at X44 l44 y44 z44 st44 hQ44
  subst l44 y44 z44
  obtain ⟨rfl, N44q, e44⟩ := hQ44
  have N44 := Fr.app N0 N44q
  refine own_st (V := T44.setTop (mkF m 12 #[.val (.int p1), .val (.int p2), .val (.int (5 : Int32)), .unset, .unset, .unset, .unset] [(.ref (A 5))])) (fun t k => st44 _ k) ?_
  refine own_st (V := T44.setTop (mkF m 13 #[.val (.int p1), .val (.int p2), .val (.int (5 : Int32)), .val (.ref (A 5)), .unset, .unset, .unset] [])) (fun t k => XS.astoreN X44.here hx rfl (hb hby at_12) rfl rfl (l' := #[.val (.int p1), .val (.int p2), .val (.int (5 : Int32)), .val (.ref (A 5)), .unset, .unset, .unset]) rfl k) ?_
  refine own_st (V := T44.setTop (mkF m 14 #[.val (.int p1), .val (.int p2), .val (.int (5 : Int32)), .val (.ref (A 5)), .unset, .unset, .unset] [(.int p2)])) (fun t k => XS.iloadN X44.here hx rfl (hb hby at_13) rfl k) ?_
  refine own_st (V := T44.setTop (mkF m 15 #[.val (.int p1), .val (.int p2), .val (.int (5 : Int32)), .val (.ref (A 5)), .unset, .unset, .unset] [(.int (p2.toInt16.toInt32))])) (fun t k => XS.i2s X44.here hx rfl (hb hby at_14) rfl k) ?_
  refine own_st (V := T44.setTop (mkF m 17 #[.val (.int p1), .val (.int p2), .val (.int (5 : Int32)), .val (.ref (A 5)), .val (.int (p2.toInt16.toInt32)), .unset, .unset] [])) (fun t k => XS.istore X44.here hx rfl (hb hby at_15) rfl (l' := #[.val (.int p1), .val (.int p2), .val (.int (5 : Int32)), .val (.ref (A 5)), .val (.int (p2.toInt16.toInt32)), .unset, .unset]) rfl k) ?_
  refine own_st (V := T44.setTop (mkF m 18 #[.val (.int p1), .val (.int p2), .val (.int (5 : Int32)), .val (.ref (A 5)), .val (.int (p2.toInt16.toInt32)), .unset, .unset] [(.int (5 : Int32))])) (fun t k => XS.iloadN X44.here hx rfl (hb hby at_17) rfl k) ?_
  obtain ⟨_, _, ⟨T45, L45, k45, n45⟩, -, X45, ⟨Lc45, hQ45, l45, y45, z45⟩, st45⟩ := Jvm.LawKit.callS X44 hx (y := (⟨"com/example/bhaga/bhaga/wire/ApiServesPinLaw", "expectedMax", "(I)I"⟩ : MethodName)) hown (mvT hZ (hw _ (List.mem_of_getElem? (i := 8) rfl))) (mvT hZ (hw _ (List.mem_of_getElem? (i := 9) rfl))) (mvT hZ (hw _ (List.mem_of_getElem? (i := 3) rfl))) (mvT hZ (hw _ (List.mem_of_getElem? (i := 10) rfl))) (by decide) (backOf (W := 0) (own_em5 l Z a0 hw [] h0 n0 Z0 ) hZ (hw _ (List.mem_of_getElem? (i := 10) rfl)) (hw _ (List.mem_of_getElem? (i := 3) rfl)) (by decide) (by decide)) (g := (mkF m 18 #[.val (.int p1), .val (.int p2), .val (.int (5 : Int32)), .val (.ref (A 5)), .val (.int (p2.toInt16.toInt32)), .unset, .unset] [(.int (5 : Int32))])) rfl (by rw [hml]; rfl) (argsL := [(.int (5 : Int32))]) (rest := []) (lenOf own_pd1 rfl) rfl (by show 2 * 0 + _ ≤ _; exact Nat.le_of_eq rfl) (hb hby at_18) (fun _ _ => ⟨rfl, e44, (by decide : 0 + 0 ≤ _), (by decide : 0 + 0 ≤ _)⟩)
  dsimp only [Pt.U, Pt.locs, Pt.cells, Pt.slots] at X45 l45 y45 z45 st45 hQ45
  subst l45 y45 z45
  obtain ⟨rfl, N45q, e45⟩ := hQ45
  have N45 := Fr.app N44 N45q
  refine own_st (V := T45.setTop (mkF m 21 #[.val (.int p1), .val (.int p2), .val (.int (5 : Int32)), .val (.ref (A 5)), .val (.int (p2.toInt16.toInt32)), .unset, .unset] [(.int (2 : Int32))])) (fun t k => st45 _ k) ?_
  refine own_st (V := T45.setTop (mkF m 23 #[.val (.int p1), .val (.int p2), .val (.int (5 : Int32)), .val (.ref (A 5)), .val (.int (p2.toInt16.toInt32)), .val (.int (2 : Int32)), .unset] [])) (fun t k => XS.istore X45.here hx rfl (hb hby at_21) rfl (l' := #[.val (.int p1), .val (.int p2), .val (.int (5 : Int32)), .val (.ref (A 5)), .val (.int (p2.toInt16.toInt32)), .val (.int (2 : Int32)), .unset]) rfl k) ?_
  refine own_st (V := T45.setTop (mkF m 25 #[.val (.int p1), .val (.int p2), .val (.int (5 : Int32)), .val (.ref (A 5)), .val (.int (p2.toInt16.toInt32)), .val (.int (2 : Int32)), .unset] [(.int (p2.toInt16.toInt32))])) (fun t k => XS.iload X45.here hx rfl (hb hby at_23) rfl k) ?_
  by_cases ha : (p2.toInt16.toInt32) < (0 : Int32)
  · refine own_st (V := T45.setTop (mkF m 39 #[.val (.int p1), .val (.int p2), .val (.int (5 : Int32)), .val (.ref (A 5)), .val (.int (p2.toInt16.toInt32)), .val (.int (2 : Int32)), .unset] [])) (fun t k => XS.ifYes X45.here hx rfl (pc0 := 25) (pc' := 39) rfl (hb hby at_25) rfl ((if0 _ _).trans (tlt ha).1) (by decide) (by decide) k) ?_
    refine own_st (V := T45.setTop (mkF m 40 #[.val (.int p1), .val (.int p2), .val (.int (5 : Int32)), .val (.ref (A 5)), .val (.int (p2.toInt16.toInt32)), .val (.int (2 : Int32)), .unset] [(.int (0 : Int32))])) (fun t k => XS.iconst X45.here hx rfl (hb hby at_39) k) ?_
    refine own_st (V := T45.setTop (mkF m 42 #[.val (.int p1), .val (.int p2), .val (.int (5 : Int32)), .val (.ref (A 5)), .val (.int (p2.toInt16.toInt32)), .val (.int (2 : Int32)), .val (.int (0 : Int32))] [])) (fun t k => XS.istore X45.here hx rfl (hb hby at_40) rfl (l' := #[.val (.int p1), .val (.int p2), .val (.int (5 : Int32)), .val (.ref (A 5)), .val (.int (p2.toInt16.toInt32)), .val (.int (2 : Int32)), .val (.int (0 : Int32))]) rfl k) ?_
    refine own_st (V := T45.setTop (mkF m 43 #[.val (.int p1), .val (.int p2), .val (.int (5 : Int32)), .val (.ref (A 5)), .val (.int (p2.toInt16.toInt32)), .val (.int (2 : Int32)), .val (.int (0 : Int32))] [(.ref (A 5))])) (fun t k => XS.aloadN X45.here hx rfl (hb hby at_42) rfl rfl k) ?_
    refine own_st (V := T45.setTop (mkF m 45 #[.val (.int p1), .val (.int p2), .val (.int (5 : Int32)), .val (.ref (A 5)), .val (.int (p2.toInt16.toInt32)), .val (.int (2 : Int32)), .val (.int (0 : Int32))] [(.int (p2.toInt16.toInt32)), (.ref (A 5))])) (fun t k => XS.iload X45.here hx rfl (hb hby at_43) rfl k) ?_
    obtain ⟨cq46, kq46, q46a, q46b, q46c⟩ := isOf hZ e45 (own_E En 5 (i := 5) (n := "FIND_COORDINATOR") rfl)
    obtain ⟨_, _, ⟨T46, L46, k46, n46⟩, -, X46, ⟨Lc46, hQ46, l46, y46, z46⟩, st46⟩ := X45.virtualBack hx (y := (⟨"com/example/bhaga/bhaga/wire/Api", "serves", "(S)Z"⟩ : MethodName)) (z := (⟨"com/example/bhaga/bhaga/wire/Api", "serves", "(S)Z"⟩ : MethodName)) hown (mvT hZ (hw _ (List.mem_of_getElem? (i := 11) rfl))) (mvT hZ (hw _ (List.mem_of_getElem? (i := 12) rfl))) (notFace_of_selects (args := #[]) (mvT hZ (hw _ (List.mem_of_getElem? (i := 14) rfl)))) (mvT hZ (hw _ (List.mem_of_getElem? (i := 14) rfl))) (mvT hZ (hw _ (List.mem_of_getElem? (i := 13) rfl))) (by decide) (backOf (W := 0) (own_ma l Z a0 hw [] (A 5) (p2.toInt16.toInt32) (2 : Int32) h0 n0 Z0 (own_F0 En 5 (i := 5) (n := "FIND_COORDINATOR") rfl) (own_F1 En 5 (i := 5) (n := "FIND_COORDINATOR") rfl) ha) hZ (hw _ (List.mem_of_getElem? (i := 15) rfl)) (hw _ (List.mem_of_getElem? (i := 6) rfl)) (by decide) (by decide)) q46a q46c (g := (mkF m 45 #[.val (.int p1), .val (.int p2), .val (.int (5 : Int32)), .val (.ref (A 5)), .val (.int (p2.toInt16.toInt32)), .val (.int (2 : Int32)), .val (.int (0 : Int32))] [(.int (p2.toInt16.toInt32)), (.ref (A 5))])) rfl (by rw [hml]; rfl) (Steps.refl _) (argsL := [(.int (p2.toInt16.toInt32))]) (rest := []) (lenOf own_pd2 rfl) rfl (by show 2 * 0 + _ ≤ _; exact Nat.le_of_eq rfl) (hb hby at_45) (fun _ _ => ⟨rfl, e45, (by decide : 0 + 0 ≤ _), (by decide : 0 + 0 ≤ _)⟩)
    dsimp only [Pt.U, Pt.locs, Pt.cells, Pt.slots] at X46 l46 y46 z46 st46 hQ46
    subst l46 y46 z46
    obtain ⟨rfl, N46q, e46⟩ := hQ46
    have N46 := Fr.app N45 N46q
    refine own_st (V := T46.setTop (mkF m 48 #[.val (.int p1), .val (.int p2), .val (.int (5 : Int32)), .val (.ref (A 5)), .val (.int (p2.toInt16.toInt32)), .val (.int (2 : Int32)), .val (.int (0 : Int32))] [(.int (0 : Int32))])) (fun t k => st46.trans k) ?_
    refine own_st (V := T46.setTop (mkF m 50 #[.val (.int p1), .val (.int p2), .val (.int (5 : Int32)), .val (.ref (A 5)), .val (.int (p2.toInt16.toInt32)), .val (.int (2 : Int32)), .val (.int (0 : Int32))] [(.int (0 : Int32)), (.int (0 : Int32))])) (fun t k => XS.iload X46.here hx rfl (hb hby at_48) rfl k) ?_
    refine own_st (V := T46.setTop (mkF m 53 #[.val (.int p1), .val (.int p2), .val (.int (5 : Int32)), .val (.ref (A 5)), .val (.int (p2.toInt16.toInt32)), .val (.int (2 : Int32)), .val (.int (0 : Int32))] [])) (fun t k => XS.icmpNo X46.here hx rfl (hb hby at_50) rfl (teq (by decide : (0 : Int32) = (0 : Int32))).2 k) ?_
    refine own_st (V := T46.setTop (mkF m 54 #[.val (.int p1), .val (.int p2), .val (.int (5 : Int32)), .val (.ref (A 5)), .val (.int (p2.toInt16.toInt32)), .val (.int (2 : Int32)), .val (.int (0 : Int32))] [(.int (1 : Int32))])) (fun t k => XS.iconst X46.here hx rfl (hb hby at_53) k) ?_
    refine own_st (V := T46.setTop (mkF m 58 #[.val (.int p1), .val (.int p2), .val (.int (5 : Int32)), .val (.ref (A 5)), .val (.int (p2.toInt16.toInt32)), .val (.int (2 : Int32)), .val (.int (0 : Int32))] [(.int (1 : Int32))])) (fun t k => XS.goto X46.here hx rfl (pc0 := 54) (pc' := 58) rfl (hb hby at_54) (by decide) (by decide) k) ?_
    exact own_ret X46 hx hlk Bd.returns (by decide +kernel) (Or.inl ⟨rfl, by simp, _, rfl⟩) (hb hby at_58) (by decide) (by decide) (by show own_Q0 Z p1 p2 A h0 n0 _ T46.heap _; rw [e46]; exact ⟨rfl, N46⟩)
  · refine own_st (V := T45.setTop (mkF m 28 #[.val (.int p1), .val (.int p2), .val (.int (5 : Int32)), .val (.ref (A 5)), .val (.int (p2.toInt16.toInt32)), .val (.int (2 : Int32)), .unset] [])) (fun t k => XS.ifNo X45.here hx rfl (hb hby at_25) rfl ((if0 _ _).trans (flt ha).1) k) ?_
    refine own_st (V := T45.setTop (mkF m 30 #[.val (.int p1), .val (.int p2), .val (.int (5 : Int32)), .val (.ref (A 5)), .val (.int (p2.toInt16.toInt32)), .val (.int (2 : Int32)), .unset] [(.int (p2.toInt16.toInt32))])) (fun t k => XS.iload X45.here hx rfl (hb hby at_28) rfl k) ?_
    refine own_st (V := T45.setTop (mkF m 32 #[.val (.int p1), .val (.int p2), .val (.int (5 : Int32)), .val (.ref (A 5)), .val (.int (p2.toInt16.toInt32)), .val (.int (2 : Int32)), .unset] [(.int (2 : Int32)), (.int (p2.toInt16.toInt32))])) (fun t k => XS.iload X45.here hx rfl (hb hby at_30) rfl k) ?_
    by_cases hc : (2 : Int32) < (p2.toInt16.toInt32)
    · refine own_st (V := T45.setTop (mkF m 39 #[.val (.int p1), .val (.int p2), .val (.int (5 : Int32)), .val (.ref (A 5)), .val (.int (p2.toInt16.toInt32)), .val (.int (2 : Int32)), .unset] [])) (fun t k => XS.icmpYes X45.here hx rfl (pc0 := 32) (pc' := 39) rfl (hb hby at_32) rfl (tlt hc).2.2.1 (by decide) (by decide) k) ?_
      refine own_st (V := T45.setTop (mkF m 40 #[.val (.int p1), .val (.int p2), .val (.int (5 : Int32)), .val (.ref (A 5)), .val (.int (p2.toInt16.toInt32)), .val (.int (2 : Int32)), .unset] [(.int (0 : Int32))])) (fun t k => XS.iconst X45.here hx rfl (hb hby at_39) k) ?_
      refine own_st (V := T45.setTop (mkF m 42 #[.val (.int p1), .val (.int p2), .val (.int (5 : Int32)), .val (.ref (A 5)), .val (.int (p2.toInt16.toInt32)), .val (.int (2 : Int32)), .val (.int (0 : Int32))] [])) (fun t k => XS.istore X45.here hx rfl (hb hby at_40) rfl (l' := #[.val (.int p1), .val (.int p2), .val (.int (5 : Int32)), .val (.ref (A 5)), .val (.int (p2.toInt16.toInt32)), .val (.int (2 : Int32)), .val (.int (0 : Int32))]) rfl k) ?_
      refine own_st (V := T45.setTop (mkF m 43 #[.val (.int p1), .val (.int p2), .val (.int (5 : Int32)), .val (.ref (A 5)), .val (.int (p2.toInt16.toInt32)), .val (.int (2 : Int32)), .val (.int (0 : Int32))] [(.ref (A 5))])) (fun t k => XS.aloadN X45.here hx rfl (hb hby at_42) rfl rfl k) ?_
      refine own_st (V := T45.setTop (mkF m 45 #[.val (.int p1), .val (.int p2), .val (.int (5 : Int32)), .val (.ref (A 5)), .val (.int (p2.toInt16.toInt32)), .val (.int (2 : Int32)), .val (.int (0 : Int32))] [(.int (p2.toInt16.toInt32)), (.ref (A 5))])) (fun t k => XS.iload X45.here hx rfl (hb hby at_43) rfl k) ?_
      obtain ⟨cq47, kq47, q47a, q47b, q47c⟩ := isOf hZ e45 (own_E En 5 (i := 5) (n := "FIND_COORDINATOR") rfl)
      obtain ⟨_, _, ⟨T47, L47, k47, n47⟩, -, X47, ⟨Lc47, hQ47, l47, y47, z47⟩, st47⟩ := X45.virtualBack hx (y := (⟨"com/example/bhaga/bhaga/wire/Api", "serves", "(S)Z"⟩ : MethodName)) (z := (⟨"com/example/bhaga/bhaga/wire/Api", "serves", "(S)Z"⟩ : MethodName)) hown (mvT hZ (hw _ (List.mem_of_getElem? (i := 11) rfl))) (mvT hZ (hw _ (List.mem_of_getElem? (i := 12) rfl))) (notFace_of_selects (args := #[]) (mvT hZ (hw _ (List.mem_of_getElem? (i := 14) rfl)))) (mvT hZ (hw _ (List.mem_of_getElem? (i := 14) rfl))) (mvT hZ (hw _ (List.mem_of_getElem? (i := 13) rfl))) (by decide) (backOf (W := 0) (own_mb l Z a0 hw [] (A 5) (p2.toInt16.toInt32) (2 : Int32) h0 n0 Z0 (own_F0 En 5 (i := 5) (n := "FIND_COORDINATOR") rfl) (own_F1 En 5 (i := 5) (n := "FIND_COORDINATOR") rfl) ha hc) hZ (hw _ (List.mem_of_getElem? (i := 15) rfl)) (hw _ (List.mem_of_getElem? (i := 6) rfl)) (by decide) (by decide)) q47a q47c (g := (mkF m 45 #[.val (.int p1), .val (.int p2), .val (.int (5 : Int32)), .val (.ref (A 5)), .val (.int (p2.toInt16.toInt32)), .val (.int (2 : Int32)), .val (.int (0 : Int32))] [(.int (p2.toInt16.toInt32)), (.ref (A 5))])) rfl (by rw [hml]; rfl) (Steps.refl _) (argsL := [(.int (p2.toInt16.toInt32))]) (rest := []) (lenOf own_pd2 rfl) rfl (by show 2 * 0 + _ ≤ _; exact Nat.le_of_eq rfl) (hb hby at_45) (fun _ _ => ⟨rfl, e45, (by decide : 0 + 0 ≤ _), (by decide : 0 + 0 ≤ _)⟩)
      dsimp only [Pt.U, Pt.locs, Pt.cells, Pt.slots] at X47 l47 y47 z47 st47 hQ47
      subst l47 y47 z47
      obtain ⟨rfl, N47q, e47⟩ := hQ47
      have N47 := Fr.app N45 N47q
      refine own_st (V := T47.setTop (mkF m 48 #[.val (.int p1), .val (.int p2), .val (.int (5 : Int32)), .val (.ref (A 5)), .val (.int (p2.toInt16.toInt32)), .val (.int (2 : Int32)), .val (.int (0 : Int32))] [(.int (0 : Int32))])) (fun t k => st47.trans k) ?_
      refine own_st (V := T47.setTop (mkF m 50 #[.val (.int p1), .val (.int p2), .val (.int (5 : Int32)), .val (.ref (A 5)), .val (.int (p2.toInt16.toInt32)), .val (.int (2 : Int32)), .val (.int (0 : Int32))] [(.int (0 : Int32)), (.int (0 : Int32))])) (fun t k => XS.iload X47.here hx rfl (hb hby at_48) rfl k) ?_
      refine own_st (V := T47.setTop (mkF m 53 #[.val (.int p1), .val (.int p2), .val (.int (5 : Int32)), .val (.ref (A 5)), .val (.int (p2.toInt16.toInt32)), .val (.int (2 : Int32)), .val (.int (0 : Int32))] [])) (fun t k => XS.icmpNo X47.here hx rfl (hb hby at_50) rfl (teq (by decide : (0 : Int32) = (0 : Int32))).2 k) ?_
      refine own_st (V := T47.setTop (mkF m 54 #[.val (.int p1), .val (.int p2), .val (.int (5 : Int32)), .val (.ref (A 5)), .val (.int (p2.toInt16.toInt32)), .val (.int (2 : Int32)), .val (.int (0 : Int32))] [(.int (1 : Int32))])) (fun t k => XS.iconst X47.here hx rfl (hb hby at_53) k) ?_
      refine own_st (V := T47.setTop (mkF m 58 #[.val (.int p1), .val (.int p2), .val (.int (5 : Int32)), .val (.ref (A 5)), .val (.int (p2.toInt16.toInt32)), .val (.int (2 : Int32)), .val (.int (0 : Int32))] [(.int (1 : Int32))])) (fun t k => XS.goto X47.here hx rfl (pc0 := 54) (pc' := 58) rfl (hb hby at_54) (by decide) (by decide) k) ?_
      exact own_ret X47 hx hlk Bd.returns (by decide +kernel) (Or.inl ⟨rfl, by simp, _, rfl⟩) (hb hby at_58) (by decide) (by decide) (by show own_Q0 Z p1 p2 A h0 n0 _ T47.heap _; rw [e47]; exact ⟨rfl, N47⟩)
    · refine own_st (V := T45.setTop (mkF m 35 #[.val (.int p1), .val (.int p2), .val (.int (5 : Int32)), .val (.ref (A 5)), .val (.int (p2.toInt16.toInt32)), .val (.int (2 : Int32)), .unset] [])) (fun t k => XS.icmpNo X45.here hx rfl (hb hby at_32) rfl (flt hc).2.2.1 k) ?_
      refine own_st (V := T45.setTop (mkF m 36 #[.val (.int p1), .val (.int p2), .val (.int (5 : Int32)), .val (.ref (A 5)), .val (.int (p2.toInt16.toInt32)), .val (.int (2 : Int32)), .unset] [(.int (1 : Int32))])) (fun t k => XS.iconst X45.here hx rfl (hb hby at_35) k) ?_
      refine own_st (V := T45.setTop (mkF m 40 #[.val (.int p1), .val (.int p2), .val (.int (5 : Int32)), .val (.ref (A 5)), .val (.int (p2.toInt16.toInt32)), .val (.int (2 : Int32)), .unset] [(.int (1 : Int32))])) (fun t k => XS.goto X45.here hx rfl (pc0 := 36) (pc' := 40) rfl (hb hby at_36) (by decide) (by decide) k) ?_
      refine own_st (V := T45.setTop (mkF m 42 #[.val (.int p1), .val (.int p2), .val (.int (5 : Int32)), .val (.ref (A 5)), .val (.int (p2.toInt16.toInt32)), .val (.int (2 : Int32)), .val (.int (1 : Int32))] [])) (fun t k => XS.istore X45.here hx rfl (hb hby at_40) rfl (l' := #[.val (.int p1), .val (.int p2), .val (.int (5 : Int32)), .val (.ref (A 5)), .val (.int (p2.toInt16.toInt32)), .val (.int (2 : Int32)), .val (.int (1 : Int32))]) rfl k) ?_
      refine own_st (V := T45.setTop (mkF m 43 #[.val (.int p1), .val (.int p2), .val (.int (5 : Int32)), .val (.ref (A 5)), .val (.int (p2.toInt16.toInt32)), .val (.int (2 : Int32)), .val (.int (1 : Int32))] [(.ref (A 5))])) (fun t k => XS.aloadN X45.here hx rfl (hb hby at_42) rfl rfl k) ?_
      refine own_st (V := T45.setTop (mkF m 45 #[.val (.int p1), .val (.int p2), .val (.int (5 : Int32)), .val (.ref (A 5)), .val (.int (p2.toInt16.toInt32)), .val (.int (2 : Int32)), .val (.int (1 : Int32))] [(.int (p2.toInt16.toInt32)), (.ref (A 5))])) (fun t k => XS.iload X45.here hx rfl (hb hby at_43) rfl k) ?_
      obtain ⟨cq48, kq48, q48a, q48b, q48c⟩ := isOf hZ e45 (own_E En 5 (i := 5) (n := "FIND_COORDINATOR") rfl)
      obtain ⟨_, _, ⟨T48, L48, k48, n48⟩, -, X48, ⟨Lc48, hQ48, l48, y48, z48⟩, st48⟩ := X45.virtualBack hx (y := (⟨"com/example/bhaga/bhaga/wire/Api", "serves", "(S)Z"⟩ : MethodName)) (z := (⟨"com/example/bhaga/bhaga/wire/Api", "serves", "(S)Z"⟩ : MethodName)) hown (mvT hZ (hw _ (List.mem_of_getElem? (i := 11) rfl))) (mvT hZ (hw _ (List.mem_of_getElem? (i := 12) rfl))) (notFace_of_selects (args := #[]) (mvT hZ (hw _ (List.mem_of_getElem? (i := 14) rfl)))) (mvT hZ (hw _ (List.mem_of_getElem? (i := 14) rfl))) (mvT hZ (hw _ (List.mem_of_getElem? (i := 13) rfl))) (by decide) (backOf (W := 0) (own_mc l Z a0 hw [] (A 5) (p2.toInt16.toInt32) (2 : Int32) h0 n0 Z0 (own_F0 En 5 (i := 5) (n := "FIND_COORDINATOR") rfl) (own_F1 En 5 (i := 5) (n := "FIND_COORDINATOR") rfl) ha hc) hZ (hw _ (List.mem_of_getElem? (i := 15) rfl)) (hw _ (List.mem_of_getElem? (i := 6) rfl)) (by decide) (by decide)) q48a q48c (g := (mkF m 45 #[.val (.int p1), .val (.int p2), .val (.int (5 : Int32)), .val (.ref (A 5)), .val (.int (p2.toInt16.toInt32)), .val (.int (2 : Int32)), .val (.int (1 : Int32))] [(.int (p2.toInt16.toInt32)), (.ref (A 5))])) rfl (by rw [hml]; rfl) (Steps.refl _) (argsL := [(.int (p2.toInt16.toInt32))]) (rest := []) (lenOf own_pd2 rfl) rfl (by show 2 * 0 + _ ≤ _; exact Nat.le_of_eq rfl) (hb hby at_45) (fun _ _ => ⟨rfl, e45, (by decide : 0 + 0 ≤ _), (by decide : 0 + 0 ≤ _)⟩)
      dsimp only [Pt.U, Pt.locs, Pt.cells, Pt.slots] at X48 l48 y48 z48 st48 hQ48
      subst l48 y48 z48
      obtain ⟨rfl, N48q, e48⟩ := hQ48
      have N48 := Fr.app N45 N48q
      refine own_st (V := T48.setTop (mkF m 48 #[.val (.int p1), .val (.int p2), .val (.int (5 : Int32)), .val (.ref (A 5)), .val (.int (p2.toInt16.toInt32)), .val (.int (2 : Int32)), .val (.int (1 : Int32))] [(.int (1 : Int32))])) (fun t k => st48.trans k) ?_
      refine own_st (V := T48.setTop (mkF m 50 #[.val (.int p1), .val (.int p2), .val (.int (5 : Int32)), .val (.ref (A 5)), .val (.int (p2.toInt16.toInt32)), .val (.int (2 : Int32)), .val (.int (1 : Int32))] [(.int (1 : Int32)), (.int (1 : Int32))])) (fun t k => XS.iload X48.here hx rfl (hb hby at_48) rfl k) ?_
      refine own_st (V := T48.setTop (mkF m 53 #[.val (.int p1), .val (.int p2), .val (.int (5 : Int32)), .val (.ref (A 5)), .val (.int (p2.toInt16.toInt32)), .val (.int (2 : Int32)), .val (.int (1 : Int32))] [])) (fun t k => XS.icmpNo X48.here hx rfl (hb hby at_50) rfl (teq (by decide : (1 : Int32) = (1 : Int32))).2 k) ?_
      refine own_st (V := T48.setTop (mkF m 54 #[.val (.int p1), .val (.int p2), .val (.int (5 : Int32)), .val (.ref (A 5)), .val (.int (p2.toInt16.toInt32)), .val (.int (2 : Int32)), .val (.int (1 : Int32))] [(.int (1 : Int32))])) (fun t k => XS.iconst X48.here hx rfl (hb hby at_53) k) ?_
      refine own_st (V := T48.setTop (mkF m 58 #[.val (.int p1), .val (.int p2), .val (.int (5 : Int32)), .val (.ref (A 5)), .val (.int (p2.toInt16.toInt32)), .val (.int (2 : Int32)), .val (.int (1 : Int32))] [(.int (1 : Int32))])) (fun t k => XS.goto X48.here hx rfl (pc0 := 54) (pc' := 58) rfl (hb hby at_54) (by decide) (by decide) k) ?_
      exact own_ret X48 hx hlk Bd.returns (by decide +kernel) (Or.inl ⟨rfl, by simp, _, rfl⟩) (hb hby at_58) (by decide) (by decide) (by show own_Q0 Z p1 p2 A h0 n0 _ T48.heap _; rw [e48]; exact ⟨rfl, N48⟩)
set_option maxRecDepth 65536 in
set_option maxHeartbeats 40000000 in
theorem own_law6 (l : Launch) (Z : State) (a0 : Array Value) (hw : ∀ d ∈ tables_1, d.before a0 Z = true) (ws : List Jvm.Cond) (p1 : Int32) (p2 : Int32) (A : Nat → Addr) (h0 : Heap) (n0 : Nat) (Z0 : n0 ≤ h0.size) (En : own_En Z h0 A) (hk : ((p1 &&& (2147483647 : Int32)) % (13 : Int32)) = (6 : Int32)) :
    MetFree l x (head1 (Jvm.Cond.code x code maxLocals ret :: ws) room_1) (fun a U => a = #[(.int p1), (.int p2)] ∧ Z.Warmed39 U.vm ∧ U.heap = h0) (fun _ _ _ _ _ => True) (fun _ U o U' => ∃ v L, o = .returned v ∧ own_Q0 Z p1 p2 A h0 n0 v U'.heap L ∧ FrameEnd U o U' L room_1.cells room_1.slots) := by
  refine MetFree.of_bodySF (plainFor_of_name own_pn_com_example_bhaga_bhaga_wire_ApiServesPinLaw) hisR ?_
  intro p e s m args below meth c s₁ Bd hml0 hP hK
  obtain ⟨rfl, hZ, hh⟩ := hP
  have hx := Bd.exec
  have hby := Bd.bytes
  have hml : c.maxLocals = 7 := hml0
  have hown : s.vm.findClass "com/example/bhaga/bhaga/wire/ApiServesPinLaw" = some m.cls := findClass_of_methodNamed Bd.named
  have hnm := (name_of_methodNamed Bd.named Bd.method).1
  have hlk : meth.locks = false := BodyLoose.notSynchronized Bd
  have X0 : Stand p l e room_1 s m #[(.int p1), (.int p2)] below meth c s₁ [] 0 0 := Stand.of_body Bd
  have e0 : s₁.heap = h0 := by rw [← hh, Bd.state]; rfl
  have N0 := Fr.nil n0
  show own_Go p e below #[(.int p1), (.int p2)] s (fun _ U o U' => ∃ v L, o = .returned v ∧ own_Q0 Z p1 p2 A h0 n0 v U'.heap L ∧ FrameEnd U o U' L room_1.cells room_1.slots) (s₁.setTop (entryFrame m #[(.int p1), (.int p2)] maxLocals))
  refine own_st (V := s₁.setTop (mkF m 0 #[.val (.int p1), .val (.int p2), .unset, .unset, .unset, .unset, .unset] [])) (fun t k => castTop (by first | (simp [entryFrame, mkF, argsToLocals, Value.category, maxLocals]; done) | rfl) k) ?_
  refine own_st (V := s₁.setTop (mkF m 1 #[.val (.int p1), .val (.int p2), .unset, .unset, .unset, .unset, .unset] [(.int p1)])) (fun t k => XS.iloadN X0.here hx rfl (hb hby at_0) rfl k) ?_
  refine own_st (V := s₁.setTop (mkF m 3 #[.val (.int p1), .val (.int p2), .unset, .unset, .unset, .unset, .unset] [(.int (2147483647 : Int32)), (.int p1)])) (fun t k => X0.ldcInt hx hown (mvT hZ (hw _ (List.mem_of_getElem? (i := 0) rfl))) (g := (mkF m 1 #[.val (.int p1), .val (.int p2), .unset, .unset, .unset, .unset, .unset] [(.int p1)])) rfl (hb hby at_1) t k) ?_
  refine own_st (V := s₁.setTop (mkF m 4 #[.val (.int p1), .val (.int p2), .unset, .unset, .unset, .unset, .unset] [(.int (p1 &&& (2147483647 : Int32)))])) (fun t k => XS.iand X0.here hx rfl (hb hby at_3) rfl k) ?_
  refine own_st (V := s₁.setTop (mkF m 6 #[.val (.int p1), .val (.int p2), .unset, .unset, .unset, .unset, .unset] [(.int (13 : Int32)), (.int (p1 &&& (2147483647 : Int32)))])) (fun t k => XS.bipush X0.here hx rfl (hb hby at_4) k) ?_
  refine own_st (V := s₁.setTop (mkF m 7 #[.val (.int p1), .val (.int p2), .unset, .unset, .unset, .unset, .unset] [(.int ((p1 &&& (2147483647 : Int32)) % (13 : Int32)))])) (fun t k => Jvm.RoadKit.iremM X0 hx rfl (hb hby at_6) rfl (by decide) k) ?_
  rw [hk]
  refine own_st (V := s₁.setTop (mkF m 8 #[.val (.int p1), .val (.int p2), .val (.int (6 : Int32)), .unset, .unset, .unset, .unset] [])) (fun t k => XS.istoreN X0.here hx rfl (hb hby at_7) rfl (l' := #[.val (.int p1), .val (.int p2), .val (.int (6 : Int32)), .unset, .unset, .unset, .unset]) rfl k) ?_
  refine own_st (V := s₁.setTop (mkF m 9 #[.val (.int p1), .val (.int p2), .val (.int (6 : Int32)), .unset, .unset, .unset, .unset] [(.int (6 : Int32))])) (fun t k => XS.iloadN X0.here hx rfl (hb hby at_8) rfl k) ?_
  obtain ⟨_, _, ⟨T49, L49, k49, n49⟩, -, X49, ⟨Lc49, hQ49, l49, y49, z49⟩, st49⟩ := Jvm.LawKit.callS X0 hx (y := (⟨"com/example/bhaga/bhaga/wire/ApiServesPinLaw", "pick", "(I)Lcom/example/bhaga/bhaga/wire/Api;"⟩ : MethodName)) hown (mvT hZ (hw _ (List.mem_of_getElem? (i := 1) rfl))) (mvT hZ (hw _ (List.mem_of_getElem? (i := 2) rfl))) (mvT hZ (hw _ (List.mem_of_getElem? (i := 3) rfl))) (mvT hZ (hw _ (List.mem_of_getElem? (i := 4) rfl))) (by decide) (backOf (W := 0) (own_pick6 l Z a0 hw [] A h0 n0 Z0 En ) hZ (hw _ (List.mem_of_getElem? (i := 4) rfl)) (hw _ (List.mem_of_getElem? (i := 3) rfl)) (by decide) (by decide)) (g := (mkF m 9 #[.val (.int p1), .val (.int p2), .val (.int (6 : Int32)), .unset, .unset, .unset, .unset] [(.int (6 : Int32))])) rfl (by rw [hml]; rfl) (argsL := [(.int (6 : Int32))]) (rest := []) (lenOf own_pd0 rfl) rfl (by show 2 * 0 + _ ≤ _; exact Nat.le_of_eq rfl) (hb hby at_9) (fun _ _ => ⟨rfl, e0, (by decide : 0 + 0 ≤ _), (by decide : 0 + 0 ≤ _)⟩)
  dsimp only [Pt.U, Pt.locs, Pt.cells, Pt.slots] at X49 l49 y49 z49 st49 hQ49
  subst l49 y49 z49
  obtain ⟨rfl, N49q, e49⟩ := hQ49
  have N49 := Fr.app N0 N49q
  refine own_st (V := T49.setTop (mkF m 12 #[.val (.int p1), .val (.int p2), .val (.int (6 : Int32)), .unset, .unset, .unset, .unset] [(.ref (A 6))])) (fun t k => st49 _ k) ?_
  refine own_st (V := T49.setTop (mkF m 13 #[.val (.int p1), .val (.int p2), .val (.int (6 : Int32)), .val (.ref (A 6)), .unset, .unset, .unset] [])) (fun t k => XS.astoreN X49.here hx rfl (hb hby at_12) rfl rfl (l' := #[.val (.int p1), .val (.int p2), .val (.int (6 : Int32)), .val (.ref (A 6)), .unset, .unset, .unset]) rfl k) ?_
  refine own_st (V := T49.setTop (mkF m 14 #[.val (.int p1), .val (.int p2), .val (.int (6 : Int32)), .val (.ref (A 6)), .unset, .unset, .unset] [(.int p2)])) (fun t k => XS.iloadN X49.here hx rfl (hb hby at_13) rfl k) ?_
  refine own_st (V := T49.setTop (mkF m 15 #[.val (.int p1), .val (.int p2), .val (.int (6 : Int32)), .val (.ref (A 6)), .unset, .unset, .unset] [(.int (p2.toInt16.toInt32))])) (fun t k => XS.i2s X49.here hx rfl (hb hby at_14) rfl k) ?_
  refine own_st (V := T49.setTop (mkF m 17 #[.val (.int p1), .val (.int p2), .val (.int (6 : Int32)), .val (.ref (A 6)), .val (.int (p2.toInt16.toInt32)), .unset, .unset] [])) (fun t k => XS.istore X49.here hx rfl (hb hby at_15) rfl (l' := #[.val (.int p1), .val (.int p2), .val (.int (6 : Int32)), .val (.ref (A 6)), .val (.int (p2.toInt16.toInt32)), .unset, .unset]) rfl k) ?_
  refine own_st (V := T49.setTop (mkF m 18 #[.val (.int p1), .val (.int p2), .val (.int (6 : Int32)), .val (.ref (A 6)), .val (.int (p2.toInt16.toInt32)), .unset, .unset] [(.int (6 : Int32))])) (fun t k => XS.iloadN X49.here hx rfl (hb hby at_17) rfl k) ?_
  obtain ⟨_, _, ⟨T50, L50, k50, n50⟩, -, X50, ⟨Lc50, hQ50, l50, y50, z50⟩, st50⟩ := Jvm.LawKit.callS X49 hx (y := (⟨"com/example/bhaga/bhaga/wire/ApiServesPinLaw", "expectedMax", "(I)I"⟩ : MethodName)) hown (mvT hZ (hw _ (List.mem_of_getElem? (i := 8) rfl))) (mvT hZ (hw _ (List.mem_of_getElem? (i := 9) rfl))) (mvT hZ (hw _ (List.mem_of_getElem? (i := 3) rfl))) (mvT hZ (hw _ (List.mem_of_getElem? (i := 10) rfl))) (by decide) (backOf (W := 0) (own_em6 l Z a0 hw [] h0 n0 Z0 ) hZ (hw _ (List.mem_of_getElem? (i := 10) rfl)) (hw _ (List.mem_of_getElem? (i := 3) rfl)) (by decide) (by decide)) (g := (mkF m 18 #[.val (.int p1), .val (.int p2), .val (.int (6 : Int32)), .val (.ref (A 6)), .val (.int (p2.toInt16.toInt32)), .unset, .unset] [(.int (6 : Int32))])) rfl (by rw [hml]; rfl) (argsL := [(.int (6 : Int32))]) (rest := []) (lenOf own_pd1 rfl) rfl (by show 2 * 0 + _ ≤ _; exact Nat.le_of_eq rfl) (hb hby at_18) (fun _ _ => ⟨rfl, e49, (by decide : 0 + 0 ≤ _), (by decide : 0 + 0 ≤ _)⟩)
  dsimp only [Pt.U, Pt.locs, Pt.cells, Pt.slots] at X50 l50 y50 z50 st50 hQ50
  subst l50 y50 z50
  obtain ⟨rfl, N50q, e50⟩ := hQ50
  have N50 := Fr.app N49 N50q
  refine own_st (V := T50.setTop (mkF m 21 #[.val (.int p1), .val (.int p2), .val (.int (6 : Int32)), .val (.ref (A 6)), .val (.int (p2.toInt16.toInt32)), .unset, .unset] [(.int (3 : Int32))])) (fun t k => st50 _ k) ?_
  refine own_st (V := T50.setTop (mkF m 23 #[.val (.int p1), .val (.int p2), .val (.int (6 : Int32)), .val (.ref (A 6)), .val (.int (p2.toInt16.toInt32)), .val (.int (3 : Int32)), .unset] [])) (fun t k => XS.istore X50.here hx rfl (hb hby at_21) rfl (l' := #[.val (.int p1), .val (.int p2), .val (.int (6 : Int32)), .val (.ref (A 6)), .val (.int (p2.toInt16.toInt32)), .val (.int (3 : Int32)), .unset]) rfl k) ?_
  refine own_st (V := T50.setTop (mkF m 25 #[.val (.int p1), .val (.int p2), .val (.int (6 : Int32)), .val (.ref (A 6)), .val (.int (p2.toInt16.toInt32)), .val (.int (3 : Int32)), .unset] [(.int (p2.toInt16.toInt32))])) (fun t k => XS.iload X50.here hx rfl (hb hby at_23) rfl k) ?_
  by_cases ha : (p2.toInt16.toInt32) < (0 : Int32)
  · refine own_st (V := T50.setTop (mkF m 39 #[.val (.int p1), .val (.int p2), .val (.int (6 : Int32)), .val (.ref (A 6)), .val (.int (p2.toInt16.toInt32)), .val (.int (3 : Int32)), .unset] [])) (fun t k => XS.ifYes X50.here hx rfl (pc0 := 25) (pc' := 39) rfl (hb hby at_25) rfl ((if0 _ _).trans (tlt ha).1) (by decide) (by decide) k) ?_
    refine own_st (V := T50.setTop (mkF m 40 #[.val (.int p1), .val (.int p2), .val (.int (6 : Int32)), .val (.ref (A 6)), .val (.int (p2.toInt16.toInt32)), .val (.int (3 : Int32)), .unset] [(.int (0 : Int32))])) (fun t k => XS.iconst X50.here hx rfl (hb hby at_39) k) ?_
    refine own_st (V := T50.setTop (mkF m 42 #[.val (.int p1), .val (.int p2), .val (.int (6 : Int32)), .val (.ref (A 6)), .val (.int (p2.toInt16.toInt32)), .val (.int (3 : Int32)), .val (.int (0 : Int32))] [])) (fun t k => XS.istore X50.here hx rfl (hb hby at_40) rfl (l' := #[.val (.int p1), .val (.int p2), .val (.int (6 : Int32)), .val (.ref (A 6)), .val (.int (p2.toInt16.toInt32)), .val (.int (3 : Int32)), .val (.int (0 : Int32))]) rfl k) ?_
    refine own_st (V := T50.setTop (mkF m 43 #[.val (.int p1), .val (.int p2), .val (.int (6 : Int32)), .val (.ref (A 6)), .val (.int (p2.toInt16.toInt32)), .val (.int (3 : Int32)), .val (.int (0 : Int32))] [(.ref (A 6))])) (fun t k => XS.aloadN X50.here hx rfl (hb hby at_42) rfl rfl k) ?_
    refine own_st (V := T50.setTop (mkF m 45 #[.val (.int p1), .val (.int p2), .val (.int (6 : Int32)), .val (.ref (A 6)), .val (.int (p2.toInt16.toInt32)), .val (.int (3 : Int32)), .val (.int (0 : Int32))] [(.int (p2.toInt16.toInt32)), (.ref (A 6))])) (fun t k => XS.iload X50.here hx rfl (hb hby at_43) rfl k) ?_
    obtain ⟨cq51, kq51, q51a, q51b, q51c⟩ := isOf hZ e50 (own_E En 6 (i := 6) (n := "JOIN_GROUP") rfl)
    obtain ⟨_, _, ⟨T51, L51, k51, n51⟩, -, X51, ⟨Lc51, hQ51, l51, y51, z51⟩, st51⟩ := X50.virtualBack hx (y := (⟨"com/example/bhaga/bhaga/wire/Api", "serves", "(S)Z"⟩ : MethodName)) (z := (⟨"com/example/bhaga/bhaga/wire/Api", "serves", "(S)Z"⟩ : MethodName)) hown (mvT hZ (hw _ (List.mem_of_getElem? (i := 11) rfl))) (mvT hZ (hw _ (List.mem_of_getElem? (i := 12) rfl))) (notFace_of_selects (args := #[]) (mvT hZ (hw _ (List.mem_of_getElem? (i := 14) rfl)))) (mvT hZ (hw _ (List.mem_of_getElem? (i := 14) rfl))) (mvT hZ (hw _ (List.mem_of_getElem? (i := 13) rfl))) (by decide) (backOf (W := 0) (own_ma l Z a0 hw [] (A 6) (p2.toInt16.toInt32) (3 : Int32) h0 n0 Z0 (own_F0 En 6 (i := 6) (n := "JOIN_GROUP") rfl) (own_F1 En 6 (i := 6) (n := "JOIN_GROUP") rfl) ha) hZ (hw _ (List.mem_of_getElem? (i := 15) rfl)) (hw _ (List.mem_of_getElem? (i := 6) rfl)) (by decide) (by decide)) q51a q51c (g := (mkF m 45 #[.val (.int p1), .val (.int p2), .val (.int (6 : Int32)), .val (.ref (A 6)), .val (.int (p2.toInt16.toInt32)), .val (.int (3 : Int32)), .val (.int (0 : Int32))] [(.int (p2.toInt16.toInt32)), (.ref (A 6))])) rfl (by rw [hml]; rfl) (Steps.refl _) (argsL := [(.int (p2.toInt16.toInt32))]) (rest := []) (lenOf own_pd2 rfl) rfl (by show 2 * 0 + _ ≤ _; exact Nat.le_of_eq rfl) (hb hby at_45) (fun _ _ => ⟨rfl, e50, (by decide : 0 + 0 ≤ _), (by decide : 0 + 0 ≤ _)⟩)
    dsimp only [Pt.U, Pt.locs, Pt.cells, Pt.slots] at X51 l51 y51 z51 st51 hQ51
    subst l51 y51 z51
    obtain ⟨rfl, N51q, e51⟩ := hQ51
    have N51 := Fr.app N50 N51q
    refine own_st (V := T51.setTop (mkF m 48 #[.val (.int p1), .val (.int p2), .val (.int (6 : Int32)), .val (.ref (A 6)), .val (.int (p2.toInt16.toInt32)), .val (.int (3 : Int32)), .val (.int (0 : Int32))] [(.int (0 : Int32))])) (fun t k => st51.trans k) ?_
    refine own_st (V := T51.setTop (mkF m 50 #[.val (.int p1), .val (.int p2), .val (.int (6 : Int32)), .val (.ref (A 6)), .val (.int (p2.toInt16.toInt32)), .val (.int (3 : Int32)), .val (.int (0 : Int32))] [(.int (0 : Int32)), (.int (0 : Int32))])) (fun t k => XS.iload X51.here hx rfl (hb hby at_48) rfl k) ?_
    refine own_st (V := T51.setTop (mkF m 53 #[.val (.int p1), .val (.int p2), .val (.int (6 : Int32)), .val (.ref (A 6)), .val (.int (p2.toInt16.toInt32)), .val (.int (3 : Int32)), .val (.int (0 : Int32))] [])) (fun t k => XS.icmpNo X51.here hx rfl (hb hby at_50) rfl (teq (by decide : (0 : Int32) = (0 : Int32))).2 k) ?_
    refine own_st (V := T51.setTop (mkF m 54 #[.val (.int p1), .val (.int p2), .val (.int (6 : Int32)), .val (.ref (A 6)), .val (.int (p2.toInt16.toInt32)), .val (.int (3 : Int32)), .val (.int (0 : Int32))] [(.int (1 : Int32))])) (fun t k => XS.iconst X51.here hx rfl (hb hby at_53) k) ?_
    refine own_st (V := T51.setTop (mkF m 58 #[.val (.int p1), .val (.int p2), .val (.int (6 : Int32)), .val (.ref (A 6)), .val (.int (p2.toInt16.toInt32)), .val (.int (3 : Int32)), .val (.int (0 : Int32))] [(.int (1 : Int32))])) (fun t k => XS.goto X51.here hx rfl (pc0 := 54) (pc' := 58) rfl (hb hby at_54) (by decide) (by decide) k) ?_
    exact own_ret X51 hx hlk Bd.returns (by decide +kernel) (Or.inl ⟨rfl, by simp, _, rfl⟩) (hb hby at_58) (by decide) (by decide) (by show own_Q0 Z p1 p2 A h0 n0 _ T51.heap _; rw [e51]; exact ⟨rfl, N51⟩)
  · refine own_st (V := T50.setTop (mkF m 28 #[.val (.int p1), .val (.int p2), .val (.int (6 : Int32)), .val (.ref (A 6)), .val (.int (p2.toInt16.toInt32)), .val (.int (3 : Int32)), .unset] [])) (fun t k => XS.ifNo X50.here hx rfl (hb hby at_25) rfl ((if0 _ _).trans (flt ha).1) k) ?_
    refine own_st (V := T50.setTop (mkF m 30 #[.val (.int p1), .val (.int p2), .val (.int (6 : Int32)), .val (.ref (A 6)), .val (.int (p2.toInt16.toInt32)), .val (.int (3 : Int32)), .unset] [(.int (p2.toInt16.toInt32))])) (fun t k => XS.iload X50.here hx rfl (hb hby at_28) rfl k) ?_
    refine own_st (V := T50.setTop (mkF m 32 #[.val (.int p1), .val (.int p2), .val (.int (6 : Int32)), .val (.ref (A 6)), .val (.int (p2.toInt16.toInt32)), .val (.int (3 : Int32)), .unset] [(.int (3 : Int32)), (.int (p2.toInt16.toInt32))])) (fun t k => XS.iload X50.here hx rfl (hb hby at_30) rfl k) ?_
    by_cases hc : (3 : Int32) < (p2.toInt16.toInt32)
    · refine own_st (V := T50.setTop (mkF m 39 #[.val (.int p1), .val (.int p2), .val (.int (6 : Int32)), .val (.ref (A 6)), .val (.int (p2.toInt16.toInt32)), .val (.int (3 : Int32)), .unset] [])) (fun t k => XS.icmpYes X50.here hx rfl (pc0 := 32) (pc' := 39) rfl (hb hby at_32) rfl (tlt hc).2.2.1 (by decide) (by decide) k) ?_
      refine own_st (V := T50.setTop (mkF m 40 #[.val (.int p1), .val (.int p2), .val (.int (6 : Int32)), .val (.ref (A 6)), .val (.int (p2.toInt16.toInt32)), .val (.int (3 : Int32)), .unset] [(.int (0 : Int32))])) (fun t k => XS.iconst X50.here hx rfl (hb hby at_39) k) ?_
      refine own_st (V := T50.setTop (mkF m 42 #[.val (.int p1), .val (.int p2), .val (.int (6 : Int32)), .val (.ref (A 6)), .val (.int (p2.toInt16.toInt32)), .val (.int (3 : Int32)), .val (.int (0 : Int32))] [])) (fun t k => XS.istore X50.here hx rfl (hb hby at_40) rfl (l' := #[.val (.int p1), .val (.int p2), .val (.int (6 : Int32)), .val (.ref (A 6)), .val (.int (p2.toInt16.toInt32)), .val (.int (3 : Int32)), .val (.int (0 : Int32))]) rfl k) ?_
      refine own_st (V := T50.setTop (mkF m 43 #[.val (.int p1), .val (.int p2), .val (.int (6 : Int32)), .val (.ref (A 6)), .val (.int (p2.toInt16.toInt32)), .val (.int (3 : Int32)), .val (.int (0 : Int32))] [(.ref (A 6))])) (fun t k => XS.aloadN X50.here hx rfl (hb hby at_42) rfl rfl k) ?_
      refine own_st (V := T50.setTop (mkF m 45 #[.val (.int p1), .val (.int p2), .val (.int (6 : Int32)), .val (.ref (A 6)), .val (.int (p2.toInt16.toInt32)), .val (.int (3 : Int32)), .val (.int (0 : Int32))] [(.int (p2.toInt16.toInt32)), (.ref (A 6))])) (fun t k => XS.iload X50.here hx rfl (hb hby at_43) rfl k) ?_
      obtain ⟨cq52, kq52, q52a, q52b, q52c⟩ := isOf hZ e50 (own_E En 6 (i := 6) (n := "JOIN_GROUP") rfl)
      obtain ⟨_, _, ⟨T52, L52, k52, n52⟩, -, X52, ⟨Lc52, hQ52, l52, y52, z52⟩, st52⟩ := X50.virtualBack hx (y := (⟨"com/example/bhaga/bhaga/wire/Api", "serves", "(S)Z"⟩ : MethodName)) (z := (⟨"com/example/bhaga/bhaga/wire/Api", "serves", "(S)Z"⟩ : MethodName)) hown (mvT hZ (hw _ (List.mem_of_getElem? (i := 11) rfl))) (mvT hZ (hw _ (List.mem_of_getElem? (i := 12) rfl))) (notFace_of_selects (args := #[]) (mvT hZ (hw _ (List.mem_of_getElem? (i := 14) rfl)))) (mvT hZ (hw _ (List.mem_of_getElem? (i := 14) rfl))) (mvT hZ (hw _ (List.mem_of_getElem? (i := 13) rfl))) (by decide) (backOf (W := 0) (own_mb l Z a0 hw [] (A 6) (p2.toInt16.toInt32) (3 : Int32) h0 n0 Z0 (own_F0 En 6 (i := 6) (n := "JOIN_GROUP") rfl) (own_F1 En 6 (i := 6) (n := "JOIN_GROUP") rfl) ha hc) hZ (hw _ (List.mem_of_getElem? (i := 15) rfl)) (hw _ (List.mem_of_getElem? (i := 6) rfl)) (by decide) (by decide)) q52a q52c (g := (mkF m 45 #[.val (.int p1), .val (.int p2), .val (.int (6 : Int32)), .val (.ref (A 6)), .val (.int (p2.toInt16.toInt32)), .val (.int (3 : Int32)), .val (.int (0 : Int32))] [(.int (p2.toInt16.toInt32)), (.ref (A 6))])) rfl (by rw [hml]; rfl) (Steps.refl _) (argsL := [(.int (p2.toInt16.toInt32))]) (rest := []) (lenOf own_pd2 rfl) rfl (by show 2 * 0 + _ ≤ _; exact Nat.le_of_eq rfl) (hb hby at_45) (fun _ _ => ⟨rfl, e50, (by decide : 0 + 0 ≤ _), (by decide : 0 + 0 ≤ _)⟩)
      dsimp only [Pt.U, Pt.locs, Pt.cells, Pt.slots] at X52 l52 y52 z52 st52 hQ52
      subst l52 y52 z52
      obtain ⟨rfl, N52q, e52⟩ := hQ52
      have N52 := Fr.app N50 N52q
      refine own_st (V := T52.setTop (mkF m 48 #[.val (.int p1), .val (.int p2), .val (.int (6 : Int32)), .val (.ref (A 6)), .val (.int (p2.toInt16.toInt32)), .val (.int (3 : Int32)), .val (.int (0 : Int32))] [(.int (0 : Int32))])) (fun t k => st52.trans k) ?_
      refine own_st (V := T52.setTop (mkF m 50 #[.val (.int p1), .val (.int p2), .val (.int (6 : Int32)), .val (.ref (A 6)), .val (.int (p2.toInt16.toInt32)), .val (.int (3 : Int32)), .val (.int (0 : Int32))] [(.int (0 : Int32)), (.int (0 : Int32))])) (fun t k => XS.iload X52.here hx rfl (hb hby at_48) rfl k) ?_
      refine own_st (V := T52.setTop (mkF m 53 #[.val (.int p1), .val (.int p2), .val (.int (6 : Int32)), .val (.ref (A 6)), .val (.int (p2.toInt16.toInt32)), .val (.int (3 : Int32)), .val (.int (0 : Int32))] [])) (fun t k => XS.icmpNo X52.here hx rfl (hb hby at_50) rfl (teq (by decide : (0 : Int32) = (0 : Int32))).2 k) ?_
      refine own_st (V := T52.setTop (mkF m 54 #[.val (.int p1), .val (.int p2), .val (.int (6 : Int32)), .val (.ref (A 6)), .val (.int (p2.toInt16.toInt32)), .val (.int (3 : Int32)), .val (.int (0 : Int32))] [(.int (1 : Int32))])) (fun t k => XS.iconst X52.here hx rfl (hb hby at_53) k) ?_
      refine own_st (V := T52.setTop (mkF m 58 #[.val (.int p1), .val (.int p2), .val (.int (6 : Int32)), .val (.ref (A 6)), .val (.int (p2.toInt16.toInt32)), .val (.int (3 : Int32)), .val (.int (0 : Int32))] [(.int (1 : Int32))])) (fun t k => XS.goto X52.here hx rfl (pc0 := 54) (pc' := 58) rfl (hb hby at_54) (by decide) (by decide) k) ?_
      exact own_ret X52 hx hlk Bd.returns (by decide +kernel) (Or.inl ⟨rfl, by simp, _, rfl⟩) (hb hby at_58) (by decide) (by decide) (by show own_Q0 Z p1 p2 A h0 n0 _ T52.heap _; rw [e52]; exact ⟨rfl, N52⟩)
    · refine own_st (V := T50.setTop (mkF m 35 #[.val (.int p1), .val (.int p2), .val (.int (6 : Int32)), .val (.ref (A 6)), .val (.int (p2.toInt16.toInt32)), .val (.int (3 : Int32)), .unset] [])) (fun t k => XS.icmpNo X50.here hx rfl (hb hby at_32) rfl (flt hc).2.2.1 k) ?_
      refine own_st (V := T50.setTop (mkF m 36 #[.val (.int p1), .val (.int p2), .val (.int (6 : Int32)), .val (.ref (A 6)), .val (.int (p2.toInt16.toInt32)), .val (.int (3 : Int32)), .unset] [(.int (1 : Int32))])) (fun t k => XS.iconst X50.here hx rfl (hb hby at_35) k) ?_
      refine own_st (V := T50.setTop (mkF m 40 #[.val (.int p1), .val (.int p2), .val (.int (6 : Int32)), .val (.ref (A 6)), .val (.int (p2.toInt16.toInt32)), .val (.int (3 : Int32)), .unset] [(.int (1 : Int32))])) (fun t k => XS.goto X50.here hx rfl (pc0 := 36) (pc' := 40) rfl (hb hby at_36) (by decide) (by decide) k) ?_
      refine own_st (V := T50.setTop (mkF m 42 #[.val (.int p1), .val (.int p2), .val (.int (6 : Int32)), .val (.ref (A 6)), .val (.int (p2.toInt16.toInt32)), .val (.int (3 : Int32)), .val (.int (1 : Int32))] [])) (fun t k => XS.istore X50.here hx rfl (hb hby at_40) rfl (l' := #[.val (.int p1), .val (.int p2), .val (.int (6 : Int32)), .val (.ref (A 6)), .val (.int (p2.toInt16.toInt32)), .val (.int (3 : Int32)), .val (.int (1 : Int32))]) rfl k) ?_
      refine own_st (V := T50.setTop (mkF m 43 #[.val (.int p1), .val (.int p2), .val (.int (6 : Int32)), .val (.ref (A 6)), .val (.int (p2.toInt16.toInt32)), .val (.int (3 : Int32)), .val (.int (1 : Int32))] [(.ref (A 6))])) (fun t k => XS.aloadN X50.here hx rfl (hb hby at_42) rfl rfl k) ?_
      refine own_st (V := T50.setTop (mkF m 45 #[.val (.int p1), .val (.int p2), .val (.int (6 : Int32)), .val (.ref (A 6)), .val (.int (p2.toInt16.toInt32)), .val (.int (3 : Int32)), .val (.int (1 : Int32))] [(.int (p2.toInt16.toInt32)), (.ref (A 6))])) (fun t k => XS.iload X50.here hx rfl (hb hby at_43) rfl k) ?_
      obtain ⟨cq53, kq53, q53a, q53b, q53c⟩ := isOf hZ e50 (own_E En 6 (i := 6) (n := "JOIN_GROUP") rfl)
      obtain ⟨_, _, ⟨T53, L53, k53, n53⟩, -, X53, ⟨Lc53, hQ53, l53, y53, z53⟩, st53⟩ := X50.virtualBack hx (y := (⟨"com/example/bhaga/bhaga/wire/Api", "serves", "(S)Z"⟩ : MethodName)) (z := (⟨"com/example/bhaga/bhaga/wire/Api", "serves", "(S)Z"⟩ : MethodName)) hown (mvT hZ (hw _ (List.mem_of_getElem? (i := 11) rfl))) (mvT hZ (hw _ (List.mem_of_getElem? (i := 12) rfl))) (notFace_of_selects (args := #[]) (mvT hZ (hw _ (List.mem_of_getElem? (i := 14) rfl)))) (mvT hZ (hw _ (List.mem_of_getElem? (i := 14) rfl))) (mvT hZ (hw _ (List.mem_of_getElem? (i := 13) rfl))) (by decide) (backOf (W := 0) (own_mc l Z a0 hw [] (A 6) (p2.toInt16.toInt32) (3 : Int32) h0 n0 Z0 (own_F0 En 6 (i := 6) (n := "JOIN_GROUP") rfl) (own_F1 En 6 (i := 6) (n := "JOIN_GROUP") rfl) ha hc) hZ (hw _ (List.mem_of_getElem? (i := 15) rfl)) (hw _ (List.mem_of_getElem? (i := 6) rfl)) (by decide) (by decide)) q53a q53c (g := (mkF m 45 #[.val (.int p1), .val (.int p2), .val (.int (6 : Int32)), .val (.ref (A 6)), .val (.int (p2.toInt16.toInt32)), .val (.int (3 : Int32)), .val (.int (1 : Int32))] [(.int (p2.toInt16.toInt32)), (.ref (A 6))])) rfl (by rw [hml]; rfl) (Steps.refl _) (argsL := [(.int (p2.toInt16.toInt32))]) (rest := []) (lenOf own_pd2 rfl) rfl (by show 2 * 0 + _ ≤ _; exact Nat.le_of_eq rfl) (hb hby at_45) (fun _ _ => ⟨rfl, e50, (by decide : 0 + 0 ≤ _), (by decide : 0 + 0 ≤ _)⟩)
      dsimp only [Pt.U, Pt.locs, Pt.cells, Pt.slots] at X53 l53 y53 z53 st53 hQ53
      subst l53 y53 z53
      obtain ⟨rfl, N53q, e53⟩ := hQ53
      have N53 := Fr.app N50 N53q
      refine own_st (V := T53.setTop (mkF m 48 #[.val (.int p1), .val (.int p2), .val (.int (6 : Int32)), .val (.ref (A 6)), .val (.int (p2.toInt16.toInt32)), .val (.int (3 : Int32)), .val (.int (1 : Int32))] [(.int (1 : Int32))])) (fun t k => st53.trans k) ?_
      refine own_st (V := T53.setTop (mkF m 50 #[.val (.int p1), .val (.int p2), .val (.int (6 : Int32)), .val (.ref (A 6)), .val (.int (p2.toInt16.toInt32)), .val (.int (3 : Int32)), .val (.int (1 : Int32))] [(.int (1 : Int32)), (.int (1 : Int32))])) (fun t k => XS.iload X53.here hx rfl (hb hby at_48) rfl k) ?_
      refine own_st (V := T53.setTop (mkF m 53 #[.val (.int p1), .val (.int p2), .val (.int (6 : Int32)), .val (.ref (A 6)), .val (.int (p2.toInt16.toInt32)), .val (.int (3 : Int32)), .val (.int (1 : Int32))] [])) (fun t k => XS.icmpNo X53.here hx rfl (hb hby at_50) rfl (teq (by decide : (1 : Int32) = (1 : Int32))).2 k) ?_
      refine own_st (V := T53.setTop (mkF m 54 #[.val (.int p1), .val (.int p2), .val (.int (6 : Int32)), .val (.ref (A 6)), .val (.int (p2.toInt16.toInt32)), .val (.int (3 : Int32)), .val (.int (1 : Int32))] [(.int (1 : Int32))])) (fun t k => XS.iconst X53.here hx rfl (hb hby at_53) k) ?_
      refine own_st (V := T53.setTop (mkF m 58 #[.val (.int p1), .val (.int p2), .val (.int (6 : Int32)), .val (.ref (A 6)), .val (.int (p2.toInt16.toInt32)), .val (.int (3 : Int32)), .val (.int (1 : Int32))] [(.int (1 : Int32))])) (fun t k => XS.goto X53.here hx rfl (pc0 := 54) (pc' := 58) rfl (hb hby at_54) (by decide) (by decide) k) ?_
      exact own_ret X53 hx hlk Bd.returns (by decide +kernel) (Or.inl ⟨rfl, by simp, _, rfl⟩) (hb hby at_58) (by decide) (by decide) (by show own_Q0 Z p1 p2 A h0 n0 _ T53.heap _; rw [e53]; exact ⟨rfl, N53⟩)
set_option maxRecDepth 65536 in
set_option maxHeartbeats 40000000 in
theorem own_law7 (l : Launch) (Z : State) (a0 : Array Value) (hw : ∀ d ∈ tables_1, d.before a0 Z = true) (ws : List Jvm.Cond) (p1 : Int32) (p2 : Int32) (A : Nat → Addr) (h0 : Heap) (n0 : Nat) (Z0 : n0 ≤ h0.size) (En : own_En Z h0 A) (hk : ((p1 &&& (2147483647 : Int32)) % (13 : Int32)) = (7 : Int32)) :
    MetFree l x (head1 (Jvm.Cond.code x code maxLocals ret :: ws) room_1) (fun a U => a = #[(.int p1), (.int p2)] ∧ Z.Warmed39 U.vm ∧ U.heap = h0) (fun _ _ _ _ _ => True) (fun _ U o U' => ∃ v L, o = .returned v ∧ own_Q0 Z p1 p2 A h0 n0 v U'.heap L ∧ FrameEnd U o U' L room_1.cells room_1.slots) := by
  refine MetFree.of_bodySF (plainFor_of_name own_pn_com_example_bhaga_bhaga_wire_ApiServesPinLaw) hisR ?_
  intro p e s m args below meth c s₁ Bd hml0 hP hK
  obtain ⟨rfl, hZ, hh⟩ := hP
  have hx := Bd.exec
  have hby := Bd.bytes
  have hml : c.maxLocals = 7 := hml0
  have hown : s.vm.findClass "com/example/bhaga/bhaga/wire/ApiServesPinLaw" = some m.cls := findClass_of_methodNamed Bd.named
  have hnm := (name_of_methodNamed Bd.named Bd.method).1
  have hlk : meth.locks = false := BodyLoose.notSynchronized Bd
  have X0 : Stand p l e room_1 s m #[(.int p1), (.int p2)] below meth c s₁ [] 0 0 := Stand.of_body Bd
  have e0 : s₁.heap = h0 := by rw [← hh, Bd.state]; rfl
  have N0 := Fr.nil n0
  show own_Go p e below #[(.int p1), (.int p2)] s (fun _ U o U' => ∃ v L, o = .returned v ∧ own_Q0 Z p1 p2 A h0 n0 v U'.heap L ∧ FrameEnd U o U' L room_1.cells room_1.slots) (s₁.setTop (entryFrame m #[(.int p1), (.int p2)] maxLocals))
  refine own_st (V := s₁.setTop (mkF m 0 #[.val (.int p1), .val (.int p2), .unset, .unset, .unset, .unset, .unset] [])) (fun t k => castTop (by first | (simp [entryFrame, mkF, argsToLocals, Value.category, maxLocals]; done) | rfl) k) ?_
  refine own_st (V := s₁.setTop (mkF m 1 #[.val (.int p1), .val (.int p2), .unset, .unset, .unset, .unset, .unset] [(.int p1)])) (fun t k => XS.iloadN X0.here hx rfl (hb hby at_0) rfl k) ?_
  refine own_st (V := s₁.setTop (mkF m 3 #[.val (.int p1), .val (.int p2), .unset, .unset, .unset, .unset, .unset] [(.int (2147483647 : Int32)), (.int p1)])) (fun t k => X0.ldcInt hx hown (mvT hZ (hw _ (List.mem_of_getElem? (i := 0) rfl))) (g := (mkF m 1 #[.val (.int p1), .val (.int p2), .unset, .unset, .unset, .unset, .unset] [(.int p1)])) rfl (hb hby at_1) t k) ?_
  refine own_st (V := s₁.setTop (mkF m 4 #[.val (.int p1), .val (.int p2), .unset, .unset, .unset, .unset, .unset] [(.int (p1 &&& (2147483647 : Int32)))])) (fun t k => XS.iand X0.here hx rfl (hb hby at_3) rfl k) ?_
  refine own_st (V := s₁.setTop (mkF m 6 #[.val (.int p1), .val (.int p2), .unset, .unset, .unset, .unset, .unset] [(.int (13 : Int32)), (.int (p1 &&& (2147483647 : Int32)))])) (fun t k => XS.bipush X0.here hx rfl (hb hby at_4) k) ?_
  refine own_st (V := s₁.setTop (mkF m 7 #[.val (.int p1), .val (.int p2), .unset, .unset, .unset, .unset, .unset] [(.int ((p1 &&& (2147483647 : Int32)) % (13 : Int32)))])) (fun t k => Jvm.RoadKit.iremM X0 hx rfl (hb hby at_6) rfl (by decide) k) ?_
  rw [hk]
  refine own_st (V := s₁.setTop (mkF m 8 #[.val (.int p1), .val (.int p2), .val (.int (7 : Int32)), .unset, .unset, .unset, .unset] [])) (fun t k => XS.istoreN X0.here hx rfl (hb hby at_7) rfl (l' := #[.val (.int p1), .val (.int p2), .val (.int (7 : Int32)), .unset, .unset, .unset, .unset]) rfl k) ?_
  refine own_st (V := s₁.setTop (mkF m 9 #[.val (.int p1), .val (.int p2), .val (.int (7 : Int32)), .unset, .unset, .unset, .unset] [(.int (7 : Int32))])) (fun t k => XS.iloadN X0.here hx rfl (hb hby at_8) rfl k) ?_
  obtain ⟨_, _, ⟨T54, L54, k54, n54⟩, -, X54, ⟨Lc54, hQ54, l54, y54, z54⟩, st54⟩ := Jvm.LawKit.callS X0 hx (y := (⟨"com/example/bhaga/bhaga/wire/ApiServesPinLaw", "pick", "(I)Lcom/example/bhaga/bhaga/wire/Api;"⟩ : MethodName)) hown (mvT hZ (hw _ (List.mem_of_getElem? (i := 1) rfl))) (mvT hZ (hw _ (List.mem_of_getElem? (i := 2) rfl))) (mvT hZ (hw _ (List.mem_of_getElem? (i := 3) rfl))) (mvT hZ (hw _ (List.mem_of_getElem? (i := 4) rfl))) (by decide) (backOf (W := 0) (own_pick7 l Z a0 hw [] A h0 n0 Z0 En ) hZ (hw _ (List.mem_of_getElem? (i := 4) rfl)) (hw _ (List.mem_of_getElem? (i := 3) rfl)) (by decide) (by decide)) (g := (mkF m 9 #[.val (.int p1), .val (.int p2), .val (.int (7 : Int32)), .unset, .unset, .unset, .unset] [(.int (7 : Int32))])) rfl (by rw [hml]; rfl) (argsL := [(.int (7 : Int32))]) (rest := []) (lenOf own_pd0 rfl) rfl (by show 2 * 0 + _ ≤ _; exact Nat.le_of_eq rfl) (hb hby at_9) (fun _ _ => ⟨rfl, e0, (by decide : 0 + 0 ≤ _), (by decide : 0 + 0 ≤ _)⟩)
  dsimp only [Pt.U, Pt.locs, Pt.cells, Pt.slots] at X54 l54 y54 z54 st54 hQ54
  subst l54 y54 z54
  obtain ⟨rfl, N54q, e54⟩ := hQ54
  have N54 := Fr.app N0 N54q
  refine own_st (V := T54.setTop (mkF m 12 #[.val (.int p1), .val (.int p2), .val (.int (7 : Int32)), .unset, .unset, .unset, .unset] [(.ref (A 7))])) (fun t k => st54 _ k) ?_
  refine own_st (V := T54.setTop (mkF m 13 #[.val (.int p1), .val (.int p2), .val (.int (7 : Int32)), .val (.ref (A 7)), .unset, .unset, .unset] [])) (fun t k => XS.astoreN X54.here hx rfl (hb hby at_12) rfl rfl (l' := #[.val (.int p1), .val (.int p2), .val (.int (7 : Int32)), .val (.ref (A 7)), .unset, .unset, .unset]) rfl k) ?_
  refine own_st (V := T54.setTop (mkF m 14 #[.val (.int p1), .val (.int p2), .val (.int (7 : Int32)), .val (.ref (A 7)), .unset, .unset, .unset] [(.int p2)])) (fun t k => XS.iloadN X54.here hx rfl (hb hby at_13) rfl k) ?_
  refine own_st (V := T54.setTop (mkF m 15 #[.val (.int p1), .val (.int p2), .val (.int (7 : Int32)), .val (.ref (A 7)), .unset, .unset, .unset] [(.int (p2.toInt16.toInt32))])) (fun t k => XS.i2s X54.here hx rfl (hb hby at_14) rfl k) ?_
  refine own_st (V := T54.setTop (mkF m 17 #[.val (.int p1), .val (.int p2), .val (.int (7 : Int32)), .val (.ref (A 7)), .val (.int (p2.toInt16.toInt32)), .unset, .unset] [])) (fun t k => XS.istore X54.here hx rfl (hb hby at_15) rfl (l' := #[.val (.int p1), .val (.int p2), .val (.int (7 : Int32)), .val (.ref (A 7)), .val (.int (p2.toInt16.toInt32)), .unset, .unset]) rfl k) ?_
  refine own_st (V := T54.setTop (mkF m 18 #[.val (.int p1), .val (.int p2), .val (.int (7 : Int32)), .val (.ref (A 7)), .val (.int (p2.toInt16.toInt32)), .unset, .unset] [(.int (7 : Int32))])) (fun t k => XS.iloadN X54.here hx rfl (hb hby at_17) rfl k) ?_
  obtain ⟨_, _, ⟨T55, L55, k55, n55⟩, -, X55, ⟨Lc55, hQ55, l55, y55, z55⟩, st55⟩ := Jvm.LawKit.callS X54 hx (y := (⟨"com/example/bhaga/bhaga/wire/ApiServesPinLaw", "expectedMax", "(I)I"⟩ : MethodName)) hown (mvT hZ (hw _ (List.mem_of_getElem? (i := 8) rfl))) (mvT hZ (hw _ (List.mem_of_getElem? (i := 9) rfl))) (mvT hZ (hw _ (List.mem_of_getElem? (i := 3) rfl))) (mvT hZ (hw _ (List.mem_of_getElem? (i := 10) rfl))) (by decide) (backOf (W := 0) (own_em7 l Z a0 hw [] h0 n0 Z0 ) hZ (hw _ (List.mem_of_getElem? (i := 10) rfl)) (hw _ (List.mem_of_getElem? (i := 3) rfl)) (by decide) (by decide)) (g := (mkF m 18 #[.val (.int p1), .val (.int p2), .val (.int (7 : Int32)), .val (.ref (A 7)), .val (.int (p2.toInt16.toInt32)), .unset, .unset] [(.int (7 : Int32))])) rfl (by rw [hml]; rfl) (argsL := [(.int (7 : Int32))]) (rest := []) (lenOf own_pd1 rfl) rfl (by show 2 * 0 + _ ≤ _; exact Nat.le_of_eq rfl) (hb hby at_18) (fun _ _ => ⟨rfl, e54, (by decide : 0 + 0 ≤ _), (by decide : 0 + 0 ≤ _)⟩)
  dsimp only [Pt.U, Pt.locs, Pt.cells, Pt.slots] at X55 l55 y55 z55 st55 hQ55
  subst l55 y55 z55
  obtain ⟨rfl, N55q, e55⟩ := hQ55
  have N55 := Fr.app N54 N55q
  refine own_st (V := T55.setTop (mkF m 21 #[.val (.int p1), .val (.int p2), .val (.int (7 : Int32)), .val (.ref (A 7)), .val (.int (p2.toInt16.toInt32)), .unset, .unset] [(.int (2 : Int32))])) (fun t k => st55 _ k) ?_
  refine own_st (V := T55.setTop (mkF m 23 #[.val (.int p1), .val (.int p2), .val (.int (7 : Int32)), .val (.ref (A 7)), .val (.int (p2.toInt16.toInt32)), .val (.int (2 : Int32)), .unset] [])) (fun t k => XS.istore X55.here hx rfl (hb hby at_21) rfl (l' := #[.val (.int p1), .val (.int p2), .val (.int (7 : Int32)), .val (.ref (A 7)), .val (.int (p2.toInt16.toInt32)), .val (.int (2 : Int32)), .unset]) rfl k) ?_
  refine own_st (V := T55.setTop (mkF m 25 #[.val (.int p1), .val (.int p2), .val (.int (7 : Int32)), .val (.ref (A 7)), .val (.int (p2.toInt16.toInt32)), .val (.int (2 : Int32)), .unset] [(.int (p2.toInt16.toInt32))])) (fun t k => XS.iload X55.here hx rfl (hb hby at_23) rfl k) ?_
  by_cases ha : (p2.toInt16.toInt32) < (0 : Int32)
  · refine own_st (V := T55.setTop (mkF m 39 #[.val (.int p1), .val (.int p2), .val (.int (7 : Int32)), .val (.ref (A 7)), .val (.int (p2.toInt16.toInt32)), .val (.int (2 : Int32)), .unset] [])) (fun t k => XS.ifYes X55.here hx rfl (pc0 := 25) (pc' := 39) rfl (hb hby at_25) rfl ((if0 _ _).trans (tlt ha).1) (by decide) (by decide) k) ?_
    refine own_st (V := T55.setTop (mkF m 40 #[.val (.int p1), .val (.int p2), .val (.int (7 : Int32)), .val (.ref (A 7)), .val (.int (p2.toInt16.toInt32)), .val (.int (2 : Int32)), .unset] [(.int (0 : Int32))])) (fun t k => XS.iconst X55.here hx rfl (hb hby at_39) k) ?_
    refine own_st (V := T55.setTop (mkF m 42 #[.val (.int p1), .val (.int p2), .val (.int (7 : Int32)), .val (.ref (A 7)), .val (.int (p2.toInt16.toInt32)), .val (.int (2 : Int32)), .val (.int (0 : Int32))] [])) (fun t k => XS.istore X55.here hx rfl (hb hby at_40) rfl (l' := #[.val (.int p1), .val (.int p2), .val (.int (7 : Int32)), .val (.ref (A 7)), .val (.int (p2.toInt16.toInt32)), .val (.int (2 : Int32)), .val (.int (0 : Int32))]) rfl k) ?_
    refine own_st (V := T55.setTop (mkF m 43 #[.val (.int p1), .val (.int p2), .val (.int (7 : Int32)), .val (.ref (A 7)), .val (.int (p2.toInt16.toInt32)), .val (.int (2 : Int32)), .val (.int (0 : Int32))] [(.ref (A 7))])) (fun t k => XS.aloadN X55.here hx rfl (hb hby at_42) rfl rfl k) ?_
    refine own_st (V := T55.setTop (mkF m 45 #[.val (.int p1), .val (.int p2), .val (.int (7 : Int32)), .val (.ref (A 7)), .val (.int (p2.toInt16.toInt32)), .val (.int (2 : Int32)), .val (.int (0 : Int32))] [(.int (p2.toInt16.toInt32)), (.ref (A 7))])) (fun t k => XS.iload X55.here hx rfl (hb hby at_43) rfl k) ?_
    obtain ⟨cq56, kq56, q56a, q56b, q56c⟩ := isOf hZ e55 (own_E En 7 (i := 7) (n := "HEARTBEAT") rfl)
    obtain ⟨_, _, ⟨T56, L56, k56, n56⟩, -, X56, ⟨Lc56, hQ56, l56, y56, z56⟩, st56⟩ := X55.virtualBack hx (y := (⟨"com/example/bhaga/bhaga/wire/Api", "serves", "(S)Z"⟩ : MethodName)) (z := (⟨"com/example/bhaga/bhaga/wire/Api", "serves", "(S)Z"⟩ : MethodName)) hown (mvT hZ (hw _ (List.mem_of_getElem? (i := 11) rfl))) (mvT hZ (hw _ (List.mem_of_getElem? (i := 12) rfl))) (notFace_of_selects (args := #[]) (mvT hZ (hw _ (List.mem_of_getElem? (i := 14) rfl)))) (mvT hZ (hw _ (List.mem_of_getElem? (i := 14) rfl))) (mvT hZ (hw _ (List.mem_of_getElem? (i := 13) rfl))) (by decide) (backOf (W := 0) (own_ma l Z a0 hw [] (A 7) (p2.toInt16.toInt32) (2 : Int32) h0 n0 Z0 (own_F0 En 7 (i := 7) (n := "HEARTBEAT") rfl) (own_F1 En 7 (i := 7) (n := "HEARTBEAT") rfl) ha) hZ (hw _ (List.mem_of_getElem? (i := 15) rfl)) (hw _ (List.mem_of_getElem? (i := 6) rfl)) (by decide) (by decide)) q56a q56c (g := (mkF m 45 #[.val (.int p1), .val (.int p2), .val (.int (7 : Int32)), .val (.ref (A 7)), .val (.int (p2.toInt16.toInt32)), .val (.int (2 : Int32)), .val (.int (0 : Int32))] [(.int (p2.toInt16.toInt32)), (.ref (A 7))])) rfl (by rw [hml]; rfl) (Steps.refl _) (argsL := [(.int (p2.toInt16.toInt32))]) (rest := []) (lenOf own_pd2 rfl) rfl (by show 2 * 0 + _ ≤ _; exact Nat.le_of_eq rfl) (hb hby at_45) (fun _ _ => ⟨rfl, e55, (by decide : 0 + 0 ≤ _), (by decide : 0 + 0 ≤ _)⟩)
    dsimp only [Pt.U, Pt.locs, Pt.cells, Pt.slots] at X56 l56 y56 z56 st56 hQ56
    subst l56 y56 z56
    obtain ⟨rfl, N56q, e56⟩ := hQ56
    have N56 := Fr.app N55 N56q
    refine own_st (V := T56.setTop (mkF m 48 #[.val (.int p1), .val (.int p2), .val (.int (7 : Int32)), .val (.ref (A 7)), .val (.int (p2.toInt16.toInt32)), .val (.int (2 : Int32)), .val (.int (0 : Int32))] [(.int (0 : Int32))])) (fun t k => st56.trans k) ?_
    refine own_st (V := T56.setTop (mkF m 50 #[.val (.int p1), .val (.int p2), .val (.int (7 : Int32)), .val (.ref (A 7)), .val (.int (p2.toInt16.toInt32)), .val (.int (2 : Int32)), .val (.int (0 : Int32))] [(.int (0 : Int32)), (.int (0 : Int32))])) (fun t k => XS.iload X56.here hx rfl (hb hby at_48) rfl k) ?_
    refine own_st (V := T56.setTop (mkF m 53 #[.val (.int p1), .val (.int p2), .val (.int (7 : Int32)), .val (.ref (A 7)), .val (.int (p2.toInt16.toInt32)), .val (.int (2 : Int32)), .val (.int (0 : Int32))] [])) (fun t k => XS.icmpNo X56.here hx rfl (hb hby at_50) rfl (teq (by decide : (0 : Int32) = (0 : Int32))).2 k) ?_
    refine own_st (V := T56.setTop (mkF m 54 #[.val (.int p1), .val (.int p2), .val (.int (7 : Int32)), .val (.ref (A 7)), .val (.int (p2.toInt16.toInt32)), .val (.int (2 : Int32)), .val (.int (0 : Int32))] [(.int (1 : Int32))])) (fun t k => XS.iconst X56.here hx rfl (hb hby at_53) k) ?_
    refine own_st (V := T56.setTop (mkF m 58 #[.val (.int p1), .val (.int p2), .val (.int (7 : Int32)), .val (.ref (A 7)), .val (.int (p2.toInt16.toInt32)), .val (.int (2 : Int32)), .val (.int (0 : Int32))] [(.int (1 : Int32))])) (fun t k => XS.goto X56.here hx rfl (pc0 := 54) (pc' := 58) rfl (hb hby at_54) (by decide) (by decide) k) ?_
    exact own_ret X56 hx hlk Bd.returns (by decide +kernel) (Or.inl ⟨rfl, by simp, _, rfl⟩) (hb hby at_58) (by decide) (by decide) (by show own_Q0 Z p1 p2 A h0 n0 _ T56.heap _; rw [e56]; exact ⟨rfl, N56⟩)
  · refine own_st (V := T55.setTop (mkF m 28 #[.val (.int p1), .val (.int p2), .val (.int (7 : Int32)), .val (.ref (A 7)), .val (.int (p2.toInt16.toInt32)), .val (.int (2 : Int32)), .unset] [])) (fun t k => XS.ifNo X55.here hx rfl (hb hby at_25) rfl ((if0 _ _).trans (flt ha).1) k) ?_
    refine own_st (V := T55.setTop (mkF m 30 #[.val (.int p1), .val (.int p2), .val (.int (7 : Int32)), .val (.ref (A 7)), .val (.int (p2.toInt16.toInt32)), .val (.int (2 : Int32)), .unset] [(.int (p2.toInt16.toInt32))])) (fun t k => XS.iload X55.here hx rfl (hb hby at_28) rfl k) ?_
    refine own_st (V := T55.setTop (mkF m 32 #[.val (.int p1), .val (.int p2), .val (.int (7 : Int32)), .val (.ref (A 7)), .val (.int (p2.toInt16.toInt32)), .val (.int (2 : Int32)), .unset] [(.int (2 : Int32)), (.int (p2.toInt16.toInt32))])) (fun t k => XS.iload X55.here hx rfl (hb hby at_30) rfl k) ?_
    by_cases hc : (2 : Int32) < (p2.toInt16.toInt32)
    · refine own_st (V := T55.setTop (mkF m 39 #[.val (.int p1), .val (.int p2), .val (.int (7 : Int32)), .val (.ref (A 7)), .val (.int (p2.toInt16.toInt32)), .val (.int (2 : Int32)), .unset] [])) (fun t k => XS.icmpYes X55.here hx rfl (pc0 := 32) (pc' := 39) rfl (hb hby at_32) rfl (tlt hc).2.2.1 (by decide) (by decide) k) ?_
      refine own_st (V := T55.setTop (mkF m 40 #[.val (.int p1), .val (.int p2), .val (.int (7 : Int32)), .val (.ref (A 7)), .val (.int (p2.toInt16.toInt32)), .val (.int (2 : Int32)), .unset] [(.int (0 : Int32))])) (fun t k => XS.iconst X55.here hx rfl (hb hby at_39) k) ?_
      refine own_st (V := T55.setTop (mkF m 42 #[.val (.int p1), .val (.int p2), .val (.int (7 : Int32)), .val (.ref (A 7)), .val (.int (p2.toInt16.toInt32)), .val (.int (2 : Int32)), .val (.int (0 : Int32))] [])) (fun t k => XS.istore X55.here hx rfl (hb hby at_40) rfl (l' := #[.val (.int p1), .val (.int p2), .val (.int (7 : Int32)), .val (.ref (A 7)), .val (.int (p2.toInt16.toInt32)), .val (.int (2 : Int32)), .val (.int (0 : Int32))]) rfl k) ?_
      refine own_st (V := T55.setTop (mkF m 43 #[.val (.int p1), .val (.int p2), .val (.int (7 : Int32)), .val (.ref (A 7)), .val (.int (p2.toInt16.toInt32)), .val (.int (2 : Int32)), .val (.int (0 : Int32))] [(.ref (A 7))])) (fun t k => XS.aloadN X55.here hx rfl (hb hby at_42) rfl rfl k) ?_
      refine own_st (V := T55.setTop (mkF m 45 #[.val (.int p1), .val (.int p2), .val (.int (7 : Int32)), .val (.ref (A 7)), .val (.int (p2.toInt16.toInt32)), .val (.int (2 : Int32)), .val (.int (0 : Int32))] [(.int (p2.toInt16.toInt32)), (.ref (A 7))])) (fun t k => XS.iload X55.here hx rfl (hb hby at_43) rfl k) ?_
      obtain ⟨cq57, kq57, q57a, q57b, q57c⟩ := isOf hZ e55 (own_E En 7 (i := 7) (n := "HEARTBEAT") rfl)
      obtain ⟨_, _, ⟨T57, L57, k57, n57⟩, -, X57, ⟨Lc57, hQ57, l57, y57, z57⟩, st57⟩ := X55.virtualBack hx (y := (⟨"com/example/bhaga/bhaga/wire/Api", "serves", "(S)Z"⟩ : MethodName)) (z := (⟨"com/example/bhaga/bhaga/wire/Api", "serves", "(S)Z"⟩ : MethodName)) hown (mvT hZ (hw _ (List.mem_of_getElem? (i := 11) rfl))) (mvT hZ (hw _ (List.mem_of_getElem? (i := 12) rfl))) (notFace_of_selects (args := #[]) (mvT hZ (hw _ (List.mem_of_getElem? (i := 14) rfl)))) (mvT hZ (hw _ (List.mem_of_getElem? (i := 14) rfl))) (mvT hZ (hw _ (List.mem_of_getElem? (i := 13) rfl))) (by decide) (backOf (W := 0) (own_mb l Z a0 hw [] (A 7) (p2.toInt16.toInt32) (2 : Int32) h0 n0 Z0 (own_F0 En 7 (i := 7) (n := "HEARTBEAT") rfl) (own_F1 En 7 (i := 7) (n := "HEARTBEAT") rfl) ha hc) hZ (hw _ (List.mem_of_getElem? (i := 15) rfl)) (hw _ (List.mem_of_getElem? (i := 6) rfl)) (by decide) (by decide)) q57a q57c (g := (mkF m 45 #[.val (.int p1), .val (.int p2), .val (.int (7 : Int32)), .val (.ref (A 7)), .val (.int (p2.toInt16.toInt32)), .val (.int (2 : Int32)), .val (.int (0 : Int32))] [(.int (p2.toInt16.toInt32)), (.ref (A 7))])) rfl (by rw [hml]; rfl) (Steps.refl _) (argsL := [(.int (p2.toInt16.toInt32))]) (rest := []) (lenOf own_pd2 rfl) rfl (by show 2 * 0 + _ ≤ _; exact Nat.le_of_eq rfl) (hb hby at_45) (fun _ _ => ⟨rfl, e55, (by decide : 0 + 0 ≤ _), (by decide : 0 + 0 ≤ _)⟩)
      dsimp only [Pt.U, Pt.locs, Pt.cells, Pt.slots] at X57 l57 y57 z57 st57 hQ57
      subst l57 y57 z57
      obtain ⟨rfl, N57q, e57⟩ := hQ57
      have N57 := Fr.app N55 N57q
      refine own_st (V := T57.setTop (mkF m 48 #[.val (.int p1), .val (.int p2), .val (.int (7 : Int32)), .val (.ref (A 7)), .val (.int (p2.toInt16.toInt32)), .val (.int (2 : Int32)), .val (.int (0 : Int32))] [(.int (0 : Int32))])) (fun t k => st57.trans k) ?_
      refine own_st (V := T57.setTop (mkF m 50 #[.val (.int p1), .val (.int p2), .val (.int (7 : Int32)), .val (.ref (A 7)), .val (.int (p2.toInt16.toInt32)), .val (.int (2 : Int32)), .val (.int (0 : Int32))] [(.int (0 : Int32)), (.int (0 : Int32))])) (fun t k => XS.iload X57.here hx rfl (hb hby at_48) rfl k) ?_
      refine own_st (V := T57.setTop (mkF m 53 #[.val (.int p1), .val (.int p2), .val (.int (7 : Int32)), .val (.ref (A 7)), .val (.int (p2.toInt16.toInt32)), .val (.int (2 : Int32)), .val (.int (0 : Int32))] [])) (fun t k => XS.icmpNo X57.here hx rfl (hb hby at_50) rfl (teq (by decide : (0 : Int32) = (0 : Int32))).2 k) ?_
      refine own_st (V := T57.setTop (mkF m 54 #[.val (.int p1), .val (.int p2), .val (.int (7 : Int32)), .val (.ref (A 7)), .val (.int (p2.toInt16.toInt32)), .val (.int (2 : Int32)), .val (.int (0 : Int32))] [(.int (1 : Int32))])) (fun t k => XS.iconst X57.here hx rfl (hb hby at_53) k) ?_
      refine own_st (V := T57.setTop (mkF m 58 #[.val (.int p1), .val (.int p2), .val (.int (7 : Int32)), .val (.ref (A 7)), .val (.int (p2.toInt16.toInt32)), .val (.int (2 : Int32)), .val (.int (0 : Int32))] [(.int (1 : Int32))])) (fun t k => XS.goto X57.here hx rfl (pc0 := 54) (pc' := 58) rfl (hb hby at_54) (by decide) (by decide) k) ?_
      exact own_ret X57 hx hlk Bd.returns (by decide +kernel) (Or.inl ⟨rfl, by simp, _, rfl⟩) (hb hby at_58) (by decide) (by decide) (by show own_Q0 Z p1 p2 A h0 n0 _ T57.heap _; rw [e57]; exact ⟨rfl, N57⟩)
    · refine own_st (V := T55.setTop (mkF m 35 #[.val (.int p1), .val (.int p2), .val (.int (7 : Int32)), .val (.ref (A 7)), .val (.int (p2.toInt16.toInt32)), .val (.int (2 : Int32)), .unset] [])) (fun t k => XS.icmpNo X55.here hx rfl (hb hby at_32) rfl (flt hc).2.2.1 k) ?_
      refine own_st (V := T55.setTop (mkF m 36 #[.val (.int p1), .val (.int p2), .val (.int (7 : Int32)), .val (.ref (A 7)), .val (.int (p2.toInt16.toInt32)), .val (.int (2 : Int32)), .unset] [(.int (1 : Int32))])) (fun t k => XS.iconst X55.here hx rfl (hb hby at_35) k) ?_
      refine own_st (V := T55.setTop (mkF m 40 #[.val (.int p1), .val (.int p2), .val (.int (7 : Int32)), .val (.ref (A 7)), .val (.int (p2.toInt16.toInt32)), .val (.int (2 : Int32)), .unset] [(.int (1 : Int32))])) (fun t k => XS.goto X55.here hx rfl (pc0 := 36) (pc' := 40) rfl (hb hby at_36) (by decide) (by decide) k) ?_
      refine own_st (V := T55.setTop (mkF m 42 #[.val (.int p1), .val (.int p2), .val (.int (7 : Int32)), .val (.ref (A 7)), .val (.int (p2.toInt16.toInt32)), .val (.int (2 : Int32)), .val (.int (1 : Int32))] [])) (fun t k => XS.istore X55.here hx rfl (hb hby at_40) rfl (l' := #[.val (.int p1), .val (.int p2), .val (.int (7 : Int32)), .val (.ref (A 7)), .val (.int (p2.toInt16.toInt32)), .val (.int (2 : Int32)), .val (.int (1 : Int32))]) rfl k) ?_
      refine own_st (V := T55.setTop (mkF m 43 #[.val (.int p1), .val (.int p2), .val (.int (7 : Int32)), .val (.ref (A 7)), .val (.int (p2.toInt16.toInt32)), .val (.int (2 : Int32)), .val (.int (1 : Int32))] [(.ref (A 7))])) (fun t k => XS.aloadN X55.here hx rfl (hb hby at_42) rfl rfl k) ?_
      refine own_st (V := T55.setTop (mkF m 45 #[.val (.int p1), .val (.int p2), .val (.int (7 : Int32)), .val (.ref (A 7)), .val (.int (p2.toInt16.toInt32)), .val (.int (2 : Int32)), .val (.int (1 : Int32))] [(.int (p2.toInt16.toInt32)), (.ref (A 7))])) (fun t k => XS.iload X55.here hx rfl (hb hby at_43) rfl k) ?_
      obtain ⟨cq58, kq58, q58a, q58b, q58c⟩ := isOf hZ e55 (own_E En 7 (i := 7) (n := "HEARTBEAT") rfl)
      obtain ⟨_, _, ⟨T58, L58, k58, n58⟩, -, X58, ⟨Lc58, hQ58, l58, y58, z58⟩, st58⟩ := X55.virtualBack hx (y := (⟨"com/example/bhaga/bhaga/wire/Api", "serves", "(S)Z"⟩ : MethodName)) (z := (⟨"com/example/bhaga/bhaga/wire/Api", "serves", "(S)Z"⟩ : MethodName)) hown (mvT hZ (hw _ (List.mem_of_getElem? (i := 11) rfl))) (mvT hZ (hw _ (List.mem_of_getElem? (i := 12) rfl))) (notFace_of_selects (args := #[]) (mvT hZ (hw _ (List.mem_of_getElem? (i := 14) rfl)))) (mvT hZ (hw _ (List.mem_of_getElem? (i := 14) rfl))) (mvT hZ (hw _ (List.mem_of_getElem? (i := 13) rfl))) (by decide) (backOf (W := 0) (own_mc l Z a0 hw [] (A 7) (p2.toInt16.toInt32) (2 : Int32) h0 n0 Z0 (own_F0 En 7 (i := 7) (n := "HEARTBEAT") rfl) (own_F1 En 7 (i := 7) (n := "HEARTBEAT") rfl) ha hc) hZ (hw _ (List.mem_of_getElem? (i := 15) rfl)) (hw _ (List.mem_of_getElem? (i := 6) rfl)) (by decide) (by decide)) q58a q58c (g := (mkF m 45 #[.val (.int p1), .val (.int p2), .val (.int (7 : Int32)), .val (.ref (A 7)), .val (.int (p2.toInt16.toInt32)), .val (.int (2 : Int32)), .val (.int (1 : Int32))] [(.int (p2.toInt16.toInt32)), (.ref (A 7))])) rfl (by rw [hml]; rfl) (Steps.refl _) (argsL := [(.int (p2.toInt16.toInt32))]) (rest := []) (lenOf own_pd2 rfl) rfl (by show 2 * 0 + _ ≤ _; exact Nat.le_of_eq rfl) (hb hby at_45) (fun _ _ => ⟨rfl, e55, (by decide : 0 + 0 ≤ _), (by decide : 0 + 0 ≤ _)⟩)
      dsimp only [Pt.U, Pt.locs, Pt.cells, Pt.slots] at X58 l58 y58 z58 st58 hQ58
      subst l58 y58 z58
      obtain ⟨rfl, N58q, e58⟩ := hQ58
      have N58 := Fr.app N55 N58q
      refine own_st (V := T58.setTop (mkF m 48 #[.val (.int p1), .val (.int p2), .val (.int (7 : Int32)), .val (.ref (A 7)), .val (.int (p2.toInt16.toInt32)), .val (.int (2 : Int32)), .val (.int (1 : Int32))] [(.int (1 : Int32))])) (fun t k => st58.trans k) ?_
      refine own_st (V := T58.setTop (mkF m 50 #[.val (.int p1), .val (.int p2), .val (.int (7 : Int32)), .val (.ref (A 7)), .val (.int (p2.toInt16.toInt32)), .val (.int (2 : Int32)), .val (.int (1 : Int32))] [(.int (1 : Int32)), (.int (1 : Int32))])) (fun t k => XS.iload X58.here hx rfl (hb hby at_48) rfl k) ?_
      refine own_st (V := T58.setTop (mkF m 53 #[.val (.int p1), .val (.int p2), .val (.int (7 : Int32)), .val (.ref (A 7)), .val (.int (p2.toInt16.toInt32)), .val (.int (2 : Int32)), .val (.int (1 : Int32))] [])) (fun t k => XS.icmpNo X58.here hx rfl (hb hby at_50) rfl (teq (by decide : (1 : Int32) = (1 : Int32))).2 k) ?_
      refine own_st (V := T58.setTop (mkF m 54 #[.val (.int p1), .val (.int p2), .val (.int (7 : Int32)), .val (.ref (A 7)), .val (.int (p2.toInt16.toInt32)), .val (.int (2 : Int32)), .val (.int (1 : Int32))] [(.int (1 : Int32))])) (fun t k => XS.iconst X58.here hx rfl (hb hby at_53) k) ?_
      refine own_st (V := T58.setTop (mkF m 58 #[.val (.int p1), .val (.int p2), .val (.int (7 : Int32)), .val (.ref (A 7)), .val (.int (p2.toInt16.toInt32)), .val (.int (2 : Int32)), .val (.int (1 : Int32))] [(.int (1 : Int32))])) (fun t k => XS.goto X58.here hx rfl (pc0 := 54) (pc' := 58) rfl (hb hby at_54) (by decide) (by decide) k) ?_
      exact own_ret X58 hx hlk Bd.returns (by decide +kernel) (Or.inl ⟨rfl, by simp, _, rfl⟩) (hb hby at_58) (by decide) (by decide) (by show own_Q0 Z p1 p2 A h0 n0 _ T58.heap _; rw [e58]; exact ⟨rfl, N58⟩)
set_option maxRecDepth 65536 in
set_option maxHeartbeats 40000000 in
theorem own_law8 (l : Launch) (Z : State) (a0 : Array Value) (hw : ∀ d ∈ tables_1, d.before a0 Z = true) (ws : List Jvm.Cond) (p1 : Int32) (p2 : Int32) (A : Nat → Addr) (h0 : Heap) (n0 : Nat) (Z0 : n0 ≤ h0.size) (En : own_En Z h0 A) (hk : ((p1 &&& (2147483647 : Int32)) % (13 : Int32)) = (8 : Int32)) :
    MetFree l x (head1 (Jvm.Cond.code x code maxLocals ret :: ws) room_1) (fun a U => a = #[(.int p1), (.int p2)] ∧ Z.Warmed39 U.vm ∧ U.heap = h0) (fun _ _ _ _ _ => True) (fun _ U o U' => ∃ v L, o = .returned v ∧ own_Q0 Z p1 p2 A h0 n0 v U'.heap L ∧ FrameEnd U o U' L room_1.cells room_1.slots) := by
  refine MetFree.of_bodySF (plainFor_of_name own_pn_com_example_bhaga_bhaga_wire_ApiServesPinLaw) hisR ?_
  intro p e s m args below meth c s₁ Bd hml0 hP hK
  obtain ⟨rfl, hZ, hh⟩ := hP
  have hx := Bd.exec
  have hby := Bd.bytes
  have hml : c.maxLocals = 7 := hml0
  have hown : s.vm.findClass "com/example/bhaga/bhaga/wire/ApiServesPinLaw" = some m.cls := findClass_of_methodNamed Bd.named
  have hnm := (name_of_methodNamed Bd.named Bd.method).1
  have hlk : meth.locks = false := BodyLoose.notSynchronized Bd
  have X0 : Stand p l e room_1 s m #[(.int p1), (.int p2)] below meth c s₁ [] 0 0 := Stand.of_body Bd
  have e0 : s₁.heap = h0 := by rw [← hh, Bd.state]; rfl
  have N0 := Fr.nil n0
  show own_Go p e below #[(.int p1), (.int p2)] s (fun _ U o U' => ∃ v L, o = .returned v ∧ own_Q0 Z p1 p2 A h0 n0 v U'.heap L ∧ FrameEnd U o U' L room_1.cells room_1.slots) (s₁.setTop (entryFrame m #[(.int p1), (.int p2)] maxLocals))
  refine own_st (V := s₁.setTop (mkF m 0 #[.val (.int p1), .val (.int p2), .unset, .unset, .unset, .unset, .unset] [])) (fun t k => castTop (by first | (simp [entryFrame, mkF, argsToLocals, Value.category, maxLocals]; done) | rfl) k) ?_
  refine own_st (V := s₁.setTop (mkF m 1 #[.val (.int p1), .val (.int p2), .unset, .unset, .unset, .unset, .unset] [(.int p1)])) (fun t k => XS.iloadN X0.here hx rfl (hb hby at_0) rfl k) ?_
  refine own_st (V := s₁.setTop (mkF m 3 #[.val (.int p1), .val (.int p2), .unset, .unset, .unset, .unset, .unset] [(.int (2147483647 : Int32)), (.int p1)])) (fun t k => X0.ldcInt hx hown (mvT hZ (hw _ (List.mem_of_getElem? (i := 0) rfl))) (g := (mkF m 1 #[.val (.int p1), .val (.int p2), .unset, .unset, .unset, .unset, .unset] [(.int p1)])) rfl (hb hby at_1) t k) ?_
  refine own_st (V := s₁.setTop (mkF m 4 #[.val (.int p1), .val (.int p2), .unset, .unset, .unset, .unset, .unset] [(.int (p1 &&& (2147483647 : Int32)))])) (fun t k => XS.iand X0.here hx rfl (hb hby at_3) rfl k) ?_
  refine own_st (V := s₁.setTop (mkF m 6 #[.val (.int p1), .val (.int p2), .unset, .unset, .unset, .unset, .unset] [(.int (13 : Int32)), (.int (p1 &&& (2147483647 : Int32)))])) (fun t k => XS.bipush X0.here hx rfl (hb hby at_4) k) ?_
  refine own_st (V := s₁.setTop (mkF m 7 #[.val (.int p1), .val (.int p2), .unset, .unset, .unset, .unset, .unset] [(.int ((p1 &&& (2147483647 : Int32)) % (13 : Int32)))])) (fun t k => Jvm.RoadKit.iremM X0 hx rfl (hb hby at_6) rfl (by decide) k) ?_
  rw [hk]
  refine own_st (V := s₁.setTop (mkF m 8 #[.val (.int p1), .val (.int p2), .val (.int (8 : Int32)), .unset, .unset, .unset, .unset] [])) (fun t k => XS.istoreN X0.here hx rfl (hb hby at_7) rfl (l' := #[.val (.int p1), .val (.int p2), .val (.int (8 : Int32)), .unset, .unset, .unset, .unset]) rfl k) ?_
  refine own_st (V := s₁.setTop (mkF m 9 #[.val (.int p1), .val (.int p2), .val (.int (8 : Int32)), .unset, .unset, .unset, .unset] [(.int (8 : Int32))])) (fun t k => XS.iloadN X0.here hx rfl (hb hby at_8) rfl k) ?_
  obtain ⟨_, _, ⟨T59, L59, k59, n59⟩, -, X59, ⟨Lc59, hQ59, l59, y59, z59⟩, st59⟩ := Jvm.LawKit.callS X0 hx (y := (⟨"com/example/bhaga/bhaga/wire/ApiServesPinLaw", "pick", "(I)Lcom/example/bhaga/bhaga/wire/Api;"⟩ : MethodName)) hown (mvT hZ (hw _ (List.mem_of_getElem? (i := 1) rfl))) (mvT hZ (hw _ (List.mem_of_getElem? (i := 2) rfl))) (mvT hZ (hw _ (List.mem_of_getElem? (i := 3) rfl))) (mvT hZ (hw _ (List.mem_of_getElem? (i := 4) rfl))) (by decide) (backOf (W := 0) (own_pick8 l Z a0 hw [] A h0 n0 Z0 En ) hZ (hw _ (List.mem_of_getElem? (i := 4) rfl)) (hw _ (List.mem_of_getElem? (i := 3) rfl)) (by decide) (by decide)) (g := (mkF m 9 #[.val (.int p1), .val (.int p2), .val (.int (8 : Int32)), .unset, .unset, .unset, .unset] [(.int (8 : Int32))])) rfl (by rw [hml]; rfl) (argsL := [(.int (8 : Int32))]) (rest := []) (lenOf own_pd0 rfl) rfl (by show 2 * 0 + _ ≤ _; exact Nat.le_of_eq rfl) (hb hby at_9) (fun _ _ => ⟨rfl, e0, (by decide : 0 + 0 ≤ _), (by decide : 0 + 0 ≤ _)⟩)
  dsimp only [Pt.U, Pt.locs, Pt.cells, Pt.slots] at X59 l59 y59 z59 st59 hQ59
  subst l59 y59 z59
  obtain ⟨rfl, N59q, e59⟩ := hQ59
  have N59 := Fr.app N0 N59q
  refine own_st (V := T59.setTop (mkF m 12 #[.val (.int p1), .val (.int p2), .val (.int (8 : Int32)), .unset, .unset, .unset, .unset] [(.ref (A 8))])) (fun t k => st59 _ k) ?_
  refine own_st (V := T59.setTop (mkF m 13 #[.val (.int p1), .val (.int p2), .val (.int (8 : Int32)), .val (.ref (A 8)), .unset, .unset, .unset] [])) (fun t k => XS.astoreN X59.here hx rfl (hb hby at_12) rfl rfl (l' := #[.val (.int p1), .val (.int p2), .val (.int (8 : Int32)), .val (.ref (A 8)), .unset, .unset, .unset]) rfl k) ?_
  refine own_st (V := T59.setTop (mkF m 14 #[.val (.int p1), .val (.int p2), .val (.int (8 : Int32)), .val (.ref (A 8)), .unset, .unset, .unset] [(.int p2)])) (fun t k => XS.iloadN X59.here hx rfl (hb hby at_13) rfl k) ?_
  refine own_st (V := T59.setTop (mkF m 15 #[.val (.int p1), .val (.int p2), .val (.int (8 : Int32)), .val (.ref (A 8)), .unset, .unset, .unset] [(.int (p2.toInt16.toInt32))])) (fun t k => XS.i2s X59.here hx rfl (hb hby at_14) rfl k) ?_
  refine own_st (V := T59.setTop (mkF m 17 #[.val (.int p1), .val (.int p2), .val (.int (8 : Int32)), .val (.ref (A 8)), .val (.int (p2.toInt16.toInt32)), .unset, .unset] [])) (fun t k => XS.istore X59.here hx rfl (hb hby at_15) rfl (l' := #[.val (.int p1), .val (.int p2), .val (.int (8 : Int32)), .val (.ref (A 8)), .val (.int (p2.toInt16.toInt32)), .unset, .unset]) rfl k) ?_
  refine own_st (V := T59.setTop (mkF m 18 #[.val (.int p1), .val (.int p2), .val (.int (8 : Int32)), .val (.ref (A 8)), .val (.int (p2.toInt16.toInt32)), .unset, .unset] [(.int (8 : Int32))])) (fun t k => XS.iloadN X59.here hx rfl (hb hby at_17) rfl k) ?_
  obtain ⟨_, _, ⟨T60, L60, k60, n60⟩, -, X60, ⟨Lc60, hQ60, l60, y60, z60⟩, st60⟩ := Jvm.LawKit.callS X59 hx (y := (⟨"com/example/bhaga/bhaga/wire/ApiServesPinLaw", "expectedMax", "(I)I"⟩ : MethodName)) hown (mvT hZ (hw _ (List.mem_of_getElem? (i := 8) rfl))) (mvT hZ (hw _ (List.mem_of_getElem? (i := 9) rfl))) (mvT hZ (hw _ (List.mem_of_getElem? (i := 3) rfl))) (mvT hZ (hw _ (List.mem_of_getElem? (i := 10) rfl))) (by decide) (backOf (W := 0) (own_em8 l Z a0 hw [] h0 n0 Z0 ) hZ (hw _ (List.mem_of_getElem? (i := 10) rfl)) (hw _ (List.mem_of_getElem? (i := 3) rfl)) (by decide) (by decide)) (g := (mkF m 18 #[.val (.int p1), .val (.int p2), .val (.int (8 : Int32)), .val (.ref (A 8)), .val (.int (p2.toInt16.toInt32)), .unset, .unset] [(.int (8 : Int32))])) rfl (by rw [hml]; rfl) (argsL := [(.int (8 : Int32))]) (rest := []) (lenOf own_pd1 rfl) rfl (by show 2 * 0 + _ ≤ _; exact Nat.le_of_eq rfl) (hb hby at_18) (fun _ _ => ⟨rfl, e59, (by decide : 0 + 0 ≤ _), (by decide : 0 + 0 ≤ _)⟩)
  dsimp only [Pt.U, Pt.locs, Pt.cells, Pt.slots] at X60 l60 y60 z60 st60 hQ60
  subst l60 y60 z60
  obtain ⟨rfl, N60q, e60⟩ := hQ60
  have N60 := Fr.app N59 N60q
  refine own_st (V := T60.setTop (mkF m 21 #[.val (.int p1), .val (.int p2), .val (.int (8 : Int32)), .val (.ref (A 8)), .val (.int (p2.toInt16.toInt32)), .unset, .unset] [(.int (2 : Int32))])) (fun t k => st60 _ k) ?_
  refine own_st (V := T60.setTop (mkF m 23 #[.val (.int p1), .val (.int p2), .val (.int (8 : Int32)), .val (.ref (A 8)), .val (.int (p2.toInt16.toInt32)), .val (.int (2 : Int32)), .unset] [])) (fun t k => XS.istore X60.here hx rfl (hb hby at_21) rfl (l' := #[.val (.int p1), .val (.int p2), .val (.int (8 : Int32)), .val (.ref (A 8)), .val (.int (p2.toInt16.toInt32)), .val (.int (2 : Int32)), .unset]) rfl k) ?_
  refine own_st (V := T60.setTop (mkF m 25 #[.val (.int p1), .val (.int p2), .val (.int (8 : Int32)), .val (.ref (A 8)), .val (.int (p2.toInt16.toInt32)), .val (.int (2 : Int32)), .unset] [(.int (p2.toInt16.toInt32))])) (fun t k => XS.iload X60.here hx rfl (hb hby at_23) rfl k) ?_
  by_cases ha : (p2.toInt16.toInt32) < (0 : Int32)
  · refine own_st (V := T60.setTop (mkF m 39 #[.val (.int p1), .val (.int p2), .val (.int (8 : Int32)), .val (.ref (A 8)), .val (.int (p2.toInt16.toInt32)), .val (.int (2 : Int32)), .unset] [])) (fun t k => XS.ifYes X60.here hx rfl (pc0 := 25) (pc' := 39) rfl (hb hby at_25) rfl ((if0 _ _).trans (tlt ha).1) (by decide) (by decide) k) ?_
    refine own_st (V := T60.setTop (mkF m 40 #[.val (.int p1), .val (.int p2), .val (.int (8 : Int32)), .val (.ref (A 8)), .val (.int (p2.toInt16.toInt32)), .val (.int (2 : Int32)), .unset] [(.int (0 : Int32))])) (fun t k => XS.iconst X60.here hx rfl (hb hby at_39) k) ?_
    refine own_st (V := T60.setTop (mkF m 42 #[.val (.int p1), .val (.int p2), .val (.int (8 : Int32)), .val (.ref (A 8)), .val (.int (p2.toInt16.toInt32)), .val (.int (2 : Int32)), .val (.int (0 : Int32))] [])) (fun t k => XS.istore X60.here hx rfl (hb hby at_40) rfl (l' := #[.val (.int p1), .val (.int p2), .val (.int (8 : Int32)), .val (.ref (A 8)), .val (.int (p2.toInt16.toInt32)), .val (.int (2 : Int32)), .val (.int (0 : Int32))]) rfl k) ?_
    refine own_st (V := T60.setTop (mkF m 43 #[.val (.int p1), .val (.int p2), .val (.int (8 : Int32)), .val (.ref (A 8)), .val (.int (p2.toInt16.toInt32)), .val (.int (2 : Int32)), .val (.int (0 : Int32))] [(.ref (A 8))])) (fun t k => XS.aloadN X60.here hx rfl (hb hby at_42) rfl rfl k) ?_
    refine own_st (V := T60.setTop (mkF m 45 #[.val (.int p1), .val (.int p2), .val (.int (8 : Int32)), .val (.ref (A 8)), .val (.int (p2.toInt16.toInt32)), .val (.int (2 : Int32)), .val (.int (0 : Int32))] [(.int (p2.toInt16.toInt32)), (.ref (A 8))])) (fun t k => XS.iload X60.here hx rfl (hb hby at_43) rfl k) ?_
    obtain ⟨cq61, kq61, q61a, q61b, q61c⟩ := isOf hZ e60 (own_E En 8 (i := 8) (n := "LEAVE_GROUP") rfl)
    obtain ⟨_, _, ⟨T61, L61, k61, n61⟩, -, X61, ⟨Lc61, hQ61, l61, y61, z61⟩, st61⟩ := X60.virtualBack hx (y := (⟨"com/example/bhaga/bhaga/wire/Api", "serves", "(S)Z"⟩ : MethodName)) (z := (⟨"com/example/bhaga/bhaga/wire/Api", "serves", "(S)Z"⟩ : MethodName)) hown (mvT hZ (hw _ (List.mem_of_getElem? (i := 11) rfl))) (mvT hZ (hw _ (List.mem_of_getElem? (i := 12) rfl))) (notFace_of_selects (args := #[]) (mvT hZ (hw _ (List.mem_of_getElem? (i := 14) rfl)))) (mvT hZ (hw _ (List.mem_of_getElem? (i := 14) rfl))) (mvT hZ (hw _ (List.mem_of_getElem? (i := 13) rfl))) (by decide) (backOf (W := 0) (own_ma l Z a0 hw [] (A 8) (p2.toInt16.toInt32) (2 : Int32) h0 n0 Z0 (own_F0 En 8 (i := 8) (n := "LEAVE_GROUP") rfl) (own_F1 En 8 (i := 8) (n := "LEAVE_GROUP") rfl) ha) hZ (hw _ (List.mem_of_getElem? (i := 15) rfl)) (hw _ (List.mem_of_getElem? (i := 6) rfl)) (by decide) (by decide)) q61a q61c (g := (mkF m 45 #[.val (.int p1), .val (.int p2), .val (.int (8 : Int32)), .val (.ref (A 8)), .val (.int (p2.toInt16.toInt32)), .val (.int (2 : Int32)), .val (.int (0 : Int32))] [(.int (p2.toInt16.toInt32)), (.ref (A 8))])) rfl (by rw [hml]; rfl) (Steps.refl _) (argsL := [(.int (p2.toInt16.toInt32))]) (rest := []) (lenOf own_pd2 rfl) rfl (by show 2 * 0 + _ ≤ _; exact Nat.le_of_eq rfl) (hb hby at_45) (fun _ _ => ⟨rfl, e60, (by decide : 0 + 0 ≤ _), (by decide : 0 + 0 ≤ _)⟩)
    dsimp only [Pt.U, Pt.locs, Pt.cells, Pt.slots] at X61 l61 y61 z61 st61 hQ61
    subst l61 y61 z61
    obtain ⟨rfl, N61q, e61⟩ := hQ61
    have N61 := Fr.app N60 N61q
    refine own_st (V := T61.setTop (mkF m 48 #[.val (.int p1), .val (.int p2), .val (.int (8 : Int32)), .val (.ref (A 8)), .val (.int (p2.toInt16.toInt32)), .val (.int (2 : Int32)), .val (.int (0 : Int32))] [(.int (0 : Int32))])) (fun t k => st61.trans k) ?_
    refine own_st (V := T61.setTop (mkF m 50 #[.val (.int p1), .val (.int p2), .val (.int (8 : Int32)), .val (.ref (A 8)), .val (.int (p2.toInt16.toInt32)), .val (.int (2 : Int32)), .val (.int (0 : Int32))] [(.int (0 : Int32)), (.int (0 : Int32))])) (fun t k => XS.iload X61.here hx rfl (hb hby at_48) rfl k) ?_
    refine own_st (V := T61.setTop (mkF m 53 #[.val (.int p1), .val (.int p2), .val (.int (8 : Int32)), .val (.ref (A 8)), .val (.int (p2.toInt16.toInt32)), .val (.int (2 : Int32)), .val (.int (0 : Int32))] [])) (fun t k => XS.icmpNo X61.here hx rfl (hb hby at_50) rfl (teq (by decide : (0 : Int32) = (0 : Int32))).2 k) ?_
    refine own_st (V := T61.setTop (mkF m 54 #[.val (.int p1), .val (.int p2), .val (.int (8 : Int32)), .val (.ref (A 8)), .val (.int (p2.toInt16.toInt32)), .val (.int (2 : Int32)), .val (.int (0 : Int32))] [(.int (1 : Int32))])) (fun t k => XS.iconst X61.here hx rfl (hb hby at_53) k) ?_
    refine own_st (V := T61.setTop (mkF m 58 #[.val (.int p1), .val (.int p2), .val (.int (8 : Int32)), .val (.ref (A 8)), .val (.int (p2.toInt16.toInt32)), .val (.int (2 : Int32)), .val (.int (0 : Int32))] [(.int (1 : Int32))])) (fun t k => XS.goto X61.here hx rfl (pc0 := 54) (pc' := 58) rfl (hb hby at_54) (by decide) (by decide) k) ?_
    exact own_ret X61 hx hlk Bd.returns (by decide +kernel) (Or.inl ⟨rfl, by simp, _, rfl⟩) (hb hby at_58) (by decide) (by decide) (by show own_Q0 Z p1 p2 A h0 n0 _ T61.heap _; rw [e61]; exact ⟨rfl, N61⟩)
  · refine own_st (V := T60.setTop (mkF m 28 #[.val (.int p1), .val (.int p2), .val (.int (8 : Int32)), .val (.ref (A 8)), .val (.int (p2.toInt16.toInt32)), .val (.int (2 : Int32)), .unset] [])) (fun t k => XS.ifNo X60.here hx rfl (hb hby at_25) rfl ((if0 _ _).trans (flt ha).1) k) ?_
    refine own_st (V := T60.setTop (mkF m 30 #[.val (.int p1), .val (.int p2), .val (.int (8 : Int32)), .val (.ref (A 8)), .val (.int (p2.toInt16.toInt32)), .val (.int (2 : Int32)), .unset] [(.int (p2.toInt16.toInt32))])) (fun t k => XS.iload X60.here hx rfl (hb hby at_28) rfl k) ?_
    refine own_st (V := T60.setTop (mkF m 32 #[.val (.int p1), .val (.int p2), .val (.int (8 : Int32)), .val (.ref (A 8)), .val (.int (p2.toInt16.toInt32)), .val (.int (2 : Int32)), .unset] [(.int (2 : Int32)), (.int (p2.toInt16.toInt32))])) (fun t k => XS.iload X60.here hx rfl (hb hby at_30) rfl k) ?_
    by_cases hc : (2 : Int32) < (p2.toInt16.toInt32)
    · refine own_st (V := T60.setTop (mkF m 39 #[.val (.int p1), .val (.int p2), .val (.int (8 : Int32)), .val (.ref (A 8)), .val (.int (p2.toInt16.toInt32)), .val (.int (2 : Int32)), .unset] [])) (fun t k => XS.icmpYes X60.here hx rfl (pc0 := 32) (pc' := 39) rfl (hb hby at_32) rfl (tlt hc).2.2.1 (by decide) (by decide) k) ?_
      refine own_st (V := T60.setTop (mkF m 40 #[.val (.int p1), .val (.int p2), .val (.int (8 : Int32)), .val (.ref (A 8)), .val (.int (p2.toInt16.toInt32)), .val (.int (2 : Int32)), .unset] [(.int (0 : Int32))])) (fun t k => XS.iconst X60.here hx rfl (hb hby at_39) k) ?_
      refine own_st (V := T60.setTop (mkF m 42 #[.val (.int p1), .val (.int p2), .val (.int (8 : Int32)), .val (.ref (A 8)), .val (.int (p2.toInt16.toInt32)), .val (.int (2 : Int32)), .val (.int (0 : Int32))] [])) (fun t k => XS.istore X60.here hx rfl (hb hby at_40) rfl (l' := #[.val (.int p1), .val (.int p2), .val (.int (8 : Int32)), .val (.ref (A 8)), .val (.int (p2.toInt16.toInt32)), .val (.int (2 : Int32)), .val (.int (0 : Int32))]) rfl k) ?_
      refine own_st (V := T60.setTop (mkF m 43 #[.val (.int p1), .val (.int p2), .val (.int (8 : Int32)), .val (.ref (A 8)), .val (.int (p2.toInt16.toInt32)), .val (.int (2 : Int32)), .val (.int (0 : Int32))] [(.ref (A 8))])) (fun t k => XS.aloadN X60.here hx rfl (hb hby at_42) rfl rfl k) ?_
      refine own_st (V := T60.setTop (mkF m 45 #[.val (.int p1), .val (.int p2), .val (.int (8 : Int32)), .val (.ref (A 8)), .val (.int (p2.toInt16.toInt32)), .val (.int (2 : Int32)), .val (.int (0 : Int32))] [(.int (p2.toInt16.toInt32)), (.ref (A 8))])) (fun t k => XS.iload X60.here hx rfl (hb hby at_43) rfl k) ?_
      obtain ⟨cq62, kq62, q62a, q62b, q62c⟩ := isOf hZ e60 (own_E En 8 (i := 8) (n := "LEAVE_GROUP") rfl)
      obtain ⟨_, _, ⟨T62, L62, k62, n62⟩, -, X62, ⟨Lc62, hQ62, l62, y62, z62⟩, st62⟩ := X60.virtualBack hx (y := (⟨"com/example/bhaga/bhaga/wire/Api", "serves", "(S)Z"⟩ : MethodName)) (z := (⟨"com/example/bhaga/bhaga/wire/Api", "serves", "(S)Z"⟩ : MethodName)) hown (mvT hZ (hw _ (List.mem_of_getElem? (i := 11) rfl))) (mvT hZ (hw _ (List.mem_of_getElem? (i := 12) rfl))) (notFace_of_selects (args := #[]) (mvT hZ (hw _ (List.mem_of_getElem? (i := 14) rfl)))) (mvT hZ (hw _ (List.mem_of_getElem? (i := 14) rfl))) (mvT hZ (hw _ (List.mem_of_getElem? (i := 13) rfl))) (by decide) (backOf (W := 0) (own_mb l Z a0 hw [] (A 8) (p2.toInt16.toInt32) (2 : Int32) h0 n0 Z0 (own_F0 En 8 (i := 8) (n := "LEAVE_GROUP") rfl) (own_F1 En 8 (i := 8) (n := "LEAVE_GROUP") rfl) ha hc) hZ (hw _ (List.mem_of_getElem? (i := 15) rfl)) (hw _ (List.mem_of_getElem? (i := 6) rfl)) (by decide) (by decide)) q62a q62c (g := (mkF m 45 #[.val (.int p1), .val (.int p2), .val (.int (8 : Int32)), .val (.ref (A 8)), .val (.int (p2.toInt16.toInt32)), .val (.int (2 : Int32)), .val (.int (0 : Int32))] [(.int (p2.toInt16.toInt32)), (.ref (A 8))])) rfl (by rw [hml]; rfl) (Steps.refl _) (argsL := [(.int (p2.toInt16.toInt32))]) (rest := []) (lenOf own_pd2 rfl) rfl (by show 2 * 0 + _ ≤ _; exact Nat.le_of_eq rfl) (hb hby at_45) (fun _ _ => ⟨rfl, e60, (by decide : 0 + 0 ≤ _), (by decide : 0 + 0 ≤ _)⟩)
      dsimp only [Pt.U, Pt.locs, Pt.cells, Pt.slots] at X62 l62 y62 z62 st62 hQ62
      subst l62 y62 z62
      obtain ⟨rfl, N62q, e62⟩ := hQ62
      have N62 := Fr.app N60 N62q
      refine own_st (V := T62.setTop (mkF m 48 #[.val (.int p1), .val (.int p2), .val (.int (8 : Int32)), .val (.ref (A 8)), .val (.int (p2.toInt16.toInt32)), .val (.int (2 : Int32)), .val (.int (0 : Int32))] [(.int (0 : Int32))])) (fun t k => st62.trans k) ?_
      refine own_st (V := T62.setTop (mkF m 50 #[.val (.int p1), .val (.int p2), .val (.int (8 : Int32)), .val (.ref (A 8)), .val (.int (p2.toInt16.toInt32)), .val (.int (2 : Int32)), .val (.int (0 : Int32))] [(.int (0 : Int32)), (.int (0 : Int32))])) (fun t k => XS.iload X62.here hx rfl (hb hby at_48) rfl k) ?_
      refine own_st (V := T62.setTop (mkF m 53 #[.val (.int p1), .val (.int p2), .val (.int (8 : Int32)), .val (.ref (A 8)), .val (.int (p2.toInt16.toInt32)), .val (.int (2 : Int32)), .val (.int (0 : Int32))] [])) (fun t k => XS.icmpNo X62.here hx rfl (hb hby at_50) rfl (teq (by decide : (0 : Int32) = (0 : Int32))).2 k) ?_
      refine own_st (V := T62.setTop (mkF m 54 #[.val (.int p1), .val (.int p2), .val (.int (8 : Int32)), .val (.ref (A 8)), .val (.int (p2.toInt16.toInt32)), .val (.int (2 : Int32)), .val (.int (0 : Int32))] [(.int (1 : Int32))])) (fun t k => XS.iconst X62.here hx rfl (hb hby at_53) k) ?_
      refine own_st (V := T62.setTop (mkF m 58 #[.val (.int p1), .val (.int p2), .val (.int (8 : Int32)), .val (.ref (A 8)), .val (.int (p2.toInt16.toInt32)), .val (.int (2 : Int32)), .val (.int (0 : Int32))] [(.int (1 : Int32))])) (fun t k => XS.goto X62.here hx rfl (pc0 := 54) (pc' := 58) rfl (hb hby at_54) (by decide) (by decide) k) ?_
      exact own_ret X62 hx hlk Bd.returns (by decide +kernel) (Or.inl ⟨rfl, by simp, _, rfl⟩) (hb hby at_58) (by decide) (by decide) (by show own_Q0 Z p1 p2 A h0 n0 _ T62.heap _; rw [e62]; exact ⟨rfl, N62⟩)
    · refine own_st (V := T60.setTop (mkF m 35 #[.val (.int p1), .val (.int p2), .val (.int (8 : Int32)), .val (.ref (A 8)), .val (.int (p2.toInt16.toInt32)), .val (.int (2 : Int32)), .unset] [])) (fun t k => XS.icmpNo X60.here hx rfl (hb hby at_32) rfl (flt hc).2.2.1 k) ?_
      refine own_st (V := T60.setTop (mkF m 36 #[.val (.int p1), .val (.int p2), .val (.int (8 : Int32)), .val (.ref (A 8)), .val (.int (p2.toInt16.toInt32)), .val (.int (2 : Int32)), .unset] [(.int (1 : Int32))])) (fun t k => XS.iconst X60.here hx rfl (hb hby at_35) k) ?_
      refine own_st (V := T60.setTop (mkF m 40 #[.val (.int p1), .val (.int p2), .val (.int (8 : Int32)), .val (.ref (A 8)), .val (.int (p2.toInt16.toInt32)), .val (.int (2 : Int32)), .unset] [(.int (1 : Int32))])) (fun t k => XS.goto X60.here hx rfl (pc0 := 36) (pc' := 40) rfl (hb hby at_36) (by decide) (by decide) k) ?_
      refine own_st (V := T60.setTop (mkF m 42 #[.val (.int p1), .val (.int p2), .val (.int (8 : Int32)), .val (.ref (A 8)), .val (.int (p2.toInt16.toInt32)), .val (.int (2 : Int32)), .val (.int (1 : Int32))] [])) (fun t k => XS.istore X60.here hx rfl (hb hby at_40) rfl (l' := #[.val (.int p1), .val (.int p2), .val (.int (8 : Int32)), .val (.ref (A 8)), .val (.int (p2.toInt16.toInt32)), .val (.int (2 : Int32)), .val (.int (1 : Int32))]) rfl k) ?_
      refine own_st (V := T60.setTop (mkF m 43 #[.val (.int p1), .val (.int p2), .val (.int (8 : Int32)), .val (.ref (A 8)), .val (.int (p2.toInt16.toInt32)), .val (.int (2 : Int32)), .val (.int (1 : Int32))] [(.ref (A 8))])) (fun t k => XS.aloadN X60.here hx rfl (hb hby at_42) rfl rfl k) ?_
      refine own_st (V := T60.setTop (mkF m 45 #[.val (.int p1), .val (.int p2), .val (.int (8 : Int32)), .val (.ref (A 8)), .val (.int (p2.toInt16.toInt32)), .val (.int (2 : Int32)), .val (.int (1 : Int32))] [(.int (p2.toInt16.toInt32)), (.ref (A 8))])) (fun t k => XS.iload X60.here hx rfl (hb hby at_43) rfl k) ?_
      obtain ⟨cq63, kq63, q63a, q63b, q63c⟩ := isOf hZ e60 (own_E En 8 (i := 8) (n := "LEAVE_GROUP") rfl)
      obtain ⟨_, _, ⟨T63, L63, k63, n63⟩, -, X63, ⟨Lc63, hQ63, l63, y63, z63⟩, st63⟩ := X60.virtualBack hx (y := (⟨"com/example/bhaga/bhaga/wire/Api", "serves", "(S)Z"⟩ : MethodName)) (z := (⟨"com/example/bhaga/bhaga/wire/Api", "serves", "(S)Z"⟩ : MethodName)) hown (mvT hZ (hw _ (List.mem_of_getElem? (i := 11) rfl))) (mvT hZ (hw _ (List.mem_of_getElem? (i := 12) rfl))) (notFace_of_selects (args := #[]) (mvT hZ (hw _ (List.mem_of_getElem? (i := 14) rfl)))) (mvT hZ (hw _ (List.mem_of_getElem? (i := 14) rfl))) (mvT hZ (hw _ (List.mem_of_getElem? (i := 13) rfl))) (by decide) (backOf (W := 0) (own_mc l Z a0 hw [] (A 8) (p2.toInt16.toInt32) (2 : Int32) h0 n0 Z0 (own_F0 En 8 (i := 8) (n := "LEAVE_GROUP") rfl) (own_F1 En 8 (i := 8) (n := "LEAVE_GROUP") rfl) ha hc) hZ (hw _ (List.mem_of_getElem? (i := 15) rfl)) (hw _ (List.mem_of_getElem? (i := 6) rfl)) (by decide) (by decide)) q63a q63c (g := (mkF m 45 #[.val (.int p1), .val (.int p2), .val (.int (8 : Int32)), .val (.ref (A 8)), .val (.int (p2.toInt16.toInt32)), .val (.int (2 : Int32)), .val (.int (1 : Int32))] [(.int (p2.toInt16.toInt32)), (.ref (A 8))])) rfl (by rw [hml]; rfl) (Steps.refl _) (argsL := [(.int (p2.toInt16.toInt32))]) (rest := []) (lenOf own_pd2 rfl) rfl (by show 2 * 0 + _ ≤ _; exact Nat.le_of_eq rfl) (hb hby at_45) (fun _ _ => ⟨rfl, e60, (by decide : 0 + 0 ≤ _), (by decide : 0 + 0 ≤ _)⟩)
      dsimp only [Pt.U, Pt.locs, Pt.cells, Pt.slots] at X63 l63 y63 z63 st63 hQ63
      subst l63 y63 z63
      obtain ⟨rfl, N63q, e63⟩ := hQ63
      have N63 := Fr.app N60 N63q
      refine own_st (V := T63.setTop (mkF m 48 #[.val (.int p1), .val (.int p2), .val (.int (8 : Int32)), .val (.ref (A 8)), .val (.int (p2.toInt16.toInt32)), .val (.int (2 : Int32)), .val (.int (1 : Int32))] [(.int (1 : Int32))])) (fun t k => st63.trans k) ?_
      refine own_st (V := T63.setTop (mkF m 50 #[.val (.int p1), .val (.int p2), .val (.int (8 : Int32)), .val (.ref (A 8)), .val (.int (p2.toInt16.toInt32)), .val (.int (2 : Int32)), .val (.int (1 : Int32))] [(.int (1 : Int32)), (.int (1 : Int32))])) (fun t k => XS.iload X63.here hx rfl (hb hby at_48) rfl k) ?_
      refine own_st (V := T63.setTop (mkF m 53 #[.val (.int p1), .val (.int p2), .val (.int (8 : Int32)), .val (.ref (A 8)), .val (.int (p2.toInt16.toInt32)), .val (.int (2 : Int32)), .val (.int (1 : Int32))] [])) (fun t k => XS.icmpNo X63.here hx rfl (hb hby at_50) rfl (teq (by decide : (1 : Int32) = (1 : Int32))).2 k) ?_
      refine own_st (V := T63.setTop (mkF m 54 #[.val (.int p1), .val (.int p2), .val (.int (8 : Int32)), .val (.ref (A 8)), .val (.int (p2.toInt16.toInt32)), .val (.int (2 : Int32)), .val (.int (1 : Int32))] [(.int (1 : Int32))])) (fun t k => XS.iconst X63.here hx rfl (hb hby at_53) k) ?_
      refine own_st (V := T63.setTop (mkF m 58 #[.val (.int p1), .val (.int p2), .val (.int (8 : Int32)), .val (.ref (A 8)), .val (.int (p2.toInt16.toInt32)), .val (.int (2 : Int32)), .val (.int (1 : Int32))] [(.int (1 : Int32))])) (fun t k => XS.goto X63.here hx rfl (pc0 := 54) (pc' := 58) rfl (hb hby at_54) (by decide) (by decide) k) ?_
      exact own_ret X63 hx hlk Bd.returns (by decide +kernel) (Or.inl ⟨rfl, by simp, _, rfl⟩) (hb hby at_58) (by decide) (by decide) (by show own_Q0 Z p1 p2 A h0 n0 _ T63.heap _; rw [e63]; exact ⟨rfl, N63⟩)
set_option maxRecDepth 65536 in
set_option maxHeartbeats 40000000 in
theorem own_law9 (l : Launch) (Z : State) (a0 : Array Value) (hw : ∀ d ∈ tables_1, d.before a0 Z = true) (ws : List Jvm.Cond) (p1 : Int32) (p2 : Int32) (A : Nat → Addr) (h0 : Heap) (n0 : Nat) (Z0 : n0 ≤ h0.size) (En : own_En Z h0 A) (hk : ((p1 &&& (2147483647 : Int32)) % (13 : Int32)) = (9 : Int32)) :
    MetFree l x (head1 (Jvm.Cond.code x code maxLocals ret :: ws) room_1) (fun a U => a = #[(.int p1), (.int p2)] ∧ Z.Warmed39 U.vm ∧ U.heap = h0) (fun _ _ _ _ _ => True) (fun _ U o U' => ∃ v L, o = .returned v ∧ own_Q0 Z p1 p2 A h0 n0 v U'.heap L ∧ FrameEnd U o U' L room_1.cells room_1.slots) := by
  refine MetFree.of_bodySF (plainFor_of_name own_pn_com_example_bhaga_bhaga_wire_ApiServesPinLaw) hisR ?_
  intro p e s m args below meth c s₁ Bd hml0 hP hK
  obtain ⟨rfl, hZ, hh⟩ := hP
  have hx := Bd.exec
  have hby := Bd.bytes
  have hml : c.maxLocals = 7 := hml0
  have hown : s.vm.findClass "com/example/bhaga/bhaga/wire/ApiServesPinLaw" = some m.cls := findClass_of_methodNamed Bd.named
  have hnm := (name_of_methodNamed Bd.named Bd.method).1
  have hlk : meth.locks = false := BodyLoose.notSynchronized Bd
  have X0 : Stand p l e room_1 s m #[(.int p1), (.int p2)] below meth c s₁ [] 0 0 := Stand.of_body Bd
  have e0 : s₁.heap = h0 := by rw [← hh, Bd.state]; rfl
  have N0 := Fr.nil n0
  show own_Go p e below #[(.int p1), (.int p2)] s (fun _ U o U' => ∃ v L, o = .returned v ∧ own_Q0 Z p1 p2 A h0 n0 v U'.heap L ∧ FrameEnd U o U' L room_1.cells room_1.slots) (s₁.setTop (entryFrame m #[(.int p1), (.int p2)] maxLocals))
  refine own_st (V := s₁.setTop (mkF m 0 #[.val (.int p1), .val (.int p2), .unset, .unset, .unset, .unset, .unset] [])) (fun t k => castTop (by first | (simp [entryFrame, mkF, argsToLocals, Value.category, maxLocals]; done) | rfl) k) ?_
  refine own_st (V := s₁.setTop (mkF m 1 #[.val (.int p1), .val (.int p2), .unset, .unset, .unset, .unset, .unset] [(.int p1)])) (fun t k => XS.iloadN X0.here hx rfl (hb hby at_0) rfl k) ?_
  refine own_st (V := s₁.setTop (mkF m 3 #[.val (.int p1), .val (.int p2), .unset, .unset, .unset, .unset, .unset] [(.int (2147483647 : Int32)), (.int p1)])) (fun t k => X0.ldcInt hx hown (mvT hZ (hw _ (List.mem_of_getElem? (i := 0) rfl))) (g := (mkF m 1 #[.val (.int p1), .val (.int p2), .unset, .unset, .unset, .unset, .unset] [(.int p1)])) rfl (hb hby at_1) t k) ?_
  refine own_st (V := s₁.setTop (mkF m 4 #[.val (.int p1), .val (.int p2), .unset, .unset, .unset, .unset, .unset] [(.int (p1 &&& (2147483647 : Int32)))])) (fun t k => XS.iand X0.here hx rfl (hb hby at_3) rfl k) ?_
  refine own_st (V := s₁.setTop (mkF m 6 #[.val (.int p1), .val (.int p2), .unset, .unset, .unset, .unset, .unset] [(.int (13 : Int32)), (.int (p1 &&& (2147483647 : Int32)))])) (fun t k => XS.bipush X0.here hx rfl (hb hby at_4) k) ?_
  refine own_st (V := s₁.setTop (mkF m 7 #[.val (.int p1), .val (.int p2), .unset, .unset, .unset, .unset, .unset] [(.int ((p1 &&& (2147483647 : Int32)) % (13 : Int32)))])) (fun t k => Jvm.RoadKit.iremM X0 hx rfl (hb hby at_6) rfl (by decide) k) ?_
  rw [hk]
  refine own_st (V := s₁.setTop (mkF m 8 #[.val (.int p1), .val (.int p2), .val (.int (9 : Int32)), .unset, .unset, .unset, .unset] [])) (fun t k => XS.istoreN X0.here hx rfl (hb hby at_7) rfl (l' := #[.val (.int p1), .val (.int p2), .val (.int (9 : Int32)), .unset, .unset, .unset, .unset]) rfl k) ?_
  refine own_st (V := s₁.setTop (mkF m 9 #[.val (.int p1), .val (.int p2), .val (.int (9 : Int32)), .unset, .unset, .unset, .unset] [(.int (9 : Int32))])) (fun t k => XS.iloadN X0.here hx rfl (hb hby at_8) rfl k) ?_
  obtain ⟨_, _, ⟨T64, L64, k64, n64⟩, -, X64, ⟨Lc64, hQ64, l64, y64, z64⟩, st64⟩ := Jvm.LawKit.callS X0 hx (y := (⟨"com/example/bhaga/bhaga/wire/ApiServesPinLaw", "pick", "(I)Lcom/example/bhaga/bhaga/wire/Api;"⟩ : MethodName)) hown (mvT hZ (hw _ (List.mem_of_getElem? (i := 1) rfl))) (mvT hZ (hw _ (List.mem_of_getElem? (i := 2) rfl))) (mvT hZ (hw _ (List.mem_of_getElem? (i := 3) rfl))) (mvT hZ (hw _ (List.mem_of_getElem? (i := 4) rfl))) (by decide) (backOf (W := 0) (own_pick9 l Z a0 hw [] A h0 n0 Z0 En ) hZ (hw _ (List.mem_of_getElem? (i := 4) rfl)) (hw _ (List.mem_of_getElem? (i := 3) rfl)) (by decide) (by decide)) (g := (mkF m 9 #[.val (.int p1), .val (.int p2), .val (.int (9 : Int32)), .unset, .unset, .unset, .unset] [(.int (9 : Int32))])) rfl (by rw [hml]; rfl) (argsL := [(.int (9 : Int32))]) (rest := []) (lenOf own_pd0 rfl) rfl (by show 2 * 0 + _ ≤ _; exact Nat.le_of_eq rfl) (hb hby at_9) (fun _ _ => ⟨rfl, e0, (by decide : 0 + 0 ≤ _), (by decide : 0 + 0 ≤ _)⟩)
  dsimp only [Pt.U, Pt.locs, Pt.cells, Pt.slots] at X64 l64 y64 z64 st64 hQ64
  subst l64 y64 z64
  obtain ⟨rfl, N64q, e64⟩ := hQ64
  have N64 := Fr.app N0 N64q
  refine own_st (V := T64.setTop (mkF m 12 #[.val (.int p1), .val (.int p2), .val (.int (9 : Int32)), .unset, .unset, .unset, .unset] [(.ref (A 9))])) (fun t k => st64 _ k) ?_
  refine own_st (V := T64.setTop (mkF m 13 #[.val (.int p1), .val (.int p2), .val (.int (9 : Int32)), .val (.ref (A 9)), .unset, .unset, .unset] [])) (fun t k => XS.astoreN X64.here hx rfl (hb hby at_12) rfl rfl (l' := #[.val (.int p1), .val (.int p2), .val (.int (9 : Int32)), .val (.ref (A 9)), .unset, .unset, .unset]) rfl k) ?_
  refine own_st (V := T64.setTop (mkF m 14 #[.val (.int p1), .val (.int p2), .val (.int (9 : Int32)), .val (.ref (A 9)), .unset, .unset, .unset] [(.int p2)])) (fun t k => XS.iloadN X64.here hx rfl (hb hby at_13) rfl k) ?_
  refine own_st (V := T64.setTop (mkF m 15 #[.val (.int p1), .val (.int p2), .val (.int (9 : Int32)), .val (.ref (A 9)), .unset, .unset, .unset] [(.int (p2.toInt16.toInt32))])) (fun t k => XS.i2s X64.here hx rfl (hb hby at_14) rfl k) ?_
  refine own_st (V := T64.setTop (mkF m 17 #[.val (.int p1), .val (.int p2), .val (.int (9 : Int32)), .val (.ref (A 9)), .val (.int (p2.toInt16.toInt32)), .unset, .unset] [])) (fun t k => XS.istore X64.here hx rfl (hb hby at_15) rfl (l' := #[.val (.int p1), .val (.int p2), .val (.int (9 : Int32)), .val (.ref (A 9)), .val (.int (p2.toInt16.toInt32)), .unset, .unset]) rfl k) ?_
  refine own_st (V := T64.setTop (mkF m 18 #[.val (.int p1), .val (.int p2), .val (.int (9 : Int32)), .val (.ref (A 9)), .val (.int (p2.toInt16.toInt32)), .unset, .unset] [(.int (9 : Int32))])) (fun t k => XS.iloadN X64.here hx rfl (hb hby at_17) rfl k) ?_
  obtain ⟨_, _, ⟨T65, L65, k65, n65⟩, -, X65, ⟨Lc65, hQ65, l65, y65, z65⟩, st65⟩ := Jvm.LawKit.callS X64 hx (y := (⟨"com/example/bhaga/bhaga/wire/ApiServesPinLaw", "expectedMax", "(I)I"⟩ : MethodName)) hown (mvT hZ (hw _ (List.mem_of_getElem? (i := 8) rfl))) (mvT hZ (hw _ (List.mem_of_getElem? (i := 9) rfl))) (mvT hZ (hw _ (List.mem_of_getElem? (i := 3) rfl))) (mvT hZ (hw _ (List.mem_of_getElem? (i := 10) rfl))) (by decide) (backOf (W := 0) (own_em9 l Z a0 hw [] h0 n0 Z0 ) hZ (hw _ (List.mem_of_getElem? (i := 10) rfl)) (hw _ (List.mem_of_getElem? (i := 3) rfl)) (by decide) (by decide)) (g := (mkF m 18 #[.val (.int p1), .val (.int p2), .val (.int (9 : Int32)), .val (.ref (A 9)), .val (.int (p2.toInt16.toInt32)), .unset, .unset] [(.int (9 : Int32))])) rfl (by rw [hml]; rfl) (argsL := [(.int (9 : Int32))]) (rest := []) (lenOf own_pd1 rfl) rfl (by show 2 * 0 + _ ≤ _; exact Nat.le_of_eq rfl) (hb hby at_18) (fun _ _ => ⟨rfl, e64, (by decide : 0 + 0 ≤ _), (by decide : 0 + 0 ≤ _)⟩)
  dsimp only [Pt.U, Pt.locs, Pt.cells, Pt.slots] at X65 l65 y65 z65 st65 hQ65
  subst l65 y65 z65
  obtain ⟨rfl, N65q, e65⟩ := hQ65
  have N65 := Fr.app N64 N65q
  refine own_st (V := T65.setTop (mkF m 21 #[.val (.int p1), .val (.int p2), .val (.int (9 : Int32)), .val (.ref (A 9)), .val (.int (p2.toInt16.toInt32)), .unset, .unset] [(.int (2 : Int32))])) (fun t k => st65 _ k) ?_
  refine own_st (V := T65.setTop (mkF m 23 #[.val (.int p1), .val (.int p2), .val (.int (9 : Int32)), .val (.ref (A 9)), .val (.int (p2.toInt16.toInt32)), .val (.int (2 : Int32)), .unset] [])) (fun t k => XS.istore X65.here hx rfl (hb hby at_21) rfl (l' := #[.val (.int p1), .val (.int p2), .val (.int (9 : Int32)), .val (.ref (A 9)), .val (.int (p2.toInt16.toInt32)), .val (.int (2 : Int32)), .unset]) rfl k) ?_
  refine own_st (V := T65.setTop (mkF m 25 #[.val (.int p1), .val (.int p2), .val (.int (9 : Int32)), .val (.ref (A 9)), .val (.int (p2.toInt16.toInt32)), .val (.int (2 : Int32)), .unset] [(.int (p2.toInt16.toInt32))])) (fun t k => XS.iload X65.here hx rfl (hb hby at_23) rfl k) ?_
  by_cases ha : (p2.toInt16.toInt32) < (0 : Int32)
  · refine own_st (V := T65.setTop (mkF m 39 #[.val (.int p1), .val (.int p2), .val (.int (9 : Int32)), .val (.ref (A 9)), .val (.int (p2.toInt16.toInt32)), .val (.int (2 : Int32)), .unset] [])) (fun t k => XS.ifYes X65.here hx rfl (pc0 := 25) (pc' := 39) rfl (hb hby at_25) rfl ((if0 _ _).trans (tlt ha).1) (by decide) (by decide) k) ?_
    refine own_st (V := T65.setTop (mkF m 40 #[.val (.int p1), .val (.int p2), .val (.int (9 : Int32)), .val (.ref (A 9)), .val (.int (p2.toInt16.toInt32)), .val (.int (2 : Int32)), .unset] [(.int (0 : Int32))])) (fun t k => XS.iconst X65.here hx rfl (hb hby at_39) k) ?_
    refine own_st (V := T65.setTop (mkF m 42 #[.val (.int p1), .val (.int p2), .val (.int (9 : Int32)), .val (.ref (A 9)), .val (.int (p2.toInt16.toInt32)), .val (.int (2 : Int32)), .val (.int (0 : Int32))] [])) (fun t k => XS.istore X65.here hx rfl (hb hby at_40) rfl (l' := #[.val (.int p1), .val (.int p2), .val (.int (9 : Int32)), .val (.ref (A 9)), .val (.int (p2.toInt16.toInt32)), .val (.int (2 : Int32)), .val (.int (0 : Int32))]) rfl k) ?_
    refine own_st (V := T65.setTop (mkF m 43 #[.val (.int p1), .val (.int p2), .val (.int (9 : Int32)), .val (.ref (A 9)), .val (.int (p2.toInt16.toInt32)), .val (.int (2 : Int32)), .val (.int (0 : Int32))] [(.ref (A 9))])) (fun t k => XS.aloadN X65.here hx rfl (hb hby at_42) rfl rfl k) ?_
    refine own_st (V := T65.setTop (mkF m 45 #[.val (.int p1), .val (.int p2), .val (.int (9 : Int32)), .val (.ref (A 9)), .val (.int (p2.toInt16.toInt32)), .val (.int (2 : Int32)), .val (.int (0 : Int32))] [(.int (p2.toInt16.toInt32)), (.ref (A 9))])) (fun t k => XS.iload X65.here hx rfl (hb hby at_43) rfl k) ?_
    obtain ⟨cq66, kq66, q66a, q66b, q66c⟩ := isOf hZ e65 (own_E En 9 (i := 9) (n := "SYNC_GROUP") rfl)
    obtain ⟨_, _, ⟨T66, L66, k66, n66⟩, -, X66, ⟨Lc66, hQ66, l66, y66, z66⟩, st66⟩ := X65.virtualBack hx (y := (⟨"com/example/bhaga/bhaga/wire/Api", "serves", "(S)Z"⟩ : MethodName)) (z := (⟨"com/example/bhaga/bhaga/wire/Api", "serves", "(S)Z"⟩ : MethodName)) hown (mvT hZ (hw _ (List.mem_of_getElem? (i := 11) rfl))) (mvT hZ (hw _ (List.mem_of_getElem? (i := 12) rfl))) (notFace_of_selects (args := #[]) (mvT hZ (hw _ (List.mem_of_getElem? (i := 14) rfl)))) (mvT hZ (hw _ (List.mem_of_getElem? (i := 14) rfl))) (mvT hZ (hw _ (List.mem_of_getElem? (i := 13) rfl))) (by decide) (backOf (W := 0) (own_ma l Z a0 hw [] (A 9) (p2.toInt16.toInt32) (2 : Int32) h0 n0 Z0 (own_F0 En 9 (i := 9) (n := "SYNC_GROUP") rfl) (own_F1 En 9 (i := 9) (n := "SYNC_GROUP") rfl) ha) hZ (hw _ (List.mem_of_getElem? (i := 15) rfl)) (hw _ (List.mem_of_getElem? (i := 6) rfl)) (by decide) (by decide)) q66a q66c (g := (mkF m 45 #[.val (.int p1), .val (.int p2), .val (.int (9 : Int32)), .val (.ref (A 9)), .val (.int (p2.toInt16.toInt32)), .val (.int (2 : Int32)), .val (.int (0 : Int32))] [(.int (p2.toInt16.toInt32)), (.ref (A 9))])) rfl (by rw [hml]; rfl) (Steps.refl _) (argsL := [(.int (p2.toInt16.toInt32))]) (rest := []) (lenOf own_pd2 rfl) rfl (by show 2 * 0 + _ ≤ _; exact Nat.le_of_eq rfl) (hb hby at_45) (fun _ _ => ⟨rfl, e65, (by decide : 0 + 0 ≤ _), (by decide : 0 + 0 ≤ _)⟩)
    dsimp only [Pt.U, Pt.locs, Pt.cells, Pt.slots] at X66 l66 y66 z66 st66 hQ66
    subst l66 y66 z66
    obtain ⟨rfl, N66q, e66⟩ := hQ66
    have N66 := Fr.app N65 N66q
    refine own_st (V := T66.setTop (mkF m 48 #[.val (.int p1), .val (.int p2), .val (.int (9 : Int32)), .val (.ref (A 9)), .val (.int (p2.toInt16.toInt32)), .val (.int (2 : Int32)), .val (.int (0 : Int32))] [(.int (0 : Int32))])) (fun t k => st66.trans k) ?_
    refine own_st (V := T66.setTop (mkF m 50 #[.val (.int p1), .val (.int p2), .val (.int (9 : Int32)), .val (.ref (A 9)), .val (.int (p2.toInt16.toInt32)), .val (.int (2 : Int32)), .val (.int (0 : Int32))] [(.int (0 : Int32)), (.int (0 : Int32))])) (fun t k => XS.iload X66.here hx rfl (hb hby at_48) rfl k) ?_
    refine own_st (V := T66.setTop (mkF m 53 #[.val (.int p1), .val (.int p2), .val (.int (9 : Int32)), .val (.ref (A 9)), .val (.int (p2.toInt16.toInt32)), .val (.int (2 : Int32)), .val (.int (0 : Int32))] [])) (fun t k => XS.icmpNo X66.here hx rfl (hb hby at_50) rfl (teq (by decide : (0 : Int32) = (0 : Int32))).2 k) ?_
    refine own_st (V := T66.setTop (mkF m 54 #[.val (.int p1), .val (.int p2), .val (.int (9 : Int32)), .val (.ref (A 9)), .val (.int (p2.toInt16.toInt32)), .val (.int (2 : Int32)), .val (.int (0 : Int32))] [(.int (1 : Int32))])) (fun t k => XS.iconst X66.here hx rfl (hb hby at_53) k) ?_
    refine own_st (V := T66.setTop (mkF m 58 #[.val (.int p1), .val (.int p2), .val (.int (9 : Int32)), .val (.ref (A 9)), .val (.int (p2.toInt16.toInt32)), .val (.int (2 : Int32)), .val (.int (0 : Int32))] [(.int (1 : Int32))])) (fun t k => XS.goto X66.here hx rfl (pc0 := 54) (pc' := 58) rfl (hb hby at_54) (by decide) (by decide) k) ?_
    exact own_ret X66 hx hlk Bd.returns (by decide +kernel) (Or.inl ⟨rfl, by simp, _, rfl⟩) (hb hby at_58) (by decide) (by decide) (by show own_Q0 Z p1 p2 A h0 n0 _ T66.heap _; rw [e66]; exact ⟨rfl, N66⟩)
  · refine own_st (V := T65.setTop (mkF m 28 #[.val (.int p1), .val (.int p2), .val (.int (9 : Int32)), .val (.ref (A 9)), .val (.int (p2.toInt16.toInt32)), .val (.int (2 : Int32)), .unset] [])) (fun t k => XS.ifNo X65.here hx rfl (hb hby at_25) rfl ((if0 _ _).trans (flt ha).1) k) ?_
    refine own_st (V := T65.setTop (mkF m 30 #[.val (.int p1), .val (.int p2), .val (.int (9 : Int32)), .val (.ref (A 9)), .val (.int (p2.toInt16.toInt32)), .val (.int (2 : Int32)), .unset] [(.int (p2.toInt16.toInt32))])) (fun t k => XS.iload X65.here hx rfl (hb hby at_28) rfl k) ?_
    refine own_st (V := T65.setTop (mkF m 32 #[.val (.int p1), .val (.int p2), .val (.int (9 : Int32)), .val (.ref (A 9)), .val (.int (p2.toInt16.toInt32)), .val (.int (2 : Int32)), .unset] [(.int (2 : Int32)), (.int (p2.toInt16.toInt32))])) (fun t k => XS.iload X65.here hx rfl (hb hby at_30) rfl k) ?_
    by_cases hc : (2 : Int32) < (p2.toInt16.toInt32)
    · refine own_st (V := T65.setTop (mkF m 39 #[.val (.int p1), .val (.int p2), .val (.int (9 : Int32)), .val (.ref (A 9)), .val (.int (p2.toInt16.toInt32)), .val (.int (2 : Int32)), .unset] [])) (fun t k => XS.icmpYes X65.here hx rfl (pc0 := 32) (pc' := 39) rfl (hb hby at_32) rfl (tlt hc).2.2.1 (by decide) (by decide) k) ?_
      refine own_st (V := T65.setTop (mkF m 40 #[.val (.int p1), .val (.int p2), .val (.int (9 : Int32)), .val (.ref (A 9)), .val (.int (p2.toInt16.toInt32)), .val (.int (2 : Int32)), .unset] [(.int (0 : Int32))])) (fun t k => XS.iconst X65.here hx rfl (hb hby at_39) k) ?_
      refine own_st (V := T65.setTop (mkF m 42 #[.val (.int p1), .val (.int p2), .val (.int (9 : Int32)), .val (.ref (A 9)), .val (.int (p2.toInt16.toInt32)), .val (.int (2 : Int32)), .val (.int (0 : Int32))] [])) (fun t k => XS.istore X65.here hx rfl (hb hby at_40) rfl (l' := #[.val (.int p1), .val (.int p2), .val (.int (9 : Int32)), .val (.ref (A 9)), .val (.int (p2.toInt16.toInt32)), .val (.int (2 : Int32)), .val (.int (0 : Int32))]) rfl k) ?_
      refine own_st (V := T65.setTop (mkF m 43 #[.val (.int p1), .val (.int p2), .val (.int (9 : Int32)), .val (.ref (A 9)), .val (.int (p2.toInt16.toInt32)), .val (.int (2 : Int32)), .val (.int (0 : Int32))] [(.ref (A 9))])) (fun t k => XS.aloadN X65.here hx rfl (hb hby at_42) rfl rfl k) ?_
      refine own_st (V := T65.setTop (mkF m 45 #[.val (.int p1), .val (.int p2), .val (.int (9 : Int32)), .val (.ref (A 9)), .val (.int (p2.toInt16.toInt32)), .val (.int (2 : Int32)), .val (.int (0 : Int32))] [(.int (p2.toInt16.toInt32)), (.ref (A 9))])) (fun t k => XS.iload X65.here hx rfl (hb hby at_43) rfl k) ?_
      obtain ⟨cq67, kq67, q67a, q67b, q67c⟩ := isOf hZ e65 (own_E En 9 (i := 9) (n := "SYNC_GROUP") rfl)
      obtain ⟨_, _, ⟨T67, L67, k67, n67⟩, -, X67, ⟨Lc67, hQ67, l67, y67, z67⟩, st67⟩ := X65.virtualBack hx (y := (⟨"com/example/bhaga/bhaga/wire/Api", "serves", "(S)Z"⟩ : MethodName)) (z := (⟨"com/example/bhaga/bhaga/wire/Api", "serves", "(S)Z"⟩ : MethodName)) hown (mvT hZ (hw _ (List.mem_of_getElem? (i := 11) rfl))) (mvT hZ (hw _ (List.mem_of_getElem? (i := 12) rfl))) (notFace_of_selects (args := #[]) (mvT hZ (hw _ (List.mem_of_getElem? (i := 14) rfl)))) (mvT hZ (hw _ (List.mem_of_getElem? (i := 14) rfl))) (mvT hZ (hw _ (List.mem_of_getElem? (i := 13) rfl))) (by decide) (backOf (W := 0) (own_mb l Z a0 hw [] (A 9) (p2.toInt16.toInt32) (2 : Int32) h0 n0 Z0 (own_F0 En 9 (i := 9) (n := "SYNC_GROUP") rfl) (own_F1 En 9 (i := 9) (n := "SYNC_GROUP") rfl) ha hc) hZ (hw _ (List.mem_of_getElem? (i := 15) rfl)) (hw _ (List.mem_of_getElem? (i := 6) rfl)) (by decide) (by decide)) q67a q67c (g := (mkF m 45 #[.val (.int p1), .val (.int p2), .val (.int (9 : Int32)), .val (.ref (A 9)), .val (.int (p2.toInt16.toInt32)), .val (.int (2 : Int32)), .val (.int (0 : Int32))] [(.int (p2.toInt16.toInt32)), (.ref (A 9))])) rfl (by rw [hml]; rfl) (Steps.refl _) (argsL := [(.int (p2.toInt16.toInt32))]) (rest := []) (lenOf own_pd2 rfl) rfl (by show 2 * 0 + _ ≤ _; exact Nat.le_of_eq rfl) (hb hby at_45) (fun _ _ => ⟨rfl, e65, (by decide : 0 + 0 ≤ _), (by decide : 0 + 0 ≤ _)⟩)
      dsimp only [Pt.U, Pt.locs, Pt.cells, Pt.slots] at X67 l67 y67 z67 st67 hQ67
      subst l67 y67 z67
      obtain ⟨rfl, N67q, e67⟩ := hQ67
      have N67 := Fr.app N65 N67q
      refine own_st (V := T67.setTop (mkF m 48 #[.val (.int p1), .val (.int p2), .val (.int (9 : Int32)), .val (.ref (A 9)), .val (.int (p2.toInt16.toInt32)), .val (.int (2 : Int32)), .val (.int (0 : Int32))] [(.int (0 : Int32))])) (fun t k => st67.trans k) ?_
      refine own_st (V := T67.setTop (mkF m 50 #[.val (.int p1), .val (.int p2), .val (.int (9 : Int32)), .val (.ref (A 9)), .val (.int (p2.toInt16.toInt32)), .val (.int (2 : Int32)), .val (.int (0 : Int32))] [(.int (0 : Int32)), (.int (0 : Int32))])) (fun t k => XS.iload X67.here hx rfl (hb hby at_48) rfl k) ?_
      refine own_st (V := T67.setTop (mkF m 53 #[.val (.int p1), .val (.int p2), .val (.int (9 : Int32)), .val (.ref (A 9)), .val (.int (p2.toInt16.toInt32)), .val (.int (2 : Int32)), .val (.int (0 : Int32))] [])) (fun t k => XS.icmpNo X67.here hx rfl (hb hby at_50) rfl (teq (by decide : (0 : Int32) = (0 : Int32))).2 k) ?_
      refine own_st (V := T67.setTop (mkF m 54 #[.val (.int p1), .val (.int p2), .val (.int (9 : Int32)), .val (.ref (A 9)), .val (.int (p2.toInt16.toInt32)), .val (.int (2 : Int32)), .val (.int (0 : Int32))] [(.int (1 : Int32))])) (fun t k => XS.iconst X67.here hx rfl (hb hby at_53) k) ?_
      refine own_st (V := T67.setTop (mkF m 58 #[.val (.int p1), .val (.int p2), .val (.int (9 : Int32)), .val (.ref (A 9)), .val (.int (p2.toInt16.toInt32)), .val (.int (2 : Int32)), .val (.int (0 : Int32))] [(.int (1 : Int32))])) (fun t k => XS.goto X67.here hx rfl (pc0 := 54) (pc' := 58) rfl (hb hby at_54) (by decide) (by decide) k) ?_
      exact own_ret X67 hx hlk Bd.returns (by decide +kernel) (Or.inl ⟨rfl, by simp, _, rfl⟩) (hb hby at_58) (by decide) (by decide) (by show own_Q0 Z p1 p2 A h0 n0 _ T67.heap _; rw [e67]; exact ⟨rfl, N67⟩)
    · refine own_st (V := T65.setTop (mkF m 35 #[.val (.int p1), .val (.int p2), .val (.int (9 : Int32)), .val (.ref (A 9)), .val (.int (p2.toInt16.toInt32)), .val (.int (2 : Int32)), .unset] [])) (fun t k => XS.icmpNo X65.here hx rfl (hb hby at_32) rfl (flt hc).2.2.1 k) ?_
      refine own_st (V := T65.setTop (mkF m 36 #[.val (.int p1), .val (.int p2), .val (.int (9 : Int32)), .val (.ref (A 9)), .val (.int (p2.toInt16.toInt32)), .val (.int (2 : Int32)), .unset] [(.int (1 : Int32))])) (fun t k => XS.iconst X65.here hx rfl (hb hby at_35) k) ?_
      refine own_st (V := T65.setTop (mkF m 40 #[.val (.int p1), .val (.int p2), .val (.int (9 : Int32)), .val (.ref (A 9)), .val (.int (p2.toInt16.toInt32)), .val (.int (2 : Int32)), .unset] [(.int (1 : Int32))])) (fun t k => XS.goto X65.here hx rfl (pc0 := 36) (pc' := 40) rfl (hb hby at_36) (by decide) (by decide) k) ?_
      refine own_st (V := T65.setTop (mkF m 42 #[.val (.int p1), .val (.int p2), .val (.int (9 : Int32)), .val (.ref (A 9)), .val (.int (p2.toInt16.toInt32)), .val (.int (2 : Int32)), .val (.int (1 : Int32))] [])) (fun t k => XS.istore X65.here hx rfl (hb hby at_40) rfl (l' := #[.val (.int p1), .val (.int p2), .val (.int (9 : Int32)), .val (.ref (A 9)), .val (.int (p2.toInt16.toInt32)), .val (.int (2 : Int32)), .val (.int (1 : Int32))]) rfl k) ?_
      refine own_st (V := T65.setTop (mkF m 43 #[.val (.int p1), .val (.int p2), .val (.int (9 : Int32)), .val (.ref (A 9)), .val (.int (p2.toInt16.toInt32)), .val (.int (2 : Int32)), .val (.int (1 : Int32))] [(.ref (A 9))])) (fun t k => XS.aloadN X65.here hx rfl (hb hby at_42) rfl rfl k) ?_
      refine own_st (V := T65.setTop (mkF m 45 #[.val (.int p1), .val (.int p2), .val (.int (9 : Int32)), .val (.ref (A 9)), .val (.int (p2.toInt16.toInt32)), .val (.int (2 : Int32)), .val (.int (1 : Int32))] [(.int (p2.toInt16.toInt32)), (.ref (A 9))])) (fun t k => XS.iload X65.here hx rfl (hb hby at_43) rfl k) ?_
      obtain ⟨cq68, kq68, q68a, q68b, q68c⟩ := isOf hZ e65 (own_E En 9 (i := 9) (n := "SYNC_GROUP") rfl)
      obtain ⟨_, _, ⟨T68, L68, k68, n68⟩, -, X68, ⟨Lc68, hQ68, l68, y68, z68⟩, st68⟩ := X65.virtualBack hx (y := (⟨"com/example/bhaga/bhaga/wire/Api", "serves", "(S)Z"⟩ : MethodName)) (z := (⟨"com/example/bhaga/bhaga/wire/Api", "serves", "(S)Z"⟩ : MethodName)) hown (mvT hZ (hw _ (List.mem_of_getElem? (i := 11) rfl))) (mvT hZ (hw _ (List.mem_of_getElem? (i := 12) rfl))) (notFace_of_selects (args := #[]) (mvT hZ (hw _ (List.mem_of_getElem? (i := 14) rfl)))) (mvT hZ (hw _ (List.mem_of_getElem? (i := 14) rfl))) (mvT hZ (hw _ (List.mem_of_getElem? (i := 13) rfl))) (by decide) (backOf (W := 0) (own_mc l Z a0 hw [] (A 9) (p2.toInt16.toInt32) (2 : Int32) h0 n0 Z0 (own_F0 En 9 (i := 9) (n := "SYNC_GROUP") rfl) (own_F1 En 9 (i := 9) (n := "SYNC_GROUP") rfl) ha hc) hZ (hw _ (List.mem_of_getElem? (i := 15) rfl)) (hw _ (List.mem_of_getElem? (i := 6) rfl)) (by decide) (by decide)) q68a q68c (g := (mkF m 45 #[.val (.int p1), .val (.int p2), .val (.int (9 : Int32)), .val (.ref (A 9)), .val (.int (p2.toInt16.toInt32)), .val (.int (2 : Int32)), .val (.int (1 : Int32))] [(.int (p2.toInt16.toInt32)), (.ref (A 9))])) rfl (by rw [hml]; rfl) (Steps.refl _) (argsL := [(.int (p2.toInt16.toInt32))]) (rest := []) (lenOf own_pd2 rfl) rfl (by show 2 * 0 + _ ≤ _; exact Nat.le_of_eq rfl) (hb hby at_45) (fun _ _ => ⟨rfl, e65, (by decide : 0 + 0 ≤ _), (by decide : 0 + 0 ≤ _)⟩)
      dsimp only [Pt.U, Pt.locs, Pt.cells, Pt.slots] at X68 l68 y68 z68 st68 hQ68
      subst l68 y68 z68
      obtain ⟨rfl, N68q, e68⟩ := hQ68
      have N68 := Fr.app N65 N68q
      refine own_st (V := T68.setTop (mkF m 48 #[.val (.int p1), .val (.int p2), .val (.int (9 : Int32)), .val (.ref (A 9)), .val (.int (p2.toInt16.toInt32)), .val (.int (2 : Int32)), .val (.int (1 : Int32))] [(.int (1 : Int32))])) (fun t k => st68.trans k) ?_
      refine own_st (V := T68.setTop (mkF m 50 #[.val (.int p1), .val (.int p2), .val (.int (9 : Int32)), .val (.ref (A 9)), .val (.int (p2.toInt16.toInt32)), .val (.int (2 : Int32)), .val (.int (1 : Int32))] [(.int (1 : Int32)), (.int (1 : Int32))])) (fun t k => XS.iload X68.here hx rfl (hb hby at_48) rfl k) ?_
      refine own_st (V := T68.setTop (mkF m 53 #[.val (.int p1), .val (.int p2), .val (.int (9 : Int32)), .val (.ref (A 9)), .val (.int (p2.toInt16.toInt32)), .val (.int (2 : Int32)), .val (.int (1 : Int32))] [])) (fun t k => XS.icmpNo X68.here hx rfl (hb hby at_50) rfl (teq (by decide : (1 : Int32) = (1 : Int32))).2 k) ?_
      refine own_st (V := T68.setTop (mkF m 54 #[.val (.int p1), .val (.int p2), .val (.int (9 : Int32)), .val (.ref (A 9)), .val (.int (p2.toInt16.toInt32)), .val (.int (2 : Int32)), .val (.int (1 : Int32))] [(.int (1 : Int32))])) (fun t k => XS.iconst X68.here hx rfl (hb hby at_53) k) ?_
      refine own_st (V := T68.setTop (mkF m 58 #[.val (.int p1), .val (.int p2), .val (.int (9 : Int32)), .val (.ref (A 9)), .val (.int (p2.toInt16.toInt32)), .val (.int (2 : Int32)), .val (.int (1 : Int32))] [(.int (1 : Int32))])) (fun t k => XS.goto X68.here hx rfl (pc0 := 54) (pc' := 58) rfl (hb hby at_54) (by decide) (by decide) k) ?_
      exact own_ret X68 hx hlk Bd.returns (by decide +kernel) (Or.inl ⟨rfl, by simp, _, rfl⟩) (hb hby at_58) (by decide) (by decide) (by show own_Q0 Z p1 p2 A h0 n0 _ T68.heap _; rw [e68]; exact ⟨rfl, N68⟩)
set_option maxRecDepth 65536 in
set_option maxHeartbeats 40000000 in
theorem own_law10 (l : Launch) (Z : State) (a0 : Array Value) (hw : ∀ d ∈ tables_1, d.before a0 Z = true) (ws : List Jvm.Cond) (p1 : Int32) (p2 : Int32) (A : Nat → Addr) (h0 : Heap) (n0 : Nat) (Z0 : n0 ≤ h0.size) (En : own_En Z h0 A) (hk : ((p1 &&& (2147483647 : Int32)) % (13 : Int32)) = (10 : Int32)) :
    MetFree l x (head1 (Jvm.Cond.code x code maxLocals ret :: ws) room_1) (fun a U => a = #[(.int p1), (.int p2)] ∧ Z.Warmed39 U.vm ∧ U.heap = h0) (fun _ _ _ _ _ => True) (fun _ U o U' => ∃ v L, o = .returned v ∧ own_Q0 Z p1 p2 A h0 n0 v U'.heap L ∧ FrameEnd U o U' L room_1.cells room_1.slots) := by
  refine MetFree.of_bodySF (plainFor_of_name own_pn_com_example_bhaga_bhaga_wire_ApiServesPinLaw) hisR ?_
  intro p e s m args below meth c s₁ Bd hml0 hP hK
  obtain ⟨rfl, hZ, hh⟩ := hP
  have hx := Bd.exec
  have hby := Bd.bytes
  have hml : c.maxLocals = 7 := hml0
  have hown : s.vm.findClass "com/example/bhaga/bhaga/wire/ApiServesPinLaw" = some m.cls := findClass_of_methodNamed Bd.named
  have hnm := (name_of_methodNamed Bd.named Bd.method).1
  have hlk : meth.locks = false := BodyLoose.notSynchronized Bd
  have X0 : Stand p l e room_1 s m #[(.int p1), (.int p2)] below meth c s₁ [] 0 0 := Stand.of_body Bd
  have e0 : s₁.heap = h0 := by rw [← hh, Bd.state]; rfl
  have N0 := Fr.nil n0
  show own_Go p e below #[(.int p1), (.int p2)] s (fun _ U o U' => ∃ v L, o = .returned v ∧ own_Q0 Z p1 p2 A h0 n0 v U'.heap L ∧ FrameEnd U o U' L room_1.cells room_1.slots) (s₁.setTop (entryFrame m #[(.int p1), (.int p2)] maxLocals))
  refine own_st (V := s₁.setTop (mkF m 0 #[.val (.int p1), .val (.int p2), .unset, .unset, .unset, .unset, .unset] [])) (fun t k => castTop (by first | (simp [entryFrame, mkF, argsToLocals, Value.category, maxLocals]; done) | rfl) k) ?_
  refine own_st (V := s₁.setTop (mkF m 1 #[.val (.int p1), .val (.int p2), .unset, .unset, .unset, .unset, .unset] [(.int p1)])) (fun t k => XS.iloadN X0.here hx rfl (hb hby at_0) rfl k) ?_
  refine own_st (V := s₁.setTop (mkF m 3 #[.val (.int p1), .val (.int p2), .unset, .unset, .unset, .unset, .unset] [(.int (2147483647 : Int32)), (.int p1)])) (fun t k => X0.ldcInt hx hown (mvT hZ (hw _ (List.mem_of_getElem? (i := 0) rfl))) (g := (mkF m 1 #[.val (.int p1), .val (.int p2), .unset, .unset, .unset, .unset, .unset] [(.int p1)])) rfl (hb hby at_1) t k) ?_
  refine own_st (V := s₁.setTop (mkF m 4 #[.val (.int p1), .val (.int p2), .unset, .unset, .unset, .unset, .unset] [(.int (p1 &&& (2147483647 : Int32)))])) (fun t k => XS.iand X0.here hx rfl (hb hby at_3) rfl k) ?_
  refine own_st (V := s₁.setTop (mkF m 6 #[.val (.int p1), .val (.int p2), .unset, .unset, .unset, .unset, .unset] [(.int (13 : Int32)), (.int (p1 &&& (2147483647 : Int32)))])) (fun t k => XS.bipush X0.here hx rfl (hb hby at_4) k) ?_
  refine own_st (V := s₁.setTop (mkF m 7 #[.val (.int p1), .val (.int p2), .unset, .unset, .unset, .unset, .unset] [(.int ((p1 &&& (2147483647 : Int32)) % (13 : Int32)))])) (fun t k => Jvm.RoadKit.iremM X0 hx rfl (hb hby at_6) rfl (by decide) k) ?_
  rw [hk]
  refine own_st (V := s₁.setTop (mkF m 8 #[.val (.int p1), .val (.int p2), .val (.int (10 : Int32)), .unset, .unset, .unset, .unset] [])) (fun t k => XS.istoreN X0.here hx rfl (hb hby at_7) rfl (l' := #[.val (.int p1), .val (.int p2), .val (.int (10 : Int32)), .unset, .unset, .unset, .unset]) rfl k) ?_
  refine own_st (V := s₁.setTop (mkF m 9 #[.val (.int p1), .val (.int p2), .val (.int (10 : Int32)), .unset, .unset, .unset, .unset] [(.int (10 : Int32))])) (fun t k => XS.iloadN X0.here hx rfl (hb hby at_8) rfl k) ?_
  obtain ⟨_, _, ⟨T69, L69, k69, n69⟩, -, X69, ⟨Lc69, hQ69, l69, y69, z69⟩, st69⟩ := Jvm.LawKit.callS X0 hx (y := (⟨"com/example/bhaga/bhaga/wire/ApiServesPinLaw", "pick", "(I)Lcom/example/bhaga/bhaga/wire/Api;"⟩ : MethodName)) hown (mvT hZ (hw _ (List.mem_of_getElem? (i := 1) rfl))) (mvT hZ (hw _ (List.mem_of_getElem? (i := 2) rfl))) (mvT hZ (hw _ (List.mem_of_getElem? (i := 3) rfl))) (mvT hZ (hw _ (List.mem_of_getElem? (i := 4) rfl))) (by decide) (backOf (W := 0) (own_pick10 l Z a0 hw [] A h0 n0 Z0 En ) hZ (hw _ (List.mem_of_getElem? (i := 4) rfl)) (hw _ (List.mem_of_getElem? (i := 3) rfl)) (by decide) (by decide)) (g := (mkF m 9 #[.val (.int p1), .val (.int p2), .val (.int (10 : Int32)), .unset, .unset, .unset, .unset] [(.int (10 : Int32))])) rfl (by rw [hml]; rfl) (argsL := [(.int (10 : Int32))]) (rest := []) (lenOf own_pd0 rfl) rfl (by show 2 * 0 + _ ≤ _; exact Nat.le_of_eq rfl) (hb hby at_9) (fun _ _ => ⟨rfl, e0, (by decide : 0 + 0 ≤ _), (by decide : 0 + 0 ≤ _)⟩)
  dsimp only [Pt.U, Pt.locs, Pt.cells, Pt.slots] at X69 l69 y69 z69 st69 hQ69
  subst l69 y69 z69
  obtain ⟨rfl, N69q, e69⟩ := hQ69
  have N69 := Fr.app N0 N69q
  refine own_st (V := T69.setTop (mkF m 12 #[.val (.int p1), .val (.int p2), .val (.int (10 : Int32)), .unset, .unset, .unset, .unset] [(.ref (A 10))])) (fun t k => st69 _ k) ?_
  refine own_st (V := T69.setTop (mkF m 13 #[.val (.int p1), .val (.int p2), .val (.int (10 : Int32)), .val (.ref (A 10)), .unset, .unset, .unset] [])) (fun t k => XS.astoreN X69.here hx rfl (hb hby at_12) rfl rfl (l' := #[.val (.int p1), .val (.int p2), .val (.int (10 : Int32)), .val (.ref (A 10)), .unset, .unset, .unset]) rfl k) ?_
  refine own_st (V := T69.setTop (mkF m 14 #[.val (.int p1), .val (.int p2), .val (.int (10 : Int32)), .val (.ref (A 10)), .unset, .unset, .unset] [(.int p2)])) (fun t k => XS.iloadN X69.here hx rfl (hb hby at_13) rfl k) ?_
  refine own_st (V := T69.setTop (mkF m 15 #[.val (.int p1), .val (.int p2), .val (.int (10 : Int32)), .val (.ref (A 10)), .unset, .unset, .unset] [(.int (p2.toInt16.toInt32))])) (fun t k => XS.i2s X69.here hx rfl (hb hby at_14) rfl k) ?_
  refine own_st (V := T69.setTop (mkF m 17 #[.val (.int p1), .val (.int p2), .val (.int (10 : Int32)), .val (.ref (A 10)), .val (.int (p2.toInt16.toInt32)), .unset, .unset] [])) (fun t k => XS.istore X69.here hx rfl (hb hby at_15) rfl (l' := #[.val (.int p1), .val (.int p2), .val (.int (10 : Int32)), .val (.ref (A 10)), .val (.int (p2.toInt16.toInt32)), .unset, .unset]) rfl k) ?_
  refine own_st (V := T69.setTop (mkF m 18 #[.val (.int p1), .val (.int p2), .val (.int (10 : Int32)), .val (.ref (A 10)), .val (.int (p2.toInt16.toInt32)), .unset, .unset] [(.int (10 : Int32))])) (fun t k => XS.iloadN X69.here hx rfl (hb hby at_17) rfl k) ?_
  obtain ⟨_, _, ⟨T70, L70, k70, n70⟩, -, X70, ⟨Lc70, hQ70, l70, y70, z70⟩, st70⟩ := Jvm.LawKit.callS X69 hx (y := (⟨"com/example/bhaga/bhaga/wire/ApiServesPinLaw", "expectedMax", "(I)I"⟩ : MethodName)) hown (mvT hZ (hw _ (List.mem_of_getElem? (i := 8) rfl))) (mvT hZ (hw _ (List.mem_of_getElem? (i := 9) rfl))) (mvT hZ (hw _ (List.mem_of_getElem? (i := 3) rfl))) (mvT hZ (hw _ (List.mem_of_getElem? (i := 10) rfl))) (by decide) (backOf (W := 0) (own_em10 l Z a0 hw [] h0 n0 Z0 ) hZ (hw _ (List.mem_of_getElem? (i := 10) rfl)) (hw _ (List.mem_of_getElem? (i := 3) rfl)) (by decide) (by decide)) (g := (mkF m 18 #[.val (.int p1), .val (.int p2), .val (.int (10 : Int32)), .val (.ref (A 10)), .val (.int (p2.toInt16.toInt32)), .unset, .unset] [(.int (10 : Int32))])) rfl (by rw [hml]; rfl) (argsL := [(.int (10 : Int32))]) (rest := []) (lenOf own_pd1 rfl) rfl (by show 2 * 0 + _ ≤ _; exact Nat.le_of_eq rfl) (hb hby at_18) (fun _ _ => ⟨rfl, e69, (by decide : 0 + 0 ≤ _), (by decide : 0 + 0 ≤ _)⟩)
  dsimp only [Pt.U, Pt.locs, Pt.cells, Pt.slots] at X70 l70 y70 z70 st70 hQ70
  subst l70 y70 z70
  obtain ⟨rfl, N70q, e70⟩ := hQ70
  have N70 := Fr.app N69 N70q
  refine own_st (V := T70.setTop (mkF m 21 #[.val (.int p1), .val (.int p2), .val (.int (10 : Int32)), .val (.ref (A 10)), .val (.int (p2.toInt16.toInt32)), .unset, .unset] [(.int (1 : Int32))])) (fun t k => st70 _ k) ?_
  refine own_st (V := T70.setTop (mkF m 23 #[.val (.int p1), .val (.int p2), .val (.int (10 : Int32)), .val (.ref (A 10)), .val (.int (p2.toInt16.toInt32)), .val (.int (1 : Int32)), .unset] [])) (fun t k => XS.istore X70.here hx rfl (hb hby at_21) rfl (l' := #[.val (.int p1), .val (.int p2), .val (.int (10 : Int32)), .val (.ref (A 10)), .val (.int (p2.toInt16.toInt32)), .val (.int (1 : Int32)), .unset]) rfl k) ?_
  refine own_st (V := T70.setTop (mkF m 25 #[.val (.int p1), .val (.int p2), .val (.int (10 : Int32)), .val (.ref (A 10)), .val (.int (p2.toInt16.toInt32)), .val (.int (1 : Int32)), .unset] [(.int (p2.toInt16.toInt32))])) (fun t k => XS.iload X70.here hx rfl (hb hby at_23) rfl k) ?_
  by_cases ha : (p2.toInt16.toInt32) < (0 : Int32)
  · refine own_st (V := T70.setTop (mkF m 39 #[.val (.int p1), .val (.int p2), .val (.int (10 : Int32)), .val (.ref (A 10)), .val (.int (p2.toInt16.toInt32)), .val (.int (1 : Int32)), .unset] [])) (fun t k => XS.ifYes X70.here hx rfl (pc0 := 25) (pc' := 39) rfl (hb hby at_25) rfl ((if0 _ _).trans (tlt ha).1) (by decide) (by decide) k) ?_
    refine own_st (V := T70.setTop (mkF m 40 #[.val (.int p1), .val (.int p2), .val (.int (10 : Int32)), .val (.ref (A 10)), .val (.int (p2.toInt16.toInt32)), .val (.int (1 : Int32)), .unset] [(.int (0 : Int32))])) (fun t k => XS.iconst X70.here hx rfl (hb hby at_39) k) ?_
    refine own_st (V := T70.setTop (mkF m 42 #[.val (.int p1), .val (.int p2), .val (.int (10 : Int32)), .val (.ref (A 10)), .val (.int (p2.toInt16.toInt32)), .val (.int (1 : Int32)), .val (.int (0 : Int32))] [])) (fun t k => XS.istore X70.here hx rfl (hb hby at_40) rfl (l' := #[.val (.int p1), .val (.int p2), .val (.int (10 : Int32)), .val (.ref (A 10)), .val (.int (p2.toInt16.toInt32)), .val (.int (1 : Int32)), .val (.int (0 : Int32))]) rfl k) ?_
    refine own_st (V := T70.setTop (mkF m 43 #[.val (.int p1), .val (.int p2), .val (.int (10 : Int32)), .val (.ref (A 10)), .val (.int (p2.toInt16.toInt32)), .val (.int (1 : Int32)), .val (.int (0 : Int32))] [(.ref (A 10))])) (fun t k => XS.aloadN X70.here hx rfl (hb hby at_42) rfl rfl k) ?_
    refine own_st (V := T70.setTop (mkF m 45 #[.val (.int p1), .val (.int p2), .val (.int (10 : Int32)), .val (.ref (A 10)), .val (.int (p2.toInt16.toInt32)), .val (.int (1 : Int32)), .val (.int (0 : Int32))] [(.int (p2.toInt16.toInt32)), (.ref (A 10))])) (fun t k => XS.iload X70.here hx rfl (hb hby at_43) rfl k) ?_
    obtain ⟨cq71, kq71, q71a, q71b, q71c⟩ := isOf hZ e70 (own_E En 10 (i := 10) (n := "DESCRIBE_GROUPS") rfl)
    obtain ⟨_, _, ⟨T71, L71, k71, n71⟩, -, X71, ⟨Lc71, hQ71, l71, y71, z71⟩, st71⟩ := X70.virtualBack hx (y := (⟨"com/example/bhaga/bhaga/wire/Api", "serves", "(S)Z"⟩ : MethodName)) (z := (⟨"com/example/bhaga/bhaga/wire/Api", "serves", "(S)Z"⟩ : MethodName)) hown (mvT hZ (hw _ (List.mem_of_getElem? (i := 11) rfl))) (mvT hZ (hw _ (List.mem_of_getElem? (i := 12) rfl))) (notFace_of_selects (args := #[]) (mvT hZ (hw _ (List.mem_of_getElem? (i := 14) rfl)))) (mvT hZ (hw _ (List.mem_of_getElem? (i := 14) rfl))) (mvT hZ (hw _ (List.mem_of_getElem? (i := 13) rfl))) (by decide) (backOf (W := 0) (own_ma l Z a0 hw [] (A 10) (p2.toInt16.toInt32) (1 : Int32) h0 n0 Z0 (own_F0 En 10 (i := 10) (n := "DESCRIBE_GROUPS") rfl) (own_F1 En 10 (i := 10) (n := "DESCRIBE_GROUPS") rfl) ha) hZ (hw _ (List.mem_of_getElem? (i := 15) rfl)) (hw _ (List.mem_of_getElem? (i := 6) rfl)) (by decide) (by decide)) q71a q71c (g := (mkF m 45 #[.val (.int p1), .val (.int p2), .val (.int (10 : Int32)), .val (.ref (A 10)), .val (.int (p2.toInt16.toInt32)), .val (.int (1 : Int32)), .val (.int (0 : Int32))] [(.int (p2.toInt16.toInt32)), (.ref (A 10))])) rfl (by rw [hml]; rfl) (Steps.refl _) (argsL := [(.int (p2.toInt16.toInt32))]) (rest := []) (lenOf own_pd2 rfl) rfl (by show 2 * 0 + _ ≤ _; exact Nat.le_of_eq rfl) (hb hby at_45) (fun _ _ => ⟨rfl, e70, (by decide : 0 + 0 ≤ _), (by decide : 0 + 0 ≤ _)⟩)
    dsimp only [Pt.U, Pt.locs, Pt.cells, Pt.slots] at X71 l71 y71 z71 st71 hQ71
    subst l71 y71 z71
    obtain ⟨rfl, N71q, e71⟩ := hQ71
    have N71 := Fr.app N70 N71q
    refine own_st (V := T71.setTop (mkF m 48 #[.val (.int p1), .val (.int p2), .val (.int (10 : Int32)), .val (.ref (A 10)), .val (.int (p2.toInt16.toInt32)), .val (.int (1 : Int32)), .val (.int (0 : Int32))] [(.int (0 : Int32))])) (fun t k => st71.trans k) ?_
    refine own_st (V := T71.setTop (mkF m 50 #[.val (.int p1), .val (.int p2), .val (.int (10 : Int32)), .val (.ref (A 10)), .val (.int (p2.toInt16.toInt32)), .val (.int (1 : Int32)), .val (.int (0 : Int32))] [(.int (0 : Int32)), (.int (0 : Int32))])) (fun t k => XS.iload X71.here hx rfl (hb hby at_48) rfl k) ?_
    refine own_st (V := T71.setTop (mkF m 53 #[.val (.int p1), .val (.int p2), .val (.int (10 : Int32)), .val (.ref (A 10)), .val (.int (p2.toInt16.toInt32)), .val (.int (1 : Int32)), .val (.int (0 : Int32))] [])) (fun t k => XS.icmpNo X71.here hx rfl (hb hby at_50) rfl (teq (by decide : (0 : Int32) = (0 : Int32))).2 k) ?_
    refine own_st (V := T71.setTop (mkF m 54 #[.val (.int p1), .val (.int p2), .val (.int (10 : Int32)), .val (.ref (A 10)), .val (.int (p2.toInt16.toInt32)), .val (.int (1 : Int32)), .val (.int (0 : Int32))] [(.int (1 : Int32))])) (fun t k => XS.iconst X71.here hx rfl (hb hby at_53) k) ?_
    refine own_st (V := T71.setTop (mkF m 58 #[.val (.int p1), .val (.int p2), .val (.int (10 : Int32)), .val (.ref (A 10)), .val (.int (p2.toInt16.toInt32)), .val (.int (1 : Int32)), .val (.int (0 : Int32))] [(.int (1 : Int32))])) (fun t k => XS.goto X71.here hx rfl (pc0 := 54) (pc' := 58) rfl (hb hby at_54) (by decide) (by decide) k) ?_
    exact own_ret X71 hx hlk Bd.returns (by decide +kernel) (Or.inl ⟨rfl, by simp, _, rfl⟩) (hb hby at_58) (by decide) (by decide) (by show own_Q0 Z p1 p2 A h0 n0 _ T71.heap _; rw [e71]; exact ⟨rfl, N71⟩)
  · refine own_st (V := T70.setTop (mkF m 28 #[.val (.int p1), .val (.int p2), .val (.int (10 : Int32)), .val (.ref (A 10)), .val (.int (p2.toInt16.toInt32)), .val (.int (1 : Int32)), .unset] [])) (fun t k => XS.ifNo X70.here hx rfl (hb hby at_25) rfl ((if0 _ _).trans (flt ha).1) k) ?_
    refine own_st (V := T70.setTop (mkF m 30 #[.val (.int p1), .val (.int p2), .val (.int (10 : Int32)), .val (.ref (A 10)), .val (.int (p2.toInt16.toInt32)), .val (.int (1 : Int32)), .unset] [(.int (p2.toInt16.toInt32))])) (fun t k => XS.iload X70.here hx rfl (hb hby at_28) rfl k) ?_
    refine own_st (V := T70.setTop (mkF m 32 #[.val (.int p1), .val (.int p2), .val (.int (10 : Int32)), .val (.ref (A 10)), .val (.int (p2.toInt16.toInt32)), .val (.int (1 : Int32)), .unset] [(.int (1 : Int32)), (.int (p2.toInt16.toInt32))])) (fun t k => XS.iload X70.here hx rfl (hb hby at_30) rfl k) ?_
    by_cases hc : (1 : Int32) < (p2.toInt16.toInt32)
    · refine own_st (V := T70.setTop (mkF m 39 #[.val (.int p1), .val (.int p2), .val (.int (10 : Int32)), .val (.ref (A 10)), .val (.int (p2.toInt16.toInt32)), .val (.int (1 : Int32)), .unset] [])) (fun t k => XS.icmpYes X70.here hx rfl (pc0 := 32) (pc' := 39) rfl (hb hby at_32) rfl (tlt hc).2.2.1 (by decide) (by decide) k) ?_
      refine own_st (V := T70.setTop (mkF m 40 #[.val (.int p1), .val (.int p2), .val (.int (10 : Int32)), .val (.ref (A 10)), .val (.int (p2.toInt16.toInt32)), .val (.int (1 : Int32)), .unset] [(.int (0 : Int32))])) (fun t k => XS.iconst X70.here hx rfl (hb hby at_39) k) ?_
      refine own_st (V := T70.setTop (mkF m 42 #[.val (.int p1), .val (.int p2), .val (.int (10 : Int32)), .val (.ref (A 10)), .val (.int (p2.toInt16.toInt32)), .val (.int (1 : Int32)), .val (.int (0 : Int32))] [])) (fun t k => XS.istore X70.here hx rfl (hb hby at_40) rfl (l' := #[.val (.int p1), .val (.int p2), .val (.int (10 : Int32)), .val (.ref (A 10)), .val (.int (p2.toInt16.toInt32)), .val (.int (1 : Int32)), .val (.int (0 : Int32))]) rfl k) ?_
      refine own_st (V := T70.setTop (mkF m 43 #[.val (.int p1), .val (.int p2), .val (.int (10 : Int32)), .val (.ref (A 10)), .val (.int (p2.toInt16.toInt32)), .val (.int (1 : Int32)), .val (.int (0 : Int32))] [(.ref (A 10))])) (fun t k => XS.aloadN X70.here hx rfl (hb hby at_42) rfl rfl k) ?_
      refine own_st (V := T70.setTop (mkF m 45 #[.val (.int p1), .val (.int p2), .val (.int (10 : Int32)), .val (.ref (A 10)), .val (.int (p2.toInt16.toInt32)), .val (.int (1 : Int32)), .val (.int (0 : Int32))] [(.int (p2.toInt16.toInt32)), (.ref (A 10))])) (fun t k => XS.iload X70.here hx rfl (hb hby at_43) rfl k) ?_
      obtain ⟨cq72, kq72, q72a, q72b, q72c⟩ := isOf hZ e70 (own_E En 10 (i := 10) (n := "DESCRIBE_GROUPS") rfl)
      obtain ⟨_, _, ⟨T72, L72, k72, n72⟩, -, X72, ⟨Lc72, hQ72, l72, y72, z72⟩, st72⟩ := X70.virtualBack hx (y := (⟨"com/example/bhaga/bhaga/wire/Api", "serves", "(S)Z"⟩ : MethodName)) (z := (⟨"com/example/bhaga/bhaga/wire/Api", "serves", "(S)Z"⟩ : MethodName)) hown (mvT hZ (hw _ (List.mem_of_getElem? (i := 11) rfl))) (mvT hZ (hw _ (List.mem_of_getElem? (i := 12) rfl))) (notFace_of_selects (args := #[]) (mvT hZ (hw _ (List.mem_of_getElem? (i := 14) rfl)))) (mvT hZ (hw _ (List.mem_of_getElem? (i := 14) rfl))) (mvT hZ (hw _ (List.mem_of_getElem? (i := 13) rfl))) (by decide) (backOf (W := 0) (own_mb l Z a0 hw [] (A 10) (p2.toInt16.toInt32) (1 : Int32) h0 n0 Z0 (own_F0 En 10 (i := 10) (n := "DESCRIBE_GROUPS") rfl) (own_F1 En 10 (i := 10) (n := "DESCRIBE_GROUPS") rfl) ha hc) hZ (hw _ (List.mem_of_getElem? (i := 15) rfl)) (hw _ (List.mem_of_getElem? (i := 6) rfl)) (by decide) (by decide)) q72a q72c (g := (mkF m 45 #[.val (.int p1), .val (.int p2), .val (.int (10 : Int32)), .val (.ref (A 10)), .val (.int (p2.toInt16.toInt32)), .val (.int (1 : Int32)), .val (.int (0 : Int32))] [(.int (p2.toInt16.toInt32)), (.ref (A 10))])) rfl (by rw [hml]; rfl) (Steps.refl _) (argsL := [(.int (p2.toInt16.toInt32))]) (rest := []) (lenOf own_pd2 rfl) rfl (by show 2 * 0 + _ ≤ _; exact Nat.le_of_eq rfl) (hb hby at_45) (fun _ _ => ⟨rfl, e70, (by decide : 0 + 0 ≤ _), (by decide : 0 + 0 ≤ _)⟩)
      dsimp only [Pt.U, Pt.locs, Pt.cells, Pt.slots] at X72 l72 y72 z72 st72 hQ72
      subst l72 y72 z72
      obtain ⟨rfl, N72q, e72⟩ := hQ72
      have N72 := Fr.app N70 N72q
      refine own_st (V := T72.setTop (mkF m 48 #[.val (.int p1), .val (.int p2), .val (.int (10 : Int32)), .val (.ref (A 10)), .val (.int (p2.toInt16.toInt32)), .val (.int (1 : Int32)), .val (.int (0 : Int32))] [(.int (0 : Int32))])) (fun t k => st72.trans k) ?_
      refine own_st (V := T72.setTop (mkF m 50 #[.val (.int p1), .val (.int p2), .val (.int (10 : Int32)), .val (.ref (A 10)), .val (.int (p2.toInt16.toInt32)), .val (.int (1 : Int32)), .val (.int (0 : Int32))] [(.int (0 : Int32)), (.int (0 : Int32))])) (fun t k => XS.iload X72.here hx rfl (hb hby at_48) rfl k) ?_
      refine own_st (V := T72.setTop (mkF m 53 #[.val (.int p1), .val (.int p2), .val (.int (10 : Int32)), .val (.ref (A 10)), .val (.int (p2.toInt16.toInt32)), .val (.int (1 : Int32)), .val (.int (0 : Int32))] [])) (fun t k => XS.icmpNo X72.here hx rfl (hb hby at_50) rfl (teq (by decide : (0 : Int32) = (0 : Int32))).2 k) ?_
      refine own_st (V := T72.setTop (mkF m 54 #[.val (.int p1), .val (.int p2), .val (.int (10 : Int32)), .val (.ref (A 10)), .val (.int (p2.toInt16.toInt32)), .val (.int (1 : Int32)), .val (.int (0 : Int32))] [(.int (1 : Int32))])) (fun t k => XS.iconst X72.here hx rfl (hb hby at_53) k) ?_
      refine own_st (V := T72.setTop (mkF m 58 #[.val (.int p1), .val (.int p2), .val (.int (10 : Int32)), .val (.ref (A 10)), .val (.int (p2.toInt16.toInt32)), .val (.int (1 : Int32)), .val (.int (0 : Int32))] [(.int (1 : Int32))])) (fun t k => XS.goto X72.here hx rfl (pc0 := 54) (pc' := 58) rfl (hb hby at_54) (by decide) (by decide) k) ?_
      exact own_ret X72 hx hlk Bd.returns (by decide +kernel) (Or.inl ⟨rfl, by simp, _, rfl⟩) (hb hby at_58) (by decide) (by decide) (by show own_Q0 Z p1 p2 A h0 n0 _ T72.heap _; rw [e72]; exact ⟨rfl, N72⟩)
    · refine own_st (V := T70.setTop (mkF m 35 #[.val (.int p1), .val (.int p2), .val (.int (10 : Int32)), .val (.ref (A 10)), .val (.int (p2.toInt16.toInt32)), .val (.int (1 : Int32)), .unset] [])) (fun t k => XS.icmpNo X70.here hx rfl (hb hby at_32) rfl (flt hc).2.2.1 k) ?_
      refine own_st (V := T70.setTop (mkF m 36 #[.val (.int p1), .val (.int p2), .val (.int (10 : Int32)), .val (.ref (A 10)), .val (.int (p2.toInt16.toInt32)), .val (.int (1 : Int32)), .unset] [(.int (1 : Int32))])) (fun t k => XS.iconst X70.here hx rfl (hb hby at_35) k) ?_
      refine own_st (V := T70.setTop (mkF m 40 #[.val (.int p1), .val (.int p2), .val (.int (10 : Int32)), .val (.ref (A 10)), .val (.int (p2.toInt16.toInt32)), .val (.int (1 : Int32)), .unset] [(.int (1 : Int32))])) (fun t k => XS.goto X70.here hx rfl (pc0 := 36) (pc' := 40) rfl (hb hby at_36) (by decide) (by decide) k) ?_
      refine own_st (V := T70.setTop (mkF m 42 #[.val (.int p1), .val (.int p2), .val (.int (10 : Int32)), .val (.ref (A 10)), .val (.int (p2.toInt16.toInt32)), .val (.int (1 : Int32)), .val (.int (1 : Int32))] [])) (fun t k => XS.istore X70.here hx rfl (hb hby at_40) rfl (l' := #[.val (.int p1), .val (.int p2), .val (.int (10 : Int32)), .val (.ref (A 10)), .val (.int (p2.toInt16.toInt32)), .val (.int (1 : Int32)), .val (.int (1 : Int32))]) rfl k) ?_
      refine own_st (V := T70.setTop (mkF m 43 #[.val (.int p1), .val (.int p2), .val (.int (10 : Int32)), .val (.ref (A 10)), .val (.int (p2.toInt16.toInt32)), .val (.int (1 : Int32)), .val (.int (1 : Int32))] [(.ref (A 10))])) (fun t k => XS.aloadN X70.here hx rfl (hb hby at_42) rfl rfl k) ?_
      refine own_st (V := T70.setTop (mkF m 45 #[.val (.int p1), .val (.int p2), .val (.int (10 : Int32)), .val (.ref (A 10)), .val (.int (p2.toInt16.toInt32)), .val (.int (1 : Int32)), .val (.int (1 : Int32))] [(.int (p2.toInt16.toInt32)), (.ref (A 10))])) (fun t k => XS.iload X70.here hx rfl (hb hby at_43) rfl k) ?_
      obtain ⟨cq73, kq73, q73a, q73b, q73c⟩ := isOf hZ e70 (own_E En 10 (i := 10) (n := "DESCRIBE_GROUPS") rfl)
      obtain ⟨_, _, ⟨T73, L73, k73, n73⟩, -, X73, ⟨Lc73, hQ73, l73, y73, z73⟩, st73⟩ := X70.virtualBack hx (y := (⟨"com/example/bhaga/bhaga/wire/Api", "serves", "(S)Z"⟩ : MethodName)) (z := (⟨"com/example/bhaga/bhaga/wire/Api", "serves", "(S)Z"⟩ : MethodName)) hown (mvT hZ (hw _ (List.mem_of_getElem? (i := 11) rfl))) (mvT hZ (hw _ (List.mem_of_getElem? (i := 12) rfl))) (notFace_of_selects (args := #[]) (mvT hZ (hw _ (List.mem_of_getElem? (i := 14) rfl)))) (mvT hZ (hw _ (List.mem_of_getElem? (i := 14) rfl))) (mvT hZ (hw _ (List.mem_of_getElem? (i := 13) rfl))) (by decide) (backOf (W := 0) (own_mc l Z a0 hw [] (A 10) (p2.toInt16.toInt32) (1 : Int32) h0 n0 Z0 (own_F0 En 10 (i := 10) (n := "DESCRIBE_GROUPS") rfl) (own_F1 En 10 (i := 10) (n := "DESCRIBE_GROUPS") rfl) ha hc) hZ (hw _ (List.mem_of_getElem? (i := 15) rfl)) (hw _ (List.mem_of_getElem? (i := 6) rfl)) (by decide) (by decide)) q73a q73c (g := (mkF m 45 #[.val (.int p1), .val (.int p2), .val (.int (10 : Int32)), .val (.ref (A 10)), .val (.int (p2.toInt16.toInt32)), .val (.int (1 : Int32)), .val (.int (1 : Int32))] [(.int (p2.toInt16.toInt32)), (.ref (A 10))])) rfl (by rw [hml]; rfl) (Steps.refl _) (argsL := [(.int (p2.toInt16.toInt32))]) (rest := []) (lenOf own_pd2 rfl) rfl (by show 2 * 0 + _ ≤ _; exact Nat.le_of_eq rfl) (hb hby at_45) (fun _ _ => ⟨rfl, e70, (by decide : 0 + 0 ≤ _), (by decide : 0 + 0 ≤ _)⟩)
      dsimp only [Pt.U, Pt.locs, Pt.cells, Pt.slots] at X73 l73 y73 z73 st73 hQ73
      subst l73 y73 z73
      obtain ⟨rfl, N73q, e73⟩ := hQ73
      have N73 := Fr.app N70 N73q
      refine own_st (V := T73.setTop (mkF m 48 #[.val (.int p1), .val (.int p2), .val (.int (10 : Int32)), .val (.ref (A 10)), .val (.int (p2.toInt16.toInt32)), .val (.int (1 : Int32)), .val (.int (1 : Int32))] [(.int (1 : Int32))])) (fun t k => st73.trans k) ?_
      refine own_st (V := T73.setTop (mkF m 50 #[.val (.int p1), .val (.int p2), .val (.int (10 : Int32)), .val (.ref (A 10)), .val (.int (p2.toInt16.toInt32)), .val (.int (1 : Int32)), .val (.int (1 : Int32))] [(.int (1 : Int32)), (.int (1 : Int32))])) (fun t k => XS.iload X73.here hx rfl (hb hby at_48) rfl k) ?_
      refine own_st (V := T73.setTop (mkF m 53 #[.val (.int p1), .val (.int p2), .val (.int (10 : Int32)), .val (.ref (A 10)), .val (.int (p2.toInt16.toInt32)), .val (.int (1 : Int32)), .val (.int (1 : Int32))] [])) (fun t k => XS.icmpNo X73.here hx rfl (hb hby at_50) rfl (teq (by decide : (1 : Int32) = (1 : Int32))).2 k) ?_
      refine own_st (V := T73.setTop (mkF m 54 #[.val (.int p1), .val (.int p2), .val (.int (10 : Int32)), .val (.ref (A 10)), .val (.int (p2.toInt16.toInt32)), .val (.int (1 : Int32)), .val (.int (1 : Int32))] [(.int (1 : Int32))])) (fun t k => XS.iconst X73.here hx rfl (hb hby at_53) k) ?_
      refine own_st (V := T73.setTop (mkF m 58 #[.val (.int p1), .val (.int p2), .val (.int (10 : Int32)), .val (.ref (A 10)), .val (.int (p2.toInt16.toInt32)), .val (.int (1 : Int32)), .val (.int (1 : Int32))] [(.int (1 : Int32))])) (fun t k => XS.goto X73.here hx rfl (pc0 := 54) (pc' := 58) rfl (hb hby at_54) (by decide) (by decide) k) ?_
      exact own_ret X73 hx hlk Bd.returns (by decide +kernel) (Or.inl ⟨rfl, by simp, _, rfl⟩) (hb hby at_58) (by decide) (by decide) (by show own_Q0 Z p1 p2 A h0 n0 _ T73.heap _; rw [e73]; exact ⟨rfl, N73⟩)
set_option maxRecDepth 65536 in
set_option maxHeartbeats 40000000 in
theorem own_law11 (l : Launch) (Z : State) (a0 : Array Value) (hw : ∀ d ∈ tables_1, d.before a0 Z = true) (ws : List Jvm.Cond) (p1 : Int32) (p2 : Int32) (A : Nat → Addr) (h0 : Heap) (n0 : Nat) (Z0 : n0 ≤ h0.size) (En : own_En Z h0 A) (hk : ((p1 &&& (2147483647 : Int32)) % (13 : Int32)) = (11 : Int32)) :
    MetFree l x (head1 (Jvm.Cond.code x code maxLocals ret :: ws) room_1) (fun a U => a = #[(.int p1), (.int p2)] ∧ Z.Warmed39 U.vm ∧ U.heap = h0) (fun _ _ _ _ _ => True) (fun _ U o U' => ∃ v L, o = .returned v ∧ own_Q0 Z p1 p2 A h0 n0 v U'.heap L ∧ FrameEnd U o U' L room_1.cells room_1.slots) := by
  refine MetFree.of_bodySF (plainFor_of_name own_pn_com_example_bhaga_bhaga_wire_ApiServesPinLaw) hisR ?_
  intro p e s m args below meth c s₁ Bd hml0 hP hK
  obtain ⟨rfl, hZ, hh⟩ := hP
  have hx := Bd.exec
  have hby := Bd.bytes
  have hml : c.maxLocals = 7 := hml0
  have hown : s.vm.findClass "com/example/bhaga/bhaga/wire/ApiServesPinLaw" = some m.cls := findClass_of_methodNamed Bd.named
  have hnm := (name_of_methodNamed Bd.named Bd.method).1
  have hlk : meth.locks = false := BodyLoose.notSynchronized Bd
  have X0 : Stand p l e room_1 s m #[(.int p1), (.int p2)] below meth c s₁ [] 0 0 := Stand.of_body Bd
  have e0 : s₁.heap = h0 := by rw [← hh, Bd.state]; rfl
  have N0 := Fr.nil n0
  show own_Go p e below #[(.int p1), (.int p2)] s (fun _ U o U' => ∃ v L, o = .returned v ∧ own_Q0 Z p1 p2 A h0 n0 v U'.heap L ∧ FrameEnd U o U' L room_1.cells room_1.slots) (s₁.setTop (entryFrame m #[(.int p1), (.int p2)] maxLocals))
  refine own_st (V := s₁.setTop (mkF m 0 #[.val (.int p1), .val (.int p2), .unset, .unset, .unset, .unset, .unset] [])) (fun t k => castTop (by first | (simp [entryFrame, mkF, argsToLocals, Value.category, maxLocals]; done) | rfl) k) ?_
  refine own_st (V := s₁.setTop (mkF m 1 #[.val (.int p1), .val (.int p2), .unset, .unset, .unset, .unset, .unset] [(.int p1)])) (fun t k => XS.iloadN X0.here hx rfl (hb hby at_0) rfl k) ?_
  refine own_st (V := s₁.setTop (mkF m 3 #[.val (.int p1), .val (.int p2), .unset, .unset, .unset, .unset, .unset] [(.int (2147483647 : Int32)), (.int p1)])) (fun t k => X0.ldcInt hx hown (mvT hZ (hw _ (List.mem_of_getElem? (i := 0) rfl))) (g := (mkF m 1 #[.val (.int p1), .val (.int p2), .unset, .unset, .unset, .unset, .unset] [(.int p1)])) rfl (hb hby at_1) t k) ?_
  refine own_st (V := s₁.setTop (mkF m 4 #[.val (.int p1), .val (.int p2), .unset, .unset, .unset, .unset, .unset] [(.int (p1 &&& (2147483647 : Int32)))])) (fun t k => XS.iand X0.here hx rfl (hb hby at_3) rfl k) ?_
  refine own_st (V := s₁.setTop (mkF m 6 #[.val (.int p1), .val (.int p2), .unset, .unset, .unset, .unset, .unset] [(.int (13 : Int32)), (.int (p1 &&& (2147483647 : Int32)))])) (fun t k => XS.bipush X0.here hx rfl (hb hby at_4) k) ?_
  refine own_st (V := s₁.setTop (mkF m 7 #[.val (.int p1), .val (.int p2), .unset, .unset, .unset, .unset, .unset] [(.int ((p1 &&& (2147483647 : Int32)) % (13 : Int32)))])) (fun t k => Jvm.RoadKit.iremM X0 hx rfl (hb hby at_6) rfl (by decide) k) ?_
  rw [hk]
  refine own_st (V := s₁.setTop (mkF m 8 #[.val (.int p1), .val (.int p2), .val (.int (11 : Int32)), .unset, .unset, .unset, .unset] [])) (fun t k => XS.istoreN X0.here hx rfl (hb hby at_7) rfl (l' := #[.val (.int p1), .val (.int p2), .val (.int (11 : Int32)), .unset, .unset, .unset, .unset]) rfl k) ?_
  refine own_st (V := s₁.setTop (mkF m 9 #[.val (.int p1), .val (.int p2), .val (.int (11 : Int32)), .unset, .unset, .unset, .unset] [(.int (11 : Int32))])) (fun t k => XS.iloadN X0.here hx rfl (hb hby at_8) rfl k) ?_
  obtain ⟨_, _, ⟨T74, L74, k74, n74⟩, -, X74, ⟨Lc74, hQ74, l74, y74, z74⟩, st74⟩ := Jvm.LawKit.callS X0 hx (y := (⟨"com/example/bhaga/bhaga/wire/ApiServesPinLaw", "pick", "(I)Lcom/example/bhaga/bhaga/wire/Api;"⟩ : MethodName)) hown (mvT hZ (hw _ (List.mem_of_getElem? (i := 1) rfl))) (mvT hZ (hw _ (List.mem_of_getElem? (i := 2) rfl))) (mvT hZ (hw _ (List.mem_of_getElem? (i := 3) rfl))) (mvT hZ (hw _ (List.mem_of_getElem? (i := 4) rfl))) (by decide) (backOf (W := 0) (own_pick11 l Z a0 hw [] A h0 n0 Z0 En ) hZ (hw _ (List.mem_of_getElem? (i := 4) rfl)) (hw _ (List.mem_of_getElem? (i := 3) rfl)) (by decide) (by decide)) (g := (mkF m 9 #[.val (.int p1), .val (.int p2), .val (.int (11 : Int32)), .unset, .unset, .unset, .unset] [(.int (11 : Int32))])) rfl (by rw [hml]; rfl) (argsL := [(.int (11 : Int32))]) (rest := []) (lenOf own_pd0 rfl) rfl (by show 2 * 0 + _ ≤ _; exact Nat.le_of_eq rfl) (hb hby at_9) (fun _ _ => ⟨rfl, e0, (by decide : 0 + 0 ≤ _), (by decide : 0 + 0 ≤ _)⟩)
  dsimp only [Pt.U, Pt.locs, Pt.cells, Pt.slots] at X74 l74 y74 z74 st74 hQ74
  subst l74 y74 z74
  obtain ⟨rfl, N74q, e74⟩ := hQ74
  have N74 := Fr.app N0 N74q
  refine own_st (V := T74.setTop (mkF m 12 #[.val (.int p1), .val (.int p2), .val (.int (11 : Int32)), .unset, .unset, .unset, .unset] [(.ref (A 11))])) (fun t k => st74 _ k) ?_
  refine own_st (V := T74.setTop (mkF m 13 #[.val (.int p1), .val (.int p2), .val (.int (11 : Int32)), .val (.ref (A 11)), .unset, .unset, .unset] [])) (fun t k => XS.astoreN X74.here hx rfl (hb hby at_12) rfl rfl (l' := #[.val (.int p1), .val (.int p2), .val (.int (11 : Int32)), .val (.ref (A 11)), .unset, .unset, .unset]) rfl k) ?_
  refine own_st (V := T74.setTop (mkF m 14 #[.val (.int p1), .val (.int p2), .val (.int (11 : Int32)), .val (.ref (A 11)), .unset, .unset, .unset] [(.int p2)])) (fun t k => XS.iloadN X74.here hx rfl (hb hby at_13) rfl k) ?_
  refine own_st (V := T74.setTop (mkF m 15 #[.val (.int p1), .val (.int p2), .val (.int (11 : Int32)), .val (.ref (A 11)), .unset, .unset, .unset] [(.int (p2.toInt16.toInt32))])) (fun t k => XS.i2s X74.here hx rfl (hb hby at_14) rfl k) ?_
  refine own_st (V := T74.setTop (mkF m 17 #[.val (.int p1), .val (.int p2), .val (.int (11 : Int32)), .val (.ref (A 11)), .val (.int (p2.toInt16.toInt32)), .unset, .unset] [])) (fun t k => XS.istore X74.here hx rfl (hb hby at_15) rfl (l' := #[.val (.int p1), .val (.int p2), .val (.int (11 : Int32)), .val (.ref (A 11)), .val (.int (p2.toInt16.toInt32)), .unset, .unset]) rfl k) ?_
  refine own_st (V := T74.setTop (mkF m 18 #[.val (.int p1), .val (.int p2), .val (.int (11 : Int32)), .val (.ref (A 11)), .val (.int (p2.toInt16.toInt32)), .unset, .unset] [(.int (11 : Int32))])) (fun t k => XS.iloadN X74.here hx rfl (hb hby at_17) rfl k) ?_
  obtain ⟨_, _, ⟨T75, L75, k75, n75⟩, -, X75, ⟨Lc75, hQ75, l75, y75, z75⟩, st75⟩ := Jvm.LawKit.callS X74 hx (y := (⟨"com/example/bhaga/bhaga/wire/ApiServesPinLaw", "expectedMax", "(I)I"⟩ : MethodName)) hown (mvT hZ (hw _ (List.mem_of_getElem? (i := 8) rfl))) (mvT hZ (hw _ (List.mem_of_getElem? (i := 9) rfl))) (mvT hZ (hw _ (List.mem_of_getElem? (i := 3) rfl))) (mvT hZ (hw _ (List.mem_of_getElem? (i := 10) rfl))) (by decide) (backOf (W := 0) (own_em11 l Z a0 hw [] h0 n0 Z0 ) hZ (hw _ (List.mem_of_getElem? (i := 10) rfl)) (hw _ (List.mem_of_getElem? (i := 3) rfl)) (by decide) (by decide)) (g := (mkF m 18 #[.val (.int p1), .val (.int p2), .val (.int (11 : Int32)), .val (.ref (A 11)), .val (.int (p2.toInt16.toInt32)), .unset, .unset] [(.int (11 : Int32))])) rfl (by rw [hml]; rfl) (argsL := [(.int (11 : Int32))]) (rest := []) (lenOf own_pd1 rfl) rfl (by show 2 * 0 + _ ≤ _; exact Nat.le_of_eq rfl) (hb hby at_18) (fun _ _ => ⟨rfl, e74, (by decide : 0 + 0 ≤ _), (by decide : 0 + 0 ≤ _)⟩)
  dsimp only [Pt.U, Pt.locs, Pt.cells, Pt.slots] at X75 l75 y75 z75 st75 hQ75
  subst l75 y75 z75
  obtain ⟨rfl, N75q, e75⟩ := hQ75
  have N75 := Fr.app N74 N75q
  refine own_st (V := T75.setTop (mkF m 21 #[.val (.int p1), .val (.int p2), .val (.int (11 : Int32)), .val (.ref (A 11)), .val (.int (p2.toInt16.toInt32)), .unset, .unset] [(.int (1 : Int32))])) (fun t k => st75 _ k) ?_
  refine own_st (V := T75.setTop (mkF m 23 #[.val (.int p1), .val (.int p2), .val (.int (11 : Int32)), .val (.ref (A 11)), .val (.int (p2.toInt16.toInt32)), .val (.int (1 : Int32)), .unset] [])) (fun t k => XS.istore X75.here hx rfl (hb hby at_21) rfl (l' := #[.val (.int p1), .val (.int p2), .val (.int (11 : Int32)), .val (.ref (A 11)), .val (.int (p2.toInt16.toInt32)), .val (.int (1 : Int32)), .unset]) rfl k) ?_
  refine own_st (V := T75.setTop (mkF m 25 #[.val (.int p1), .val (.int p2), .val (.int (11 : Int32)), .val (.ref (A 11)), .val (.int (p2.toInt16.toInt32)), .val (.int (1 : Int32)), .unset] [(.int (p2.toInt16.toInt32))])) (fun t k => XS.iload X75.here hx rfl (hb hby at_23) rfl k) ?_
  by_cases ha : (p2.toInt16.toInt32) < (0 : Int32)
  · refine own_st (V := T75.setTop (mkF m 39 #[.val (.int p1), .val (.int p2), .val (.int (11 : Int32)), .val (.ref (A 11)), .val (.int (p2.toInt16.toInt32)), .val (.int (1 : Int32)), .unset] [])) (fun t k => XS.ifYes X75.here hx rfl (pc0 := 25) (pc' := 39) rfl (hb hby at_25) rfl ((if0 _ _).trans (tlt ha).1) (by decide) (by decide) k) ?_
    refine own_st (V := T75.setTop (mkF m 40 #[.val (.int p1), .val (.int p2), .val (.int (11 : Int32)), .val (.ref (A 11)), .val (.int (p2.toInt16.toInt32)), .val (.int (1 : Int32)), .unset] [(.int (0 : Int32))])) (fun t k => XS.iconst X75.here hx rfl (hb hby at_39) k) ?_
    refine own_st (V := T75.setTop (mkF m 42 #[.val (.int p1), .val (.int p2), .val (.int (11 : Int32)), .val (.ref (A 11)), .val (.int (p2.toInt16.toInt32)), .val (.int (1 : Int32)), .val (.int (0 : Int32))] [])) (fun t k => XS.istore X75.here hx rfl (hb hby at_40) rfl (l' := #[.val (.int p1), .val (.int p2), .val (.int (11 : Int32)), .val (.ref (A 11)), .val (.int (p2.toInt16.toInt32)), .val (.int (1 : Int32)), .val (.int (0 : Int32))]) rfl k) ?_
    refine own_st (V := T75.setTop (mkF m 43 #[.val (.int p1), .val (.int p2), .val (.int (11 : Int32)), .val (.ref (A 11)), .val (.int (p2.toInt16.toInt32)), .val (.int (1 : Int32)), .val (.int (0 : Int32))] [(.ref (A 11))])) (fun t k => XS.aloadN X75.here hx rfl (hb hby at_42) rfl rfl k) ?_
    refine own_st (V := T75.setTop (mkF m 45 #[.val (.int p1), .val (.int p2), .val (.int (11 : Int32)), .val (.ref (A 11)), .val (.int (p2.toInt16.toInt32)), .val (.int (1 : Int32)), .val (.int (0 : Int32))] [(.int (p2.toInt16.toInt32)), (.ref (A 11))])) (fun t k => XS.iload X75.here hx rfl (hb hby at_43) rfl k) ?_
    obtain ⟨cq76, kq76, q76a, q76b, q76c⟩ := isOf hZ e75 (own_E En 11 (i := 11) (n := "LIST_GROUPS") rfl)
    obtain ⟨_, _, ⟨T76, L76, k76, n76⟩, -, X76, ⟨Lc76, hQ76, l76, y76, z76⟩, st76⟩ := X75.virtualBack hx (y := (⟨"com/example/bhaga/bhaga/wire/Api", "serves", "(S)Z"⟩ : MethodName)) (z := (⟨"com/example/bhaga/bhaga/wire/Api", "serves", "(S)Z"⟩ : MethodName)) hown (mvT hZ (hw _ (List.mem_of_getElem? (i := 11) rfl))) (mvT hZ (hw _ (List.mem_of_getElem? (i := 12) rfl))) (notFace_of_selects (args := #[]) (mvT hZ (hw _ (List.mem_of_getElem? (i := 14) rfl)))) (mvT hZ (hw _ (List.mem_of_getElem? (i := 14) rfl))) (mvT hZ (hw _ (List.mem_of_getElem? (i := 13) rfl))) (by decide) (backOf (W := 0) (own_ma l Z a0 hw [] (A 11) (p2.toInt16.toInt32) (1 : Int32) h0 n0 Z0 (own_F0 En 11 (i := 11) (n := "LIST_GROUPS") rfl) (own_F1 En 11 (i := 11) (n := "LIST_GROUPS") rfl) ha) hZ (hw _ (List.mem_of_getElem? (i := 15) rfl)) (hw _ (List.mem_of_getElem? (i := 6) rfl)) (by decide) (by decide)) q76a q76c (g := (mkF m 45 #[.val (.int p1), .val (.int p2), .val (.int (11 : Int32)), .val (.ref (A 11)), .val (.int (p2.toInt16.toInt32)), .val (.int (1 : Int32)), .val (.int (0 : Int32))] [(.int (p2.toInt16.toInt32)), (.ref (A 11))])) rfl (by rw [hml]; rfl) (Steps.refl _) (argsL := [(.int (p2.toInt16.toInt32))]) (rest := []) (lenOf own_pd2 rfl) rfl (by show 2 * 0 + _ ≤ _; exact Nat.le_of_eq rfl) (hb hby at_45) (fun _ _ => ⟨rfl, e75, (by decide : 0 + 0 ≤ _), (by decide : 0 + 0 ≤ _)⟩)
    dsimp only [Pt.U, Pt.locs, Pt.cells, Pt.slots] at X76 l76 y76 z76 st76 hQ76
    subst l76 y76 z76
    obtain ⟨rfl, N76q, e76⟩ := hQ76
    have N76 := Fr.app N75 N76q
    refine own_st (V := T76.setTop (mkF m 48 #[.val (.int p1), .val (.int p2), .val (.int (11 : Int32)), .val (.ref (A 11)), .val (.int (p2.toInt16.toInt32)), .val (.int (1 : Int32)), .val (.int (0 : Int32))] [(.int (0 : Int32))])) (fun t k => st76.trans k) ?_
    refine own_st (V := T76.setTop (mkF m 50 #[.val (.int p1), .val (.int p2), .val (.int (11 : Int32)), .val (.ref (A 11)), .val (.int (p2.toInt16.toInt32)), .val (.int (1 : Int32)), .val (.int (0 : Int32))] [(.int (0 : Int32)), (.int (0 : Int32))])) (fun t k => XS.iload X76.here hx rfl (hb hby at_48) rfl k) ?_
    refine own_st (V := T76.setTop (mkF m 53 #[.val (.int p1), .val (.int p2), .val (.int (11 : Int32)), .val (.ref (A 11)), .val (.int (p2.toInt16.toInt32)), .val (.int (1 : Int32)), .val (.int (0 : Int32))] [])) (fun t k => XS.icmpNo X76.here hx rfl (hb hby at_50) rfl (teq (by decide : (0 : Int32) = (0 : Int32))).2 k) ?_
    refine own_st (V := T76.setTop (mkF m 54 #[.val (.int p1), .val (.int p2), .val (.int (11 : Int32)), .val (.ref (A 11)), .val (.int (p2.toInt16.toInt32)), .val (.int (1 : Int32)), .val (.int (0 : Int32))] [(.int (1 : Int32))])) (fun t k => XS.iconst X76.here hx rfl (hb hby at_53) k) ?_
    refine own_st (V := T76.setTop (mkF m 58 #[.val (.int p1), .val (.int p2), .val (.int (11 : Int32)), .val (.ref (A 11)), .val (.int (p2.toInt16.toInt32)), .val (.int (1 : Int32)), .val (.int (0 : Int32))] [(.int (1 : Int32))])) (fun t k => XS.goto X76.here hx rfl (pc0 := 54) (pc' := 58) rfl (hb hby at_54) (by decide) (by decide) k) ?_
    exact own_ret X76 hx hlk Bd.returns (by decide +kernel) (Or.inl ⟨rfl, by simp, _, rfl⟩) (hb hby at_58) (by decide) (by decide) (by show own_Q0 Z p1 p2 A h0 n0 _ T76.heap _; rw [e76]; exact ⟨rfl, N76⟩)
  · refine own_st (V := T75.setTop (mkF m 28 #[.val (.int p1), .val (.int p2), .val (.int (11 : Int32)), .val (.ref (A 11)), .val (.int (p2.toInt16.toInt32)), .val (.int (1 : Int32)), .unset] [])) (fun t k => XS.ifNo X75.here hx rfl (hb hby at_25) rfl ((if0 _ _).trans (flt ha).1) k) ?_
    refine own_st (V := T75.setTop (mkF m 30 #[.val (.int p1), .val (.int p2), .val (.int (11 : Int32)), .val (.ref (A 11)), .val (.int (p2.toInt16.toInt32)), .val (.int (1 : Int32)), .unset] [(.int (p2.toInt16.toInt32))])) (fun t k => XS.iload X75.here hx rfl (hb hby at_28) rfl k) ?_
    refine own_st (V := T75.setTop (mkF m 32 #[.val (.int p1), .val (.int p2), .val (.int (11 : Int32)), .val (.ref (A 11)), .val (.int (p2.toInt16.toInt32)), .val (.int (1 : Int32)), .unset] [(.int (1 : Int32)), (.int (p2.toInt16.toInt32))])) (fun t k => XS.iload X75.here hx rfl (hb hby at_30) rfl k) ?_
    by_cases hc : (1 : Int32) < (p2.toInt16.toInt32)
    · refine own_st (V := T75.setTop (mkF m 39 #[.val (.int p1), .val (.int p2), .val (.int (11 : Int32)), .val (.ref (A 11)), .val (.int (p2.toInt16.toInt32)), .val (.int (1 : Int32)), .unset] [])) (fun t k => XS.icmpYes X75.here hx rfl (pc0 := 32) (pc' := 39) rfl (hb hby at_32) rfl (tlt hc).2.2.1 (by decide) (by decide) k) ?_
      refine own_st (V := T75.setTop (mkF m 40 #[.val (.int p1), .val (.int p2), .val (.int (11 : Int32)), .val (.ref (A 11)), .val (.int (p2.toInt16.toInt32)), .val (.int (1 : Int32)), .unset] [(.int (0 : Int32))])) (fun t k => XS.iconst X75.here hx rfl (hb hby at_39) k) ?_
      refine own_st (V := T75.setTop (mkF m 42 #[.val (.int p1), .val (.int p2), .val (.int (11 : Int32)), .val (.ref (A 11)), .val (.int (p2.toInt16.toInt32)), .val (.int (1 : Int32)), .val (.int (0 : Int32))] [])) (fun t k => XS.istore X75.here hx rfl (hb hby at_40) rfl (l' := #[.val (.int p1), .val (.int p2), .val (.int (11 : Int32)), .val (.ref (A 11)), .val (.int (p2.toInt16.toInt32)), .val (.int (1 : Int32)), .val (.int (0 : Int32))]) rfl k) ?_
      refine own_st (V := T75.setTop (mkF m 43 #[.val (.int p1), .val (.int p2), .val (.int (11 : Int32)), .val (.ref (A 11)), .val (.int (p2.toInt16.toInt32)), .val (.int (1 : Int32)), .val (.int (0 : Int32))] [(.ref (A 11))])) (fun t k => XS.aloadN X75.here hx rfl (hb hby at_42) rfl rfl k) ?_
      refine own_st (V := T75.setTop (mkF m 45 #[.val (.int p1), .val (.int p2), .val (.int (11 : Int32)), .val (.ref (A 11)), .val (.int (p2.toInt16.toInt32)), .val (.int (1 : Int32)), .val (.int (0 : Int32))] [(.int (p2.toInt16.toInt32)), (.ref (A 11))])) (fun t k => XS.iload X75.here hx rfl (hb hby at_43) rfl k) ?_
      obtain ⟨cq77, kq77, q77a, q77b, q77c⟩ := isOf hZ e75 (own_E En 11 (i := 11) (n := "LIST_GROUPS") rfl)
      obtain ⟨_, _, ⟨T77, L77, k77, n77⟩, -, X77, ⟨Lc77, hQ77, l77, y77, z77⟩, st77⟩ := X75.virtualBack hx (y := (⟨"com/example/bhaga/bhaga/wire/Api", "serves", "(S)Z"⟩ : MethodName)) (z := (⟨"com/example/bhaga/bhaga/wire/Api", "serves", "(S)Z"⟩ : MethodName)) hown (mvT hZ (hw _ (List.mem_of_getElem? (i := 11) rfl))) (mvT hZ (hw _ (List.mem_of_getElem? (i := 12) rfl))) (notFace_of_selects (args := #[]) (mvT hZ (hw _ (List.mem_of_getElem? (i := 14) rfl)))) (mvT hZ (hw _ (List.mem_of_getElem? (i := 14) rfl))) (mvT hZ (hw _ (List.mem_of_getElem? (i := 13) rfl))) (by decide) (backOf (W := 0) (own_mb l Z a0 hw [] (A 11) (p2.toInt16.toInt32) (1 : Int32) h0 n0 Z0 (own_F0 En 11 (i := 11) (n := "LIST_GROUPS") rfl) (own_F1 En 11 (i := 11) (n := "LIST_GROUPS") rfl) ha hc) hZ (hw _ (List.mem_of_getElem? (i := 15) rfl)) (hw _ (List.mem_of_getElem? (i := 6) rfl)) (by decide) (by decide)) q77a q77c (g := (mkF m 45 #[.val (.int p1), .val (.int p2), .val (.int (11 : Int32)), .val (.ref (A 11)), .val (.int (p2.toInt16.toInt32)), .val (.int (1 : Int32)), .val (.int (0 : Int32))] [(.int (p2.toInt16.toInt32)), (.ref (A 11))])) rfl (by rw [hml]; rfl) (Steps.refl _) (argsL := [(.int (p2.toInt16.toInt32))]) (rest := []) (lenOf own_pd2 rfl) rfl (by show 2 * 0 + _ ≤ _; exact Nat.le_of_eq rfl) (hb hby at_45) (fun _ _ => ⟨rfl, e75, (by decide : 0 + 0 ≤ _), (by decide : 0 + 0 ≤ _)⟩)
      dsimp only [Pt.U, Pt.locs, Pt.cells, Pt.slots] at X77 l77 y77 z77 st77 hQ77
      subst l77 y77 z77
      obtain ⟨rfl, N77q, e77⟩ := hQ77
      have N77 := Fr.app N75 N77q
      refine own_st (V := T77.setTop (mkF m 48 #[.val (.int p1), .val (.int p2), .val (.int (11 : Int32)), .val (.ref (A 11)), .val (.int (p2.toInt16.toInt32)), .val (.int (1 : Int32)), .val (.int (0 : Int32))] [(.int (0 : Int32))])) (fun t k => st77.trans k) ?_
      refine own_st (V := T77.setTop (mkF m 50 #[.val (.int p1), .val (.int p2), .val (.int (11 : Int32)), .val (.ref (A 11)), .val (.int (p2.toInt16.toInt32)), .val (.int (1 : Int32)), .val (.int (0 : Int32))] [(.int (0 : Int32)), (.int (0 : Int32))])) (fun t k => XS.iload X77.here hx rfl (hb hby at_48) rfl k) ?_
      refine own_st (V := T77.setTop (mkF m 53 #[.val (.int p1), .val (.int p2), .val (.int (11 : Int32)), .val (.ref (A 11)), .val (.int (p2.toInt16.toInt32)), .val (.int (1 : Int32)), .val (.int (0 : Int32))] [])) (fun t k => XS.icmpNo X77.here hx rfl (hb hby at_50) rfl (teq (by decide : (0 : Int32) = (0 : Int32))).2 k) ?_
      refine own_st (V := T77.setTop (mkF m 54 #[.val (.int p1), .val (.int p2), .val (.int (11 : Int32)), .val (.ref (A 11)), .val (.int (p2.toInt16.toInt32)), .val (.int (1 : Int32)), .val (.int (0 : Int32))] [(.int (1 : Int32))])) (fun t k => XS.iconst X77.here hx rfl (hb hby at_53) k) ?_
      refine own_st (V := T77.setTop (mkF m 58 #[.val (.int p1), .val (.int p2), .val (.int (11 : Int32)), .val (.ref (A 11)), .val (.int (p2.toInt16.toInt32)), .val (.int (1 : Int32)), .val (.int (0 : Int32))] [(.int (1 : Int32))])) (fun t k => XS.goto X77.here hx rfl (pc0 := 54) (pc' := 58) rfl (hb hby at_54) (by decide) (by decide) k) ?_
      exact own_ret X77 hx hlk Bd.returns (by decide +kernel) (Or.inl ⟨rfl, by simp, _, rfl⟩) (hb hby at_58) (by decide) (by decide) (by show own_Q0 Z p1 p2 A h0 n0 _ T77.heap _; rw [e77]; exact ⟨rfl, N77⟩)
    · refine own_st (V := T75.setTop (mkF m 35 #[.val (.int p1), .val (.int p2), .val (.int (11 : Int32)), .val (.ref (A 11)), .val (.int (p2.toInt16.toInt32)), .val (.int (1 : Int32)), .unset] [])) (fun t k => XS.icmpNo X75.here hx rfl (hb hby at_32) rfl (flt hc).2.2.1 k) ?_
      refine own_st (V := T75.setTop (mkF m 36 #[.val (.int p1), .val (.int p2), .val (.int (11 : Int32)), .val (.ref (A 11)), .val (.int (p2.toInt16.toInt32)), .val (.int (1 : Int32)), .unset] [(.int (1 : Int32))])) (fun t k => XS.iconst X75.here hx rfl (hb hby at_35) k) ?_
      refine own_st (V := T75.setTop (mkF m 40 #[.val (.int p1), .val (.int p2), .val (.int (11 : Int32)), .val (.ref (A 11)), .val (.int (p2.toInt16.toInt32)), .val (.int (1 : Int32)), .unset] [(.int (1 : Int32))])) (fun t k => XS.goto X75.here hx rfl (pc0 := 36) (pc' := 40) rfl (hb hby at_36) (by decide) (by decide) k) ?_
      refine own_st (V := T75.setTop (mkF m 42 #[.val (.int p1), .val (.int p2), .val (.int (11 : Int32)), .val (.ref (A 11)), .val (.int (p2.toInt16.toInt32)), .val (.int (1 : Int32)), .val (.int (1 : Int32))] [])) (fun t k => XS.istore X75.here hx rfl (hb hby at_40) rfl (l' := #[.val (.int p1), .val (.int p2), .val (.int (11 : Int32)), .val (.ref (A 11)), .val (.int (p2.toInt16.toInt32)), .val (.int (1 : Int32)), .val (.int (1 : Int32))]) rfl k) ?_
      refine own_st (V := T75.setTop (mkF m 43 #[.val (.int p1), .val (.int p2), .val (.int (11 : Int32)), .val (.ref (A 11)), .val (.int (p2.toInt16.toInt32)), .val (.int (1 : Int32)), .val (.int (1 : Int32))] [(.ref (A 11))])) (fun t k => XS.aloadN X75.here hx rfl (hb hby at_42) rfl rfl k) ?_
      refine own_st (V := T75.setTop (mkF m 45 #[.val (.int p1), .val (.int p2), .val (.int (11 : Int32)), .val (.ref (A 11)), .val (.int (p2.toInt16.toInt32)), .val (.int (1 : Int32)), .val (.int (1 : Int32))] [(.int (p2.toInt16.toInt32)), (.ref (A 11))])) (fun t k => XS.iload X75.here hx rfl (hb hby at_43) rfl k) ?_
      obtain ⟨cq78, kq78, q78a, q78b, q78c⟩ := isOf hZ e75 (own_E En 11 (i := 11) (n := "LIST_GROUPS") rfl)
      obtain ⟨_, _, ⟨T78, L78, k78, n78⟩, -, X78, ⟨Lc78, hQ78, l78, y78, z78⟩, st78⟩ := X75.virtualBack hx (y := (⟨"com/example/bhaga/bhaga/wire/Api", "serves", "(S)Z"⟩ : MethodName)) (z := (⟨"com/example/bhaga/bhaga/wire/Api", "serves", "(S)Z"⟩ : MethodName)) hown (mvT hZ (hw _ (List.mem_of_getElem? (i := 11) rfl))) (mvT hZ (hw _ (List.mem_of_getElem? (i := 12) rfl))) (notFace_of_selects (args := #[]) (mvT hZ (hw _ (List.mem_of_getElem? (i := 14) rfl)))) (mvT hZ (hw _ (List.mem_of_getElem? (i := 14) rfl))) (mvT hZ (hw _ (List.mem_of_getElem? (i := 13) rfl))) (by decide) (backOf (W := 0) (own_mc l Z a0 hw [] (A 11) (p2.toInt16.toInt32) (1 : Int32) h0 n0 Z0 (own_F0 En 11 (i := 11) (n := "LIST_GROUPS") rfl) (own_F1 En 11 (i := 11) (n := "LIST_GROUPS") rfl) ha hc) hZ (hw _ (List.mem_of_getElem? (i := 15) rfl)) (hw _ (List.mem_of_getElem? (i := 6) rfl)) (by decide) (by decide)) q78a q78c (g := (mkF m 45 #[.val (.int p1), .val (.int p2), .val (.int (11 : Int32)), .val (.ref (A 11)), .val (.int (p2.toInt16.toInt32)), .val (.int (1 : Int32)), .val (.int (1 : Int32))] [(.int (p2.toInt16.toInt32)), (.ref (A 11))])) rfl (by rw [hml]; rfl) (Steps.refl _) (argsL := [(.int (p2.toInt16.toInt32))]) (rest := []) (lenOf own_pd2 rfl) rfl (by show 2 * 0 + _ ≤ _; exact Nat.le_of_eq rfl) (hb hby at_45) (fun _ _ => ⟨rfl, e75, (by decide : 0 + 0 ≤ _), (by decide : 0 + 0 ≤ _)⟩)
      dsimp only [Pt.U, Pt.locs, Pt.cells, Pt.slots] at X78 l78 y78 z78 st78 hQ78
      subst l78 y78 z78
      obtain ⟨rfl, N78q, e78⟩ := hQ78
      have N78 := Fr.app N75 N78q
      refine own_st (V := T78.setTop (mkF m 48 #[.val (.int p1), .val (.int p2), .val (.int (11 : Int32)), .val (.ref (A 11)), .val (.int (p2.toInt16.toInt32)), .val (.int (1 : Int32)), .val (.int (1 : Int32))] [(.int (1 : Int32))])) (fun t k => st78.trans k) ?_
      refine own_st (V := T78.setTop (mkF m 50 #[.val (.int p1), .val (.int p2), .val (.int (11 : Int32)), .val (.ref (A 11)), .val (.int (p2.toInt16.toInt32)), .val (.int (1 : Int32)), .val (.int (1 : Int32))] [(.int (1 : Int32)), (.int (1 : Int32))])) (fun t k => XS.iload X78.here hx rfl (hb hby at_48) rfl k) ?_
      refine own_st (V := T78.setTop (mkF m 53 #[.val (.int p1), .val (.int p2), .val (.int (11 : Int32)), .val (.ref (A 11)), .val (.int (p2.toInt16.toInt32)), .val (.int (1 : Int32)), .val (.int (1 : Int32))] [])) (fun t k => XS.icmpNo X78.here hx rfl (hb hby at_50) rfl (teq (by decide : (1 : Int32) = (1 : Int32))).2 k) ?_
      refine own_st (V := T78.setTop (mkF m 54 #[.val (.int p1), .val (.int p2), .val (.int (11 : Int32)), .val (.ref (A 11)), .val (.int (p2.toInt16.toInt32)), .val (.int (1 : Int32)), .val (.int (1 : Int32))] [(.int (1 : Int32))])) (fun t k => XS.iconst X78.here hx rfl (hb hby at_53) k) ?_
      refine own_st (V := T78.setTop (mkF m 58 #[.val (.int p1), .val (.int p2), .val (.int (11 : Int32)), .val (.ref (A 11)), .val (.int (p2.toInt16.toInt32)), .val (.int (1 : Int32)), .val (.int (1 : Int32))] [(.int (1 : Int32))])) (fun t k => XS.goto X78.here hx rfl (pc0 := 54) (pc' := 58) rfl (hb hby at_54) (by decide) (by decide) k) ?_
      exact own_ret X78 hx hlk Bd.returns (by decide +kernel) (Or.inl ⟨rfl, by simp, _, rfl⟩) (hb hby at_58) (by decide) (by decide) (by show own_Q0 Z p1 p2 A h0 n0 _ T78.heap _; rw [e78]; exact ⟨rfl, N78⟩)
set_option maxRecDepth 65536 in
set_option maxHeartbeats 40000000 in
theorem own_law12 (l : Launch) (Z : State) (a0 : Array Value) (hw : ∀ d ∈ tables_1, d.before a0 Z = true) (ws : List Jvm.Cond) (p1 : Int32) (p2 : Int32) (A : Nat → Addr) (h0 : Heap) (n0 : Nat) (Z0 : n0 ≤ h0.size) (En : own_En Z h0 A) (hk : ((p1 &&& (2147483647 : Int32)) % (13 : Int32)) = (12 : Int32)) :
    MetFree l x (head1 (Jvm.Cond.code x code maxLocals ret :: ws) room_1) (fun a U => a = #[(.int p1), (.int p2)] ∧ Z.Warmed39 U.vm ∧ U.heap = h0) (fun _ _ _ _ _ => True) (fun _ U o U' => ∃ v L, o = .returned v ∧ own_Q0 Z p1 p2 A h0 n0 v U'.heap L ∧ FrameEnd U o U' L room_1.cells room_1.slots) := by
  refine MetFree.of_bodySF (plainFor_of_name own_pn_com_example_bhaga_bhaga_wire_ApiServesPinLaw) hisR ?_
  intro p e s m args below meth c s₁ Bd hml0 hP hK
  obtain ⟨rfl, hZ, hh⟩ := hP
  have hx := Bd.exec
  have hby := Bd.bytes
  have hml : c.maxLocals = 7 := hml0
  have hown : s.vm.findClass "com/example/bhaga/bhaga/wire/ApiServesPinLaw" = some m.cls := findClass_of_methodNamed Bd.named
  have hnm := (name_of_methodNamed Bd.named Bd.method).1
  have hlk : meth.locks = false := BodyLoose.notSynchronized Bd
  have X0 : Stand p l e room_1 s m #[(.int p1), (.int p2)] below meth c s₁ [] 0 0 := Stand.of_body Bd
  have e0 : s₁.heap = h0 := by rw [← hh, Bd.state]; rfl
  have N0 := Fr.nil n0
  show own_Go p e below #[(.int p1), (.int p2)] s (fun _ U o U' => ∃ v L, o = .returned v ∧ own_Q0 Z p1 p2 A h0 n0 v U'.heap L ∧ FrameEnd U o U' L room_1.cells room_1.slots) (s₁.setTop (entryFrame m #[(.int p1), (.int p2)] maxLocals))
  refine own_st (V := s₁.setTop (mkF m 0 #[.val (.int p1), .val (.int p2), .unset, .unset, .unset, .unset, .unset] [])) (fun t k => castTop (by first | (simp [entryFrame, mkF, argsToLocals, Value.category, maxLocals]; done) | rfl) k) ?_
  refine own_st (V := s₁.setTop (mkF m 1 #[.val (.int p1), .val (.int p2), .unset, .unset, .unset, .unset, .unset] [(.int p1)])) (fun t k => XS.iloadN X0.here hx rfl (hb hby at_0) rfl k) ?_
  refine own_st (V := s₁.setTop (mkF m 3 #[.val (.int p1), .val (.int p2), .unset, .unset, .unset, .unset, .unset] [(.int (2147483647 : Int32)), (.int p1)])) (fun t k => X0.ldcInt hx hown (mvT hZ (hw _ (List.mem_of_getElem? (i := 0) rfl))) (g := (mkF m 1 #[.val (.int p1), .val (.int p2), .unset, .unset, .unset, .unset, .unset] [(.int p1)])) rfl (hb hby at_1) t k) ?_
  refine own_st (V := s₁.setTop (mkF m 4 #[.val (.int p1), .val (.int p2), .unset, .unset, .unset, .unset, .unset] [(.int (p1 &&& (2147483647 : Int32)))])) (fun t k => XS.iand X0.here hx rfl (hb hby at_3) rfl k) ?_
  refine own_st (V := s₁.setTop (mkF m 6 #[.val (.int p1), .val (.int p2), .unset, .unset, .unset, .unset, .unset] [(.int (13 : Int32)), (.int (p1 &&& (2147483647 : Int32)))])) (fun t k => XS.bipush X0.here hx rfl (hb hby at_4) k) ?_
  refine own_st (V := s₁.setTop (mkF m 7 #[.val (.int p1), .val (.int p2), .unset, .unset, .unset, .unset, .unset] [(.int ((p1 &&& (2147483647 : Int32)) % (13 : Int32)))])) (fun t k => Jvm.RoadKit.iremM X0 hx rfl (hb hby at_6) rfl (by decide) k) ?_
  rw [hk]
  refine own_st (V := s₁.setTop (mkF m 8 #[.val (.int p1), .val (.int p2), .val (.int (12 : Int32)), .unset, .unset, .unset, .unset] [])) (fun t k => XS.istoreN X0.here hx rfl (hb hby at_7) rfl (l' := #[.val (.int p1), .val (.int p2), .val (.int (12 : Int32)), .unset, .unset, .unset, .unset]) rfl k) ?_
  refine own_st (V := s₁.setTop (mkF m 9 #[.val (.int p1), .val (.int p2), .val (.int (12 : Int32)), .unset, .unset, .unset, .unset] [(.int (12 : Int32))])) (fun t k => XS.iloadN X0.here hx rfl (hb hby at_8) rfl k) ?_
  obtain ⟨_, _, ⟨T79, L79, k79, n79⟩, -, X79, ⟨Lc79, hQ79, l79, y79, z79⟩, st79⟩ := Jvm.LawKit.callS X0 hx (y := (⟨"com/example/bhaga/bhaga/wire/ApiServesPinLaw", "pick", "(I)Lcom/example/bhaga/bhaga/wire/Api;"⟩ : MethodName)) hown (mvT hZ (hw _ (List.mem_of_getElem? (i := 1) rfl))) (mvT hZ (hw _ (List.mem_of_getElem? (i := 2) rfl))) (mvT hZ (hw _ (List.mem_of_getElem? (i := 3) rfl))) (mvT hZ (hw _ (List.mem_of_getElem? (i := 4) rfl))) (by decide) (backOf (W := 0) (own_pick12 l Z a0 hw [] A h0 n0 Z0 En ) hZ (hw _ (List.mem_of_getElem? (i := 4) rfl)) (hw _ (List.mem_of_getElem? (i := 3) rfl)) (by decide) (by decide)) (g := (mkF m 9 #[.val (.int p1), .val (.int p2), .val (.int (12 : Int32)), .unset, .unset, .unset, .unset] [(.int (12 : Int32))])) rfl (by rw [hml]; rfl) (argsL := [(.int (12 : Int32))]) (rest := []) (lenOf own_pd0 rfl) rfl (by show 2 * 0 + _ ≤ _; exact Nat.le_of_eq rfl) (hb hby at_9) (fun _ _ => ⟨rfl, e0, (by decide : 0 + 0 ≤ _), (by decide : 0 + 0 ≤ _)⟩)
  dsimp only [Pt.U, Pt.locs, Pt.cells, Pt.slots] at X79 l79 y79 z79 st79 hQ79
  subst l79 y79 z79
  obtain ⟨rfl, N79q, e79⟩ := hQ79
  have N79 := Fr.app N0 N79q
  refine own_st (V := T79.setTop (mkF m 12 #[.val (.int p1), .val (.int p2), .val (.int (12 : Int32)), .unset, .unset, .unset, .unset] [(.ref (A 12))])) (fun t k => st79 _ k) ?_
  refine own_st (V := T79.setTop (mkF m 13 #[.val (.int p1), .val (.int p2), .val (.int (12 : Int32)), .val (.ref (A 12)), .unset, .unset, .unset] [])) (fun t k => XS.astoreN X79.here hx rfl (hb hby at_12) rfl rfl (l' := #[.val (.int p1), .val (.int p2), .val (.int (12 : Int32)), .val (.ref (A 12)), .unset, .unset, .unset]) rfl k) ?_
  refine own_st (V := T79.setTop (mkF m 14 #[.val (.int p1), .val (.int p2), .val (.int (12 : Int32)), .val (.ref (A 12)), .unset, .unset, .unset] [(.int p2)])) (fun t k => XS.iloadN X79.here hx rfl (hb hby at_13) rfl k) ?_
  refine own_st (V := T79.setTop (mkF m 15 #[.val (.int p1), .val (.int p2), .val (.int (12 : Int32)), .val (.ref (A 12)), .unset, .unset, .unset] [(.int (p2.toInt16.toInt32))])) (fun t k => XS.i2s X79.here hx rfl (hb hby at_14) rfl k) ?_
  refine own_st (V := T79.setTop (mkF m 17 #[.val (.int p1), .val (.int p2), .val (.int (12 : Int32)), .val (.ref (A 12)), .val (.int (p2.toInt16.toInt32)), .unset, .unset] [])) (fun t k => XS.istore X79.here hx rfl (hb hby at_15) rfl (l' := #[.val (.int p1), .val (.int p2), .val (.int (12 : Int32)), .val (.ref (A 12)), .val (.int (p2.toInt16.toInt32)), .unset, .unset]) rfl k) ?_
  refine own_st (V := T79.setTop (mkF m 18 #[.val (.int p1), .val (.int p2), .val (.int (12 : Int32)), .val (.ref (A 12)), .val (.int (p2.toInt16.toInt32)), .unset, .unset] [(.int (12 : Int32))])) (fun t k => XS.iloadN X79.here hx rfl (hb hby at_17) rfl k) ?_
  obtain ⟨_, _, ⟨T80, L80, k80, n80⟩, -, X80, ⟨Lc80, hQ80, l80, y80, z80⟩, st80⟩ := Jvm.LawKit.callS X79 hx (y := (⟨"com/example/bhaga/bhaga/wire/ApiServesPinLaw", "expectedMax", "(I)I"⟩ : MethodName)) hown (mvT hZ (hw _ (List.mem_of_getElem? (i := 8) rfl))) (mvT hZ (hw _ (List.mem_of_getElem? (i := 9) rfl))) (mvT hZ (hw _ (List.mem_of_getElem? (i := 3) rfl))) (mvT hZ (hw _ (List.mem_of_getElem? (i := 10) rfl))) (by decide) (backOf (W := 0) (own_em12 l Z a0 hw [] h0 n0 Z0 ) hZ (hw _ (List.mem_of_getElem? (i := 10) rfl)) (hw _ (List.mem_of_getElem? (i := 3) rfl)) (by decide) (by decide)) (g := (mkF m 18 #[.val (.int p1), .val (.int p2), .val (.int (12 : Int32)), .val (.ref (A 12)), .val (.int (p2.toInt16.toInt32)), .unset, .unset] [(.int (12 : Int32))])) rfl (by rw [hml]; rfl) (argsL := [(.int (12 : Int32))]) (rest := []) (lenOf own_pd1 rfl) rfl (by show 2 * 0 + _ ≤ _; exact Nat.le_of_eq rfl) (hb hby at_18) (fun _ _ => ⟨rfl, e79, (by decide : 0 + 0 ≤ _), (by decide : 0 + 0 ≤ _)⟩)
  dsimp only [Pt.U, Pt.locs, Pt.cells, Pt.slots] at X80 l80 y80 z80 st80 hQ80
  subst l80 y80 z80
  obtain ⟨rfl, N80q, e80⟩ := hQ80
  have N80 := Fr.app N79 N80q
  refine own_st (V := T80.setTop (mkF m 21 #[.val (.int p1), .val (.int p2), .val (.int (12 : Int32)), .val (.ref (A 12)), .val (.int (p2.toInt16.toInt32)), .unset, .unset] [(.int (2 : Int32))])) (fun t k => st80 _ k) ?_
  refine own_st (V := T80.setTop (mkF m 23 #[.val (.int p1), .val (.int p2), .val (.int (12 : Int32)), .val (.ref (A 12)), .val (.int (p2.toInt16.toInt32)), .val (.int (2 : Int32)), .unset] [])) (fun t k => XS.istore X80.here hx rfl (hb hby at_21) rfl (l' := #[.val (.int p1), .val (.int p2), .val (.int (12 : Int32)), .val (.ref (A 12)), .val (.int (p2.toInt16.toInt32)), .val (.int (2 : Int32)), .unset]) rfl k) ?_
  refine own_st (V := T80.setTop (mkF m 25 #[.val (.int p1), .val (.int p2), .val (.int (12 : Int32)), .val (.ref (A 12)), .val (.int (p2.toInt16.toInt32)), .val (.int (2 : Int32)), .unset] [(.int (p2.toInt16.toInt32))])) (fun t k => XS.iload X80.here hx rfl (hb hby at_23) rfl k) ?_
  by_cases ha : (p2.toInt16.toInt32) < (0 : Int32)
  · refine own_st (V := T80.setTop (mkF m 39 #[.val (.int p1), .val (.int p2), .val (.int (12 : Int32)), .val (.ref (A 12)), .val (.int (p2.toInt16.toInt32)), .val (.int (2 : Int32)), .unset] [])) (fun t k => XS.ifYes X80.here hx rfl (pc0 := 25) (pc' := 39) rfl (hb hby at_25) rfl ((if0 _ _).trans (tlt ha).1) (by decide) (by decide) k) ?_
    refine own_st (V := T80.setTop (mkF m 40 #[.val (.int p1), .val (.int p2), .val (.int (12 : Int32)), .val (.ref (A 12)), .val (.int (p2.toInt16.toInt32)), .val (.int (2 : Int32)), .unset] [(.int (0 : Int32))])) (fun t k => XS.iconst X80.here hx rfl (hb hby at_39) k) ?_
    refine own_st (V := T80.setTop (mkF m 42 #[.val (.int p1), .val (.int p2), .val (.int (12 : Int32)), .val (.ref (A 12)), .val (.int (p2.toInt16.toInt32)), .val (.int (2 : Int32)), .val (.int (0 : Int32))] [])) (fun t k => XS.istore X80.here hx rfl (hb hby at_40) rfl (l' := #[.val (.int p1), .val (.int p2), .val (.int (12 : Int32)), .val (.ref (A 12)), .val (.int (p2.toInt16.toInt32)), .val (.int (2 : Int32)), .val (.int (0 : Int32))]) rfl k) ?_
    refine own_st (V := T80.setTop (mkF m 43 #[.val (.int p1), .val (.int p2), .val (.int (12 : Int32)), .val (.ref (A 12)), .val (.int (p2.toInt16.toInt32)), .val (.int (2 : Int32)), .val (.int (0 : Int32))] [(.ref (A 12))])) (fun t k => XS.aloadN X80.here hx rfl (hb hby at_42) rfl rfl k) ?_
    refine own_st (V := T80.setTop (mkF m 45 #[.val (.int p1), .val (.int p2), .val (.int (12 : Int32)), .val (.ref (A 12)), .val (.int (p2.toInt16.toInt32)), .val (.int (2 : Int32)), .val (.int (0 : Int32))] [(.int (p2.toInt16.toInt32)), (.ref (A 12))])) (fun t k => XS.iload X80.here hx rfl (hb hby at_43) rfl k) ?_
    obtain ⟨cq81, kq81, q81a, q81b, q81c⟩ := isOf hZ e80 (own_E En 12 (i := 12) (n := "API_VERSIONS") rfl)
    obtain ⟨_, _, ⟨T81, L81, k81, n81⟩, -, X81, ⟨Lc81, hQ81, l81, y81, z81⟩, st81⟩ := X80.virtualBack hx (y := (⟨"com/example/bhaga/bhaga/wire/Api", "serves", "(S)Z"⟩ : MethodName)) (z := (⟨"com/example/bhaga/bhaga/wire/Api", "serves", "(S)Z"⟩ : MethodName)) hown (mvT hZ (hw _ (List.mem_of_getElem? (i := 11) rfl))) (mvT hZ (hw _ (List.mem_of_getElem? (i := 12) rfl))) (notFace_of_selects (args := #[]) (mvT hZ (hw _ (List.mem_of_getElem? (i := 14) rfl)))) (mvT hZ (hw _ (List.mem_of_getElem? (i := 14) rfl))) (mvT hZ (hw _ (List.mem_of_getElem? (i := 13) rfl))) (by decide) (backOf (W := 0) (own_ma l Z a0 hw [] (A 12) (p2.toInt16.toInt32) (2 : Int32) h0 n0 Z0 (own_F0 En 12 (i := 12) (n := "API_VERSIONS") rfl) (own_F1 En 12 (i := 12) (n := "API_VERSIONS") rfl) ha) hZ (hw _ (List.mem_of_getElem? (i := 15) rfl)) (hw _ (List.mem_of_getElem? (i := 6) rfl)) (by decide) (by decide)) q81a q81c (g := (mkF m 45 #[.val (.int p1), .val (.int p2), .val (.int (12 : Int32)), .val (.ref (A 12)), .val (.int (p2.toInt16.toInt32)), .val (.int (2 : Int32)), .val (.int (0 : Int32))] [(.int (p2.toInt16.toInt32)), (.ref (A 12))])) rfl (by rw [hml]; rfl) (Steps.refl _) (argsL := [(.int (p2.toInt16.toInt32))]) (rest := []) (lenOf own_pd2 rfl) rfl (by show 2 * 0 + _ ≤ _; exact Nat.le_of_eq rfl) (hb hby at_45) (fun _ _ => ⟨rfl, e80, (by decide : 0 + 0 ≤ _), (by decide : 0 + 0 ≤ _)⟩)
    dsimp only [Pt.U, Pt.locs, Pt.cells, Pt.slots] at X81 l81 y81 z81 st81 hQ81
    subst l81 y81 z81
    obtain ⟨rfl, N81q, e81⟩ := hQ81
    have N81 := Fr.app N80 N81q
    refine own_st (V := T81.setTop (mkF m 48 #[.val (.int p1), .val (.int p2), .val (.int (12 : Int32)), .val (.ref (A 12)), .val (.int (p2.toInt16.toInt32)), .val (.int (2 : Int32)), .val (.int (0 : Int32))] [(.int (0 : Int32))])) (fun t k => st81.trans k) ?_
    refine own_st (V := T81.setTop (mkF m 50 #[.val (.int p1), .val (.int p2), .val (.int (12 : Int32)), .val (.ref (A 12)), .val (.int (p2.toInt16.toInt32)), .val (.int (2 : Int32)), .val (.int (0 : Int32))] [(.int (0 : Int32)), (.int (0 : Int32))])) (fun t k => XS.iload X81.here hx rfl (hb hby at_48) rfl k) ?_
    refine own_st (V := T81.setTop (mkF m 53 #[.val (.int p1), .val (.int p2), .val (.int (12 : Int32)), .val (.ref (A 12)), .val (.int (p2.toInt16.toInt32)), .val (.int (2 : Int32)), .val (.int (0 : Int32))] [])) (fun t k => XS.icmpNo X81.here hx rfl (hb hby at_50) rfl (teq (by decide : (0 : Int32) = (0 : Int32))).2 k) ?_
    refine own_st (V := T81.setTop (mkF m 54 #[.val (.int p1), .val (.int p2), .val (.int (12 : Int32)), .val (.ref (A 12)), .val (.int (p2.toInt16.toInt32)), .val (.int (2 : Int32)), .val (.int (0 : Int32))] [(.int (1 : Int32))])) (fun t k => XS.iconst X81.here hx rfl (hb hby at_53) k) ?_
    refine own_st (V := T81.setTop (mkF m 58 #[.val (.int p1), .val (.int p2), .val (.int (12 : Int32)), .val (.ref (A 12)), .val (.int (p2.toInt16.toInt32)), .val (.int (2 : Int32)), .val (.int (0 : Int32))] [(.int (1 : Int32))])) (fun t k => XS.goto X81.here hx rfl (pc0 := 54) (pc' := 58) rfl (hb hby at_54) (by decide) (by decide) k) ?_
    exact own_ret X81 hx hlk Bd.returns (by decide +kernel) (Or.inl ⟨rfl, by simp, _, rfl⟩) (hb hby at_58) (by decide) (by decide) (by show own_Q0 Z p1 p2 A h0 n0 _ T81.heap _; rw [e81]; exact ⟨rfl, N81⟩)
  · refine own_st (V := T80.setTop (mkF m 28 #[.val (.int p1), .val (.int p2), .val (.int (12 : Int32)), .val (.ref (A 12)), .val (.int (p2.toInt16.toInt32)), .val (.int (2 : Int32)), .unset] [])) (fun t k => XS.ifNo X80.here hx rfl (hb hby at_25) rfl ((if0 _ _).trans (flt ha).1) k) ?_
    refine own_st (V := T80.setTop (mkF m 30 #[.val (.int p1), .val (.int p2), .val (.int (12 : Int32)), .val (.ref (A 12)), .val (.int (p2.toInt16.toInt32)), .val (.int (2 : Int32)), .unset] [(.int (p2.toInt16.toInt32))])) (fun t k => XS.iload X80.here hx rfl (hb hby at_28) rfl k) ?_
    refine own_st (V := T80.setTop (mkF m 32 #[.val (.int p1), .val (.int p2), .val (.int (12 : Int32)), .val (.ref (A 12)), .val (.int (p2.toInt16.toInt32)), .val (.int (2 : Int32)), .unset] [(.int (2 : Int32)), (.int (p2.toInt16.toInt32))])) (fun t k => XS.iload X80.here hx rfl (hb hby at_30) rfl k) ?_
    by_cases hc : (2 : Int32) < (p2.toInt16.toInt32)
    · refine own_st (V := T80.setTop (mkF m 39 #[.val (.int p1), .val (.int p2), .val (.int (12 : Int32)), .val (.ref (A 12)), .val (.int (p2.toInt16.toInt32)), .val (.int (2 : Int32)), .unset] [])) (fun t k => XS.icmpYes X80.here hx rfl (pc0 := 32) (pc' := 39) rfl (hb hby at_32) rfl (tlt hc).2.2.1 (by decide) (by decide) k) ?_
      refine own_st (V := T80.setTop (mkF m 40 #[.val (.int p1), .val (.int p2), .val (.int (12 : Int32)), .val (.ref (A 12)), .val (.int (p2.toInt16.toInt32)), .val (.int (2 : Int32)), .unset] [(.int (0 : Int32))])) (fun t k => XS.iconst X80.here hx rfl (hb hby at_39) k) ?_
      refine own_st (V := T80.setTop (mkF m 42 #[.val (.int p1), .val (.int p2), .val (.int (12 : Int32)), .val (.ref (A 12)), .val (.int (p2.toInt16.toInt32)), .val (.int (2 : Int32)), .val (.int (0 : Int32))] [])) (fun t k => XS.istore X80.here hx rfl (hb hby at_40) rfl (l' := #[.val (.int p1), .val (.int p2), .val (.int (12 : Int32)), .val (.ref (A 12)), .val (.int (p2.toInt16.toInt32)), .val (.int (2 : Int32)), .val (.int (0 : Int32))]) rfl k) ?_
      refine own_st (V := T80.setTop (mkF m 43 #[.val (.int p1), .val (.int p2), .val (.int (12 : Int32)), .val (.ref (A 12)), .val (.int (p2.toInt16.toInt32)), .val (.int (2 : Int32)), .val (.int (0 : Int32))] [(.ref (A 12))])) (fun t k => XS.aloadN X80.here hx rfl (hb hby at_42) rfl rfl k) ?_
      refine own_st (V := T80.setTop (mkF m 45 #[.val (.int p1), .val (.int p2), .val (.int (12 : Int32)), .val (.ref (A 12)), .val (.int (p2.toInt16.toInt32)), .val (.int (2 : Int32)), .val (.int (0 : Int32))] [(.int (p2.toInt16.toInt32)), (.ref (A 12))])) (fun t k => XS.iload X80.here hx rfl (hb hby at_43) rfl k) ?_
      obtain ⟨cq82, kq82, q82a, q82b, q82c⟩ := isOf hZ e80 (own_E En 12 (i := 12) (n := "API_VERSIONS") rfl)
      obtain ⟨_, _, ⟨T82, L82, k82, n82⟩, -, X82, ⟨Lc82, hQ82, l82, y82, z82⟩, st82⟩ := X80.virtualBack hx (y := (⟨"com/example/bhaga/bhaga/wire/Api", "serves", "(S)Z"⟩ : MethodName)) (z := (⟨"com/example/bhaga/bhaga/wire/Api", "serves", "(S)Z"⟩ : MethodName)) hown (mvT hZ (hw _ (List.mem_of_getElem? (i := 11) rfl))) (mvT hZ (hw _ (List.mem_of_getElem? (i := 12) rfl))) (notFace_of_selects (args := #[]) (mvT hZ (hw _ (List.mem_of_getElem? (i := 14) rfl)))) (mvT hZ (hw _ (List.mem_of_getElem? (i := 14) rfl))) (mvT hZ (hw _ (List.mem_of_getElem? (i := 13) rfl))) (by decide) (backOf (W := 0) (own_mb l Z a0 hw [] (A 12) (p2.toInt16.toInt32) (2 : Int32) h0 n0 Z0 (own_F0 En 12 (i := 12) (n := "API_VERSIONS") rfl) (own_F1 En 12 (i := 12) (n := "API_VERSIONS") rfl) ha hc) hZ (hw _ (List.mem_of_getElem? (i := 15) rfl)) (hw _ (List.mem_of_getElem? (i := 6) rfl)) (by decide) (by decide)) q82a q82c (g := (mkF m 45 #[.val (.int p1), .val (.int p2), .val (.int (12 : Int32)), .val (.ref (A 12)), .val (.int (p2.toInt16.toInt32)), .val (.int (2 : Int32)), .val (.int (0 : Int32))] [(.int (p2.toInt16.toInt32)), (.ref (A 12))])) rfl (by rw [hml]; rfl) (Steps.refl _) (argsL := [(.int (p2.toInt16.toInt32))]) (rest := []) (lenOf own_pd2 rfl) rfl (by show 2 * 0 + _ ≤ _; exact Nat.le_of_eq rfl) (hb hby at_45) (fun _ _ => ⟨rfl, e80, (by decide : 0 + 0 ≤ _), (by decide : 0 + 0 ≤ _)⟩)
      dsimp only [Pt.U, Pt.locs, Pt.cells, Pt.slots] at X82 l82 y82 z82 st82 hQ82
      subst l82 y82 z82
      obtain ⟨rfl, N82q, e82⟩ := hQ82
      have N82 := Fr.app N80 N82q
      refine own_st (V := T82.setTop (mkF m 48 #[.val (.int p1), .val (.int p2), .val (.int (12 : Int32)), .val (.ref (A 12)), .val (.int (p2.toInt16.toInt32)), .val (.int (2 : Int32)), .val (.int (0 : Int32))] [(.int (0 : Int32))])) (fun t k => st82.trans k) ?_
      refine own_st (V := T82.setTop (mkF m 50 #[.val (.int p1), .val (.int p2), .val (.int (12 : Int32)), .val (.ref (A 12)), .val (.int (p2.toInt16.toInt32)), .val (.int (2 : Int32)), .val (.int (0 : Int32))] [(.int (0 : Int32)), (.int (0 : Int32))])) (fun t k => XS.iload X82.here hx rfl (hb hby at_48) rfl k) ?_
      refine own_st (V := T82.setTop (mkF m 53 #[.val (.int p1), .val (.int p2), .val (.int (12 : Int32)), .val (.ref (A 12)), .val (.int (p2.toInt16.toInt32)), .val (.int (2 : Int32)), .val (.int (0 : Int32))] [])) (fun t k => XS.icmpNo X82.here hx rfl (hb hby at_50) rfl (teq (by decide : (0 : Int32) = (0 : Int32))).2 k) ?_
      refine own_st (V := T82.setTop (mkF m 54 #[.val (.int p1), .val (.int p2), .val (.int (12 : Int32)), .val (.ref (A 12)), .val (.int (p2.toInt16.toInt32)), .val (.int (2 : Int32)), .val (.int (0 : Int32))] [(.int (1 : Int32))])) (fun t k => XS.iconst X82.here hx rfl (hb hby at_53) k) ?_
      refine own_st (V := T82.setTop (mkF m 58 #[.val (.int p1), .val (.int p2), .val (.int (12 : Int32)), .val (.ref (A 12)), .val (.int (p2.toInt16.toInt32)), .val (.int (2 : Int32)), .val (.int (0 : Int32))] [(.int (1 : Int32))])) (fun t k => XS.goto X82.here hx rfl (pc0 := 54) (pc' := 58) rfl (hb hby at_54) (by decide) (by decide) k) ?_
      exact own_ret X82 hx hlk Bd.returns (by decide +kernel) (Or.inl ⟨rfl, by simp, _, rfl⟩) (hb hby at_58) (by decide) (by decide) (by show own_Q0 Z p1 p2 A h0 n0 _ T82.heap _; rw [e82]; exact ⟨rfl, N82⟩)
    · refine own_st (V := T80.setTop (mkF m 35 #[.val (.int p1), .val (.int p2), .val (.int (12 : Int32)), .val (.ref (A 12)), .val (.int (p2.toInt16.toInt32)), .val (.int (2 : Int32)), .unset] [])) (fun t k => XS.icmpNo X80.here hx rfl (hb hby at_32) rfl (flt hc).2.2.1 k) ?_
      refine own_st (V := T80.setTop (mkF m 36 #[.val (.int p1), .val (.int p2), .val (.int (12 : Int32)), .val (.ref (A 12)), .val (.int (p2.toInt16.toInt32)), .val (.int (2 : Int32)), .unset] [(.int (1 : Int32))])) (fun t k => XS.iconst X80.here hx rfl (hb hby at_35) k) ?_
      refine own_st (V := T80.setTop (mkF m 40 #[.val (.int p1), .val (.int p2), .val (.int (12 : Int32)), .val (.ref (A 12)), .val (.int (p2.toInt16.toInt32)), .val (.int (2 : Int32)), .unset] [(.int (1 : Int32))])) (fun t k => XS.goto X80.here hx rfl (pc0 := 36) (pc' := 40) rfl (hb hby at_36) (by decide) (by decide) k) ?_
      refine own_st (V := T80.setTop (mkF m 42 #[.val (.int p1), .val (.int p2), .val (.int (12 : Int32)), .val (.ref (A 12)), .val (.int (p2.toInt16.toInt32)), .val (.int (2 : Int32)), .val (.int (1 : Int32))] [])) (fun t k => XS.istore X80.here hx rfl (hb hby at_40) rfl (l' := #[.val (.int p1), .val (.int p2), .val (.int (12 : Int32)), .val (.ref (A 12)), .val (.int (p2.toInt16.toInt32)), .val (.int (2 : Int32)), .val (.int (1 : Int32))]) rfl k) ?_
      refine own_st (V := T80.setTop (mkF m 43 #[.val (.int p1), .val (.int p2), .val (.int (12 : Int32)), .val (.ref (A 12)), .val (.int (p2.toInt16.toInt32)), .val (.int (2 : Int32)), .val (.int (1 : Int32))] [(.ref (A 12))])) (fun t k => XS.aloadN X80.here hx rfl (hb hby at_42) rfl rfl k) ?_
      refine own_st (V := T80.setTop (mkF m 45 #[.val (.int p1), .val (.int p2), .val (.int (12 : Int32)), .val (.ref (A 12)), .val (.int (p2.toInt16.toInt32)), .val (.int (2 : Int32)), .val (.int (1 : Int32))] [(.int (p2.toInt16.toInt32)), (.ref (A 12))])) (fun t k => XS.iload X80.here hx rfl (hb hby at_43) rfl k) ?_
      obtain ⟨cq83, kq83, q83a, q83b, q83c⟩ := isOf hZ e80 (own_E En 12 (i := 12) (n := "API_VERSIONS") rfl)
      obtain ⟨_, _, ⟨T83, L83, k83, n83⟩, -, X83, ⟨Lc83, hQ83, l83, y83, z83⟩, st83⟩ := X80.virtualBack hx (y := (⟨"com/example/bhaga/bhaga/wire/Api", "serves", "(S)Z"⟩ : MethodName)) (z := (⟨"com/example/bhaga/bhaga/wire/Api", "serves", "(S)Z"⟩ : MethodName)) hown (mvT hZ (hw _ (List.mem_of_getElem? (i := 11) rfl))) (mvT hZ (hw _ (List.mem_of_getElem? (i := 12) rfl))) (notFace_of_selects (args := #[]) (mvT hZ (hw _ (List.mem_of_getElem? (i := 14) rfl)))) (mvT hZ (hw _ (List.mem_of_getElem? (i := 14) rfl))) (mvT hZ (hw _ (List.mem_of_getElem? (i := 13) rfl))) (by decide) (backOf (W := 0) (own_mc l Z a0 hw [] (A 12) (p2.toInt16.toInt32) (2 : Int32) h0 n0 Z0 (own_F0 En 12 (i := 12) (n := "API_VERSIONS") rfl) (own_F1 En 12 (i := 12) (n := "API_VERSIONS") rfl) ha hc) hZ (hw _ (List.mem_of_getElem? (i := 15) rfl)) (hw _ (List.mem_of_getElem? (i := 6) rfl)) (by decide) (by decide)) q83a q83c (g := (mkF m 45 #[.val (.int p1), .val (.int p2), .val (.int (12 : Int32)), .val (.ref (A 12)), .val (.int (p2.toInt16.toInt32)), .val (.int (2 : Int32)), .val (.int (1 : Int32))] [(.int (p2.toInt16.toInt32)), (.ref (A 12))])) rfl (by rw [hml]; rfl) (Steps.refl _) (argsL := [(.int (p2.toInt16.toInt32))]) (rest := []) (lenOf own_pd2 rfl) rfl (by show 2 * 0 + _ ≤ _; exact Nat.le_of_eq rfl) (hb hby at_45) (fun _ _ => ⟨rfl, e80, (by decide : 0 + 0 ≤ _), (by decide : 0 + 0 ≤ _)⟩)
      dsimp only [Pt.U, Pt.locs, Pt.cells, Pt.slots] at X83 l83 y83 z83 st83 hQ83
      subst l83 y83 z83
      obtain ⟨rfl, N83q, e83⟩ := hQ83
      have N83 := Fr.app N80 N83q
      refine own_st (V := T83.setTop (mkF m 48 #[.val (.int p1), .val (.int p2), .val (.int (12 : Int32)), .val (.ref (A 12)), .val (.int (p2.toInt16.toInt32)), .val (.int (2 : Int32)), .val (.int (1 : Int32))] [(.int (1 : Int32))])) (fun t k => st83.trans k) ?_
      refine own_st (V := T83.setTop (mkF m 50 #[.val (.int p1), .val (.int p2), .val (.int (12 : Int32)), .val (.ref (A 12)), .val (.int (p2.toInt16.toInt32)), .val (.int (2 : Int32)), .val (.int (1 : Int32))] [(.int (1 : Int32)), (.int (1 : Int32))])) (fun t k => XS.iload X83.here hx rfl (hb hby at_48) rfl k) ?_
      refine own_st (V := T83.setTop (mkF m 53 #[.val (.int p1), .val (.int p2), .val (.int (12 : Int32)), .val (.ref (A 12)), .val (.int (p2.toInt16.toInt32)), .val (.int (2 : Int32)), .val (.int (1 : Int32))] [])) (fun t k => XS.icmpNo X83.here hx rfl (hb hby at_50) rfl (teq (by decide : (1 : Int32) = (1 : Int32))).2 k) ?_
      refine own_st (V := T83.setTop (mkF m 54 #[.val (.int p1), .val (.int p2), .val (.int (12 : Int32)), .val (.ref (A 12)), .val (.int (p2.toInt16.toInt32)), .val (.int (2 : Int32)), .val (.int (1 : Int32))] [(.int (1 : Int32))])) (fun t k => XS.iconst X83.here hx rfl (hb hby at_53) k) ?_
      refine own_st (V := T83.setTop (mkF m 58 #[.val (.int p1), .val (.int p2), .val (.int (12 : Int32)), .val (.ref (A 12)), .val (.int (p2.toInt16.toInt32)), .val (.int (2 : Int32)), .val (.int (1 : Int32))] [(.int (1 : Int32))])) (fun t k => XS.goto X83.here hx rfl (pc0 := 54) (pc' := 58) rfl (hb hby at_54) (by decide) (by decide) k) ?_
      exact own_ret X83 hx hlk Bd.returns (by decide +kernel) (Or.inl ⟨rfl, by simp, _, rfl⟩) (hb hby at_58) (by decide) (by decide) (by show own_Q0 Z p1 p2 A h0 n0 _ T83.heap _; rw [e83]; exact ⟨rfl, N83⟩)
theorem own_law (l : Launch) (Z : State) (a0 : Array Value) (hw : ∀ d ∈ tables_1, d.before a0 Z = true) (ws : List Jvm.Cond) (p1 : Int32) (p2 : Int32) (A : Nat → Addr) (h0 : Heap) (n0 : Nat) (Z0 : n0 ≤ h0.size) (En : own_En Z h0 A) :
    MetFree l x (head1 (Jvm.Cond.code x code maxLocals ret :: ws) room_1) (fun a U => a = #[(.int p1), (.int p2)] ∧ Z.Warmed39 U.vm ∧ U.heap = h0) (fun _ _ _ _ _ => True) (fun _ U o U' => ∃ v L, o = .returned v ∧ own_Q0 Z p1 p2 A h0 n0 v U'.heap L ∧ FrameEnd U o U' L room_1.cells room_1.slots) := by
  rcases own_c p1 with h | h | h | h | h | h | h | h | h | h | h | h | h
  · exact own_law0 l Z a0 hw ws p1 p2 A h0 n0 Z0 En h
  · exact own_law1 l Z a0 hw ws p1 p2 A h0 n0 Z0 En h
  · exact own_law2 l Z a0 hw ws p1 p2 A h0 n0 Z0 En h
  · exact own_law3 l Z a0 hw ws p1 p2 A h0 n0 Z0 En h
  · exact own_law4 l Z a0 hw ws p1 p2 A h0 n0 Z0 En h
  · exact own_law5 l Z a0 hw ws p1 p2 A h0 n0 Z0 En h
  · exact own_law6 l Z a0 hw ws p1 p2 A h0 n0 Z0 En h
  · exact own_law7 l Z a0 hw ws p1 p2 A h0 n0 Z0 En h
  · exact own_law8 l Z a0 hw ws p1 p2 A h0 n0 Z0 En h
  · exact own_law9 l Z a0 hw ws p1 p2 A h0 n0 Z0 En h
  · exact own_law10 l Z a0 hw ws p1 p2 A h0 n0 Z0 En h
  · exact own_law11 l Z a0 hw ws p1 p2 A h0 n0 Z0 En h
  · exact own_law12 l Z a0 hw ws p1 p2 A h0 n0 Z0 En h
set_option maxRecDepth 65536 in
set_option maxHeartbeats 40000000 in
theorem comes_1 {Post : Tables → Env → Array Value → State → Outcome → State → Prop} (hpost : ∀ tb e args s v u, (limb_1_1.after args s (.returned v) u = true ∧ limb_1_2.after args s (.returned v) u = true ∧ True) → FrameEnd s (.returned v) u (Jvm.fieldLocs frame_1_writes args s ++ Jvm.arrayLocs frame_1_arrays args s ++ Jvm.staticLocs frame_1_statics s) 0 0 → Post tb e args s (.returned v) u) :
    ArmFor flags0 classFile x code maxLocals ret World_1 tables_1 room_1 Calls_1 rest_1 Pre_1 Post := by
  intro l hfl _ _ p e ha hc hk s m args below hf hA hF happ hP
  obtain ⟨hcalls, hrest, hpre⟩ := hP
  obtain ⟨-, -, -, hnamed, -, -, -, hat⟩ := (Spec.applies_iff hf).mp happ
  obtain ⟨hg, hn⟩ := and_e (Cond.before_iff.mp (show (Jvm.Cond.and given_1 narrow_1).before args s = true from hpre))
  obtain ⟨g0, g1⟩ := and_e hg
  obtain ⟨ga0, gr0⟩ := and_e g1
  obtain ⟨w0, w1, rfl⟩ : ∃ w0 w1 : Value, args = #[w0, w1] := by
    have hs : args.size = 2 := by simpa [Cond.value, given_1] using g0
    obtain ⟨L⟩ := args
    match L, hs with
    | [w0, w1], _ => exact ⟨w0, w1, rfl⟩
  have hw := fun d (hd : d ∈ tables_1) => atoms_spec (ws := Jvm.Cond.code x code maxLocals ret :: tables_1) hat d (List.mem_cons_of_mem _ hd)
  have hfit : Fit s := fun {y c} hc i hi => by
    obtain ⟨ha, rfl⟩ := Array.getElem?_eq_some_iff.mp hc
    have q := List.all_eq_true.mp ((Array.all_eq_true_iff_forall_mem.mp hF) _ (Array.getElem_mem ha)) i (List.mem_range.mpr hi)
    simpa [Array.getElem?_eq_getElem hi] using q
  obtain ⟨i0, ei0⟩ := is_v ga0
  obtain rfl : w0 = (.int i0) := Option.some.inj ei0
  obtain ⟨i1, ei1⟩ := is_v gr0
  obtain rfl : w1 = (.int i1) := Option.some.inj ei1
  obtain ⟨nz0, nr0⟩ := and_e hn
  obtain ⟨nz1, nr1⟩ := and_e nr0
  obtain ⟨nz2, nr2⟩ := and_e nr1
  obtain ⟨nz3, nr3⟩ := and_e nr2
  obtain ⟨nz4, nr4⟩ := and_e nr3
  obtain ⟨nz5, nr5⟩ := and_e nr4
  obtain ⟨nz6, nr6⟩ := and_e nr5
  obtain ⟨nz7, nr7⟩ := and_e nr6
  obtain ⟨nz8, nr8⟩ := and_e nr7
  obtain ⟨nz9, nr9⟩ := and_e nr8
  obtain ⟨nz10, nr10⟩ := and_e nr9
  obtain ⟨nz11, nr11⟩ := and_e nr10
  obtain ⟨nz12, nr12⟩ := and_e nr11
  obtain ⟨nz13, nr13⟩ := and_e nr12
  obtain ⟨nz14, nr14⟩ := and_e nr13
  obtain ⟨nz15, nr15⟩ := and_e nr14
  obtain ⟨nz16, nr16⟩ := and_e nr15
  obtain ⟨nz17, nr17⟩ := and_e nr16
  obtain ⟨nz18, nr18⟩ := and_e nr17
  obtain ⟨nz19, nr19⟩ := and_e nr18
  obtain ⟨nz20, nr20⟩ := and_e nr19
  obtain ⟨nz21, nr21⟩ := and_e nr20
  obtain ⟨nz22, nr22⟩ := and_e nr21
  obtain ⟨nz23, nr23⟩ := and_e nr22
  obtain ⟨nz24, nr24⟩ := and_e nr23
  obtain ⟨nz25, nr25⟩ := and_e nr24
  obtain ⟨nz26, nr26⟩ := and_e nr25
  obtain ⟨nz27, nr27⟩ := and_e nr26
  obtain ⟨nz28, nr28⟩ := and_e nr27
  obtain ⟨nz29, nr29⟩ := and_e nr28
  obtain ⟨nz30, nr30⟩ := and_e nr29
  obtain ⟨nz31, nr31⟩ := and_e nr30
  obtain ⟨nz32, nr32⟩ := and_e nr31
  obtain ⟨nz33, nr33⟩ := and_e nr32
  obtain ⟨nz34, nr34⟩ := and_e nr33
  obtain ⟨nz35, nr35⟩ := and_e nr34
  obtain ⟨nz36, nr36⟩ := and_e nr35
  obtain ⟨nz37, nr37⟩ := and_e nr36
  have nz38 := nr37
  obtain ⟨a0, S0, E0, v0⟩ := own_sta nz0 (hw _ (List.mem_of_getElem? (i := 6) rfl)) (hw _ (List.mem_of_getElem? (i := 7) rfl))
  obtain ⟨a1, S1, E1, v1⟩ := own_sta nz3 (hw _ (List.mem_of_getElem? (i := 6) rfl)) (hw _ (List.mem_of_getElem? (i := 21) rfl))
  obtain ⟨a2, S2, E2, v2⟩ := own_sta nz25 (hw _ (List.mem_of_getElem? (i := 6) rfl)) (hw _ (List.mem_of_getElem? (i := 37) rfl))
  obtain ⟨a3, S3, E3, v3⟩ := own_sta nz9 (hw _ (List.mem_of_getElem? (i := 6) rfl)) (hw _ (List.mem_of_getElem? (i := 25) rfl))
  obtain ⟨a4, S4, E4, v4⟩ := own_sta nz6 (hw _ (List.mem_of_getElem? (i := 6) rfl)) (hw _ (List.mem_of_getElem? (i := 23) rfl))
  obtain ⟨a5, S5, E5, v5⟩ := own_sta nz14 (hw _ (List.mem_of_getElem? (i := 6) rfl)) (hw _ (List.mem_of_getElem? (i := 29) rfl))
  obtain ⟨a6, S6, E6, v6⟩ := own_sta nz17 (hw _ (List.mem_of_getElem? (i := 6) rfl)) (hw _ (List.mem_of_getElem? (i := 31) rfl))
  obtain ⟨a7, S7, E7, v7⟩ := own_sta nz36 (hw _ (List.mem_of_getElem? (i := 6) rfl)) (hw _ (List.mem_of_getElem? (i := 43) rfl))
  obtain ⟨a8, S8, E8, v8⟩ := own_sta nz20 (hw _ (List.mem_of_getElem? (i := 6) rfl)) (hw _ (List.mem_of_getElem? (i := 33) rfl))
  obtain ⟨a9, S9, E9, v9⟩ := own_sta nz11 (hw _ (List.mem_of_getElem? (i := 6) rfl)) (hw _ (List.mem_of_getElem? (i := 27) rfl))
  obtain ⟨a10, S10, E10, v10⟩ := own_sta nz30 (hw _ (List.mem_of_getElem? (i := 6) rfl)) (hw _ (List.mem_of_getElem? (i := 39) rfl))
  obtain ⟨a11, S11, E11, v11⟩ := own_sta nz32 (hw _ (List.mem_of_getElem? (i := 6) rfl)) (hw _ (List.mem_of_getElem? (i := 41) rfl))
  obtain ⟨a12, S12, E12, v12⟩ := own_sta nz22 (hw _ (List.mem_of_getElem? (i := 6) rfl)) (hw _ (List.mem_of_getElem? (i := 35) rfl))
  let A : Nat → Addr := fun i => [a0, a1, a2, a3, a4, a5, a6, a7, a8, a9, a10, a11, a12].getD i 0
  have En : own_En s s.heap A := by
    intro q hq
    simp only [own_cs, List.mem_cons, List.not_mem_nil, or_false] at hq
    rcases hq with rfl | rfl | rfl | rfl | rfl | rfl | rfl | rfl | rfl | rfl | rfl | rfl | rfl
    · exact ⟨S0, E0, own_fld v0 nz1, own_fld v0 nz2⟩
    · exact ⟨S1, E1, own_fld v1 nz4, own_fld v1 nz5⟩
    · exact ⟨S2, E2, own_fld v2 nz26, own_fld v2 nz27⟩
    · exact ⟨S3, E3, own_fld v3 nz10, own_fld v3 nz28⟩
    · exact ⟨S4, E4, own_fld v4 nz7, own_fld v4 nz8⟩
    · exact ⟨S5, E5, own_fld v5 nz15, own_fld v5 nz16⟩
    · exact ⟨S6, E6, own_fld v6 nz18, own_fld v6 nz19⟩
    · exact ⟨S7, E7, own_fld v7 nz37, own_fld v7 nz38⟩
    · exact ⟨S8, E8, own_fld v8 nz21, own_fld v8 nz29⟩
    · exact ⟨S9, E9, own_fld v9 nz12, own_fld v9 nz13⟩
    · exact ⟨S10, E10, own_fld v10 nz31, own_fld v10 nz35⟩
    · exact ⟨S11, E11, own_fld v11 nz33, own_fld v11 nz34⟩
    · exact ⟨S12, E12, own_fld v12 nz23, own_fld v12 nz24⟩
  obtain ⟨n, o, h1, h2, h3, _, L, rfl, ⟨rfl, N⟩, hq⟩ := own_law l s _ hw tables_1 i0 i1 A s.heap s.heap.size (Nat.le_refl _) En p e ha hc hk s m _ below hf ((Spec.applies_iff_loose hf).mp happ).1 ⟨rfl, State.Warmed39.refl s, rfl⟩ trivial
  refine ⟨n, _, h1, h2, h3, hpost _ _ _ _ _ _ ⟨Cond.after_iff.mpr rfl, Cond.after_iff.mpr (eq_i res_at (Term.int_eval (1)) rfl), trivial⟩ ⟨hq.1, hq.2.1, (hq.2.2.sift fun y hy => Or.inr (N y hy)).mono (by decide) (by decide)⟩⟩
theorem main_1_1 : Claimed_1_1 := comes_1 fun _ _ _ _ _ _ h hF => ⟨h.1, hF⟩
theorem main_1_2 : Claimed_1_2 := comes_1 fun _ _ _ _ _ _ h hF => ⟨h.2.1, hF⟩
end Jvm.Pilot.@@N@@
namespace Jvm.Pilot.@@N@@
open Jvm Jvm.ClassFile Sem Op Lib Jvm.Free Jvm.Stand Jvm.Pilot.@@N@@.Jvm.D
/-! MADE BY PROGRAM (witnessworld.py) out of the Statement's table words and the real class files: 12 classes; the members and pool entries that the words name. The judged class is class 1, her method 1. -/
namespace start1
open Jvm.ClassFile
def u (s : String) : CpInfo := .utf8 (stringToUtf16 s)
/-- a pool by its gaps: so many unusable entries, then the entry; so many at the end -/
def gap : Nat → List CpInfo → List CpInfo
  | 0, r => r
  | n + 1, r => .unusable :: gap n r
def poolList (es : List (Nat × CpInfo)) (last : Nat) : List CpInfo := es.foldr (fun e r => gap e.1 (e.2 :: r)) (gap last [])
def pool (es : List (Nat × CpInfo)) (last : Nat) : Array CpInfo := ⟨poolList es last⟩
def fileOf (pool : Array CpInfo) (this : Nat) (attrs : Array Attribute := #[]) (ms : Array MethodInfo := #[]) (fl : Nat := 33) (sup : Nat := 0) (ifs : Array Nat := #[]) (fds : Array FieldInfo := #[]) : ClassFile where
  minorVersion := 0
  majorVersion := 65
  constantPool := pool
  accessFlags := fl
  thisClass := this
  superClass := sup
  interfaces := ifs
  fields := fds
  methods := ms
  attributes := attrs
def plain (name : String) (sup : Option ClassId) : Class where
  name := name
  kind := .ordinary
  loader := none
  accessFlags := 33
  super := sup
  interfaces := #[]
  cf := none
  fields := #[]
  methods := #[]
  instanceTypes := #[]
  staticTypes := #[]
  resolved := #[]
  callSites := []
  init := .initialized
  statics := none
  mirror := none

def pool0 : Array CpInfo := pool [(5, u "<init>"), (0, u "()V"), (1, .class_ 10), (1, u "java/lang/Object")] 113

def k0m0 : Method := { name := "<init>", desc := "()V", sig := { parameters := [], returnType := none }, accessFlags := 1, code := none }
/-- java/lang/Object -/
def k0 : Class := { plain "java/lang/Object" none with
  accessFlags := 33
  interfaces := #[]
  cf := some (fileOf pool0 8 #[] #[{ accessFlags := 1, nameIndex := 5, descriptorIndex := 6, attributes := #[] }] 33 0 #[] #[])
  fields := #[]
  methods := #[k0m0]
  instanceTypes := #[]
  staticTypes := #[]
  resolved := Array.replicate 124 none
  statics := none }

def pool1 : Array CpInfo := pool [(2, .class_ 4), (1, u "java/lang/Object"), (0, u "<init>"), (0, u "()V"), (0, .integer 2147483647), (0, .methodref 9 10), (0, .class_ 11), (0, .nameAndType 12 13), (0, u "com/example/bhaga/bhaga/wire/ApiServesPinLaw"), (0, u "pick"), (0, u "(I)Lcom/example/bhaga/bhaga/wire/Api;"), (0, .methodref 9 15), (0, .nameAndType 16 17), (0, u "expectedMax"), (0, u "(I)I"), (0, .methodref 19 20), (0, .class_ 21), (0, .nameAndType 22 23), (0, u "com/example/bhaga/bhaga/wire/Api"), (0, u "serves"), (0, u "(S)Z"), (0, .fieldref 19 25), (0, .nameAndType 26 27), (0, u "FETCH"), (0, u "Lcom/example/bhaga/bhaga/wire/Api;"), (0, .fieldref 19 29), (0, .nameAndType 30 27), (0, u "LIST_OFFSETS"), (0, .fieldref 19 32), (0, .nameAndType 33 27), (0, u "METADATA"), (0, .fieldref 19 35), (0, .nameAndType 36 27), (0, u "OFFSET_COMMIT"), (0, .fieldref 19 38), (0, .nameAndType 39 27), (0, u "OFFSET_FETCH"), (0, .fieldref 19 41), (0, .nameAndType 42 27), (0, u "FIND_COORDINATOR"), (0, .fieldref 19 44), (0, .nameAndType 45 27), (0, u "JOIN_GROUP"), (0, .fieldref 19 47), (0, .nameAndType 48 27), (0, u "HEARTBEAT"), (0, .fieldref 19 50), (0, .nameAndType 51 27), (0, u "LEAVE_GROUP"), (0, .fieldref 19 53), (0, .nameAndType 54 27), (0, u "SYNC_GROUP"), (0, .fieldref 19 56), (0, .nameAndType 57 27), (0, u "DESCRIBE_GROUPS"), (0, .fieldref 19 59), (0, .nameAndType 60 27), (0, u "LIST_GROUPS"), (0, .fieldref 19 62), (0, .nameAndType 63 27), (0, u "API_VERSIONS"), (2, u "law"), (0, u "(II)Z")] 3

def k1m0 : Method := { name := "<init>", desc := "()V", sig := { parameters := [], returnType := none }, accessFlags := 1, code := none }
def k1c1 : Code := { maxStack := 2, maxLocals := 7, code := code, exceptionTable := #[], attributes := #[] }
def k1m1 : Method := { name := "law", desc := "(II)Z", sig := { parameters := [.int, .int], returnType := some .boolean }, accessFlags := 9, code := some k1c1 }
def k1c2 : Code := { maxStack := 2, maxLocals := 1, code := method_3_code, exceptionTable := #[], attributes := #[] }
def k1m2 : Method := { name := "pick", desc := "(I)Lcom/example/bhaga/bhaga/wire/Api;", sig := { parameters := [.int], returnType := some (.object "com/example/bhaga/bhaga/wire/Api") }, accessFlags := 10, code := some k1c2 }
def k1c3 : Code := { maxStack := 2, maxLocals := 1, code := method_4_code, exceptionTable := #[], attributes := #[] }
def k1m3 : Method := { name := "expectedMax", desc := "(I)I", sig := { parameters := [.int], returnType := some .int }, accessFlags := 10, code := some k1c3 }
/-- com/example/bhaga/bhaga/wire/ApiServesPinLaw -/
def k1 : Class := { plain "com/example/bhaga/bhaga/wire/ApiServesPinLaw" (some 0) with
  accessFlags := 49
  interfaces := #[]
  cf := some (fileOf pool1 9 #[] #[{ accessFlags := 1, nameIndex := 5, descriptorIndex := 6, attributes := #[] }, { accessFlags := 9, nameIndex := 66, descriptorIndex := 67, attributes := #[] }, { accessFlags := 10, nameIndex := 12, descriptorIndex := 13, attributes := #[] }, { accessFlags := 10, nameIndex := 16, descriptorIndex := 17, attributes := #[] }] 49 2 #[] #[])
  fields := #[]
  methods := #[k1m0, k1m1, k1m2, k1m3]
  instanceTypes := #[]
  staticTypes := #[]
  resolved := Array.replicate 71 none
  statics := none }

def pool2 : Array CpInfo := pool [(1, .class_ 2), (0, u "java/lang/constant/Constable"), (0, .class_ 4), (0, u "java/lang/Object")] 6

/-- java/lang/constant/Constable -/
def k2 : Class := { plain "java/lang/constant/Constable" (some 0) with
  accessFlags := 1537
  interfaces := #[]
  cf := some (fileOf pool2 1 #[] #[] 1537 3 #[] #[])
  fields := #[]
  methods := #[]
  instanceTypes := #[]
  staticTypes := #[]
  resolved := Array.replicate 11 none
  statics := none }

def pool3 : Array CpInfo := pool [(1, .class_ 2), (0, u "java/lang/Comparable"), (0, .class_ 4), (0, u "java/lang/Object")] 7

/-- java/lang/Comparable -/
def k3 : Class := { plain "java/lang/Comparable" (some 0) with
  accessFlags := 1537
  interfaces := #[]
  cf := some (fileOf pool3 1 #[] #[] 1537 3 #[] #[])
  fields := #[]
  methods := #[]
  instanceTypes := #[]
  staticTypes := #[]
  resolved := Array.replicate 12 none
  statics := none }

def pool4 : Array CpInfo := pool [(1, .class_ 2), (0, u "java/io/Serializable"), (0, .class_ 4), (0, u "java/lang/Object")] 2

/-- java/io/Serializable -/
def k4 : Class := { plain "java/io/Serializable" (some 0) with
  accessFlags := 1537
  interfaces := #[]
  cf := some (fileOf pool4 1 #[] #[] 1537 3 #[] #[])
  fields := #[]
  methods := #[]
  instanceTypes := #[]
  staticTypes := #[]
  resolved := Array.replicate 7 none
  statics := none }

def pool5 : Array CpInfo := pool [(2, .class_ 4), (1, u "java/lang/Enum"), (0, u "name"), (0, u "Ljava/lang/String;"), (2, u "ordinal"), (0, u "I"), (1, .class_ 14), (1, u "java/lang/Object"), (4, u "hash"), (86, .class_ 108), (1, u "java/lang/Enum$EnumDesc"), (2, .class_ 112), (0, u "java/lang/constant/Constable"), (0, .class_ 114), (0, u "java/lang/Comparable"), (0, .class_ 116), (0, u "java/io/Serializable")] 87

/-- java/lang/Enum -/
def k5 : Class := { plain "java/lang/Enum" (some 0) with
  accessFlags := 1057
  interfaces := #[2, 3, 4]
  cf := some (fileOf pool5 2 #[.nestMembers #[106]] #[] 1057 12 #[111, 113, 115] #[{ accessFlags := 18, nameIndex := 5, descriptorIndex := 6, attributes := #[] }, { accessFlags := 18, nameIndex := 9, descriptorIndex := 10, attributes := #[] }, { accessFlags := 2, nameIndex := 19, descriptorIndex := 10, attributes := #[] }])
  fields := #[{ name := "name", type := (.object "java/lang/String"), accessFlags := 18, slot := 0, constantValue := 0 }, { name := "ordinal", type := .int, accessFlags := 18, slot := 1, constantValue := 0 }, { name := "hash", type := .int, accessFlags := 2, slot := 2, constantValue := 0 }]
  methods := #[]
  instanceTypes := #[(.object "java/lang/String"), .int, .int]
  staticTypes := #[]
  resolved := Array.replicate 204 none
  statics := none }

def pool6 : Array CpInfo := pool [(1, .class_ 2), (0, u "com/example/bhaga/bhaga/wire/Api"), (2, u "FETCH"), (0, u "Lcom/example/bhaga/bhaga/wire/Api;"), (2, u "LIST_OFFSETS"), (2, u "METADATA"), (2, u "OFFSET_COMMIT"), (2, u "OFFSET_FETCH"), (2, u "FIND_COORDINATOR"), (2, u "JOIN_GROUP"), (2, u "HEARTBEAT"), (2, u "LEAVE_GROUP"), (2, u "SYNC_GROUP"), (2, u "DESCRIBE_GROUPS"), (2, u "LIST_GROUPS"), (2, u "API_VERSIONS"), (2, u "$VALUES"), (0, u "[Lcom/example/bhaga/bhaga/wire/Api;"), (6, .class_ 55), (1, u "java/lang/Enum"), (8, u "key"), (0, u "S"), (2, u "displayName"), (0, u "Ljava/lang/String;"), (0, .fieldref 1 71), (0, .nameAndType 72 65), (0, u "minVersion"), (0, .fieldref 1 74), (0, .nameAndType 75 65), (0, u "maxVersion"), (2, u "throttleTimeFrom"), (59, u "serves"), (0, u "(S)Z")] 8

def k6c0 : Code := { maxStack := 2, maxLocals := 2, code := prog_40_method_8_code, exceptionTable := #[], attributes := #[] }
def k6m0 : Method := { name := "serves", desc := "(S)Z", sig := { parameters := [.short], returnType := some .boolean }, accessFlags := 0, code := some k6c0 }
/-- com/example/bhaga/bhaga/wire/Api -/
def k6 : Class := { plain "com/example/bhaga/bhaga/wire/Api" (some 5) with
  accessFlags := 16432
  interfaces := #[]
  cf := some (fileOf pool6 1 #[] #[{ accessFlags := 0, nameIndex := 138, descriptorIndex := 139, attributes := #[] }] 16432 53 #[] #[{ accessFlags := 16409, nameIndex := 5, descriptorIndex := 6, attributes := #[] }, { accessFlags := 16409, nameIndex := 9, descriptorIndex := 6, attributes := #[] }, { accessFlags := 16409, nameIndex := 12, descriptorIndex := 6, attributes := #[] }, { accessFlags := 16409, nameIndex := 15, descriptorIndex := 6, attributes := #[] }, { accessFlags := 16409, nameIndex := 18, descriptorIndex := 6, attributes := #[] }, { accessFlags := 16409, nameIndex := 21, descriptorIndex := 6, attributes := #[] }, { accessFlags := 16409, nameIndex := 24, descriptorIndex := 6, attributes := #[] }, { accessFlags := 16409, nameIndex := 27, descriptorIndex := 6, attributes := #[] }, { accessFlags := 16409, nameIndex := 30, descriptorIndex := 6, attributes := #[] }, { accessFlags := 16409, nameIndex := 33, descriptorIndex := 6, attributes := #[] }, { accessFlags := 16409, nameIndex := 36, descriptorIndex := 6, attributes := #[] }, { accessFlags := 16409, nameIndex := 39, descriptorIndex := 6, attributes := #[] }, { accessFlags := 16409, nameIndex := 42, descriptorIndex := 6, attributes := #[] }, { accessFlags := 18, nameIndex := 64, descriptorIndex := 65, attributes := #[] }, { accessFlags := 18, nameIndex := 68, descriptorIndex := 69, attributes := #[] }, { accessFlags := 18, nameIndex := 72, descriptorIndex := 65, attributes := #[] }, { accessFlags := 18, nameIndex := 75, descriptorIndex := 65, attributes := #[] }, { accessFlags := 18, nameIndex := 78, descriptorIndex := 65, attributes := #[] }, { accessFlags := 4122, nameIndex := 45, descriptorIndex := 46, attributes := #[] }])
  fields := #[{ name := "FETCH", type := (.object "com/example/bhaga/bhaga/wire/Api"), accessFlags := 16409, slot := 0, constantValue := 0 }, { name := "LIST_OFFSETS", type := (.object "com/example/bhaga/bhaga/wire/Api"), accessFlags := 16409, slot := 1, constantValue := 0 }, { name := "METADATA", type := (.object "com/example/bhaga/bhaga/wire/Api"), accessFlags := 16409, slot := 2, constantValue := 0 }, { name := "OFFSET_COMMIT", type := (.object "com/example/bhaga/bhaga/wire/Api"), accessFlags := 16409, slot := 3, constantValue := 0 }, { name := "OFFSET_FETCH", type := (.object "com/example/bhaga/bhaga/wire/Api"), accessFlags := 16409, slot := 4, constantValue := 0 }, { name := "FIND_COORDINATOR", type := (.object "com/example/bhaga/bhaga/wire/Api"), accessFlags := 16409, slot := 5, constantValue := 0 }, { name := "JOIN_GROUP", type := (.object "com/example/bhaga/bhaga/wire/Api"), accessFlags := 16409, slot := 6, constantValue := 0 }, { name := "HEARTBEAT", type := (.object "com/example/bhaga/bhaga/wire/Api"), accessFlags := 16409, slot := 7, constantValue := 0 }, { name := "LEAVE_GROUP", type := (.object "com/example/bhaga/bhaga/wire/Api"), accessFlags := 16409, slot := 8, constantValue := 0 }, { name := "SYNC_GROUP", type := (.object "com/example/bhaga/bhaga/wire/Api"), accessFlags := 16409, slot := 9, constantValue := 0 }, { name := "DESCRIBE_GROUPS", type := (.object "com/example/bhaga/bhaga/wire/Api"), accessFlags := 16409, slot := 10, constantValue := 0 }, { name := "LIST_GROUPS", type := (.object "com/example/bhaga/bhaga/wire/Api"), accessFlags := 16409, slot := 11, constantValue := 0 }, { name := "API_VERSIONS", type := (.object "com/example/bhaga/bhaga/wire/Api"), accessFlags := 16409, slot := 12, constantValue := 0 }, { name := "key", type := .short, accessFlags := 18, slot := 3, constantValue := 0 }, { name := "displayName", type := (.object "java/lang/String"), accessFlags := 18, slot := 4, constantValue := 0 }, { name := "minVersion", type := .short, accessFlags := 18, slot := 5, constantValue := 0 }, { name := "maxVersion", type := .short, accessFlags := 18, slot := 6, constantValue := 0 }, { name := "throttleTimeFrom", type := .short, accessFlags := 18, slot := 7, constantValue := 0 }, { name := "$VALUES", type := (.array (.object "com/example/bhaga/bhaga/wire/Api")), accessFlags := 4122, slot := 13, constantValue := 0 }]
  methods := #[k6m0]
  instanceTypes := #[(.object "java/lang/String"), .int, .int, .short, (.object "java/lang/String"), .short, .short, .short]
  staticTypes := #[(.object "com/example/bhaga/bhaga/wire/Api"), (.object "com/example/bhaga/bhaga/wire/Api"), (.object "com/example/bhaga/bhaga/wire/Api"), (.object "com/example/bhaga/bhaga/wire/Api"), (.object "com/example/bhaga/bhaga/wire/Api"), (.object "com/example/bhaga/bhaga/wire/Api"), (.object "com/example/bhaga/bhaga/wire/Api"), (.object "com/example/bhaga/bhaga/wire/Api"), (.object "com/example/bhaga/bhaga/wire/Api"), (.object "com/example/bhaga/bhaga/wire/Api"), (.object "com/example/bhaga/bhaga/wire/Api"), (.object "com/example/bhaga/bhaga/wire/Api"), (.object "com/example/bhaga/bhaga/wire/Api"), (.array (.object "com/example/bhaga/bhaga/wire/Api"))]
  resolved := Array.replicate 148 none
  statics := some 0 }

def pool7 : Array CpInfo := pool [(1, u "java/lang/Cloneable"), (0, .class_ 1), (0, u "java/lang/Object"), (0, .class_ 3)] 3

/-- java/lang/Cloneable -/
def k7 : Class := { plain "java/lang/Cloneable" (some 0) with
  accessFlags := 1537
  interfaces := #[]
  cf := some (fileOf pool7 2 #[] #[] 1537 4 #[] #[])
  fields := #[]
  methods := #[]
  instanceTypes := #[]
  staticTypes := #[]
  resolved := Array.replicate 8 none
  statics := none }

/-- the primitive byte -/
def k8 : Class := { plain "byte" none with kind := .primitive 'B', accessFlags := 0x411 }
/-- [B -/
def k9 : Class := { plain "[B" (some 0) with kind := .array 8 .byte, interfaces := #[7, 4], accessFlags := 1041 }

/-- the primitive int -/
def k10 : Class := { plain "int" none with kind := .primitive 'I', accessFlags := 0x411 }
/-- [I -/
def k11 : Class := { plain "[I" (some 0) with kind := .array 10 .int, interfaces := #[7, 4], accessFlags := 1041 }

def heap : Heap := #[{ cls := 6, slots := #[.ref 1, .ref 2, .ref 3, .ref 4, .ref 5, .ref 6, .ref 7, .ref 8, .ref 9, .ref 10, .ref 11, .ref 12, .ref 13, .null], vm := .statics 6 },
  { cls := 6, slots := #[.null, .int 0, .int 0, .int (0), .null, .int (0), .int (4), .int (0)], vm := .none },
  { cls := 6, slots := #[.null, .int 1, .int 0, .int (0), .null, .int (0), .int (2), .int (0)], vm := .none },
  { cls := 6, slots := #[.null, .int 2, .int 0, .int (0), .null, .int (0), .int (5), .int (0)], vm := .none },
  { cls := 6, slots := #[.null, .int 3, .int 0, .int (0), .null, .int (0), .int (3), .int (0)], vm := .none },
  { cls := 6, slots := #[.null, .int 4, .int 0, .int (0), .null, .int (0), .int (3), .int (0)], vm := .none },
  { cls := 6, slots := #[.null, .int 5, .int 0, .int (0), .null, .int (0), .int (2), .int (0)], vm := .none },
  { cls := 6, slots := #[.null, .int 6, .int 0, .int (0), .null, .int (0), .int (3), .int (0)], vm := .none },
  { cls := 6, slots := #[.null, .int 7, .int 0, .int (0), .null, .int (0), .int (2), .int (0)], vm := .none },
  { cls := 6, slots := #[.null, .int 8, .int 0, .int (0), .null, .int (0), .int (2), .int (0)], vm := .none },
  { cls := 6, slots := #[.null, .int 9, .int 0, .int (0), .null, .int (0), .int (2), .int (0)], vm := .none },
  { cls := 6, slots := #[.null, .int 10, .int 0, .int (0), .null, .int (0), .int (1), .int (0)], vm := .none },
  { cls := 6, slots := #[.null, .int 11, .int 0, .int (0), .null, .int (0), .int (1), .int (0)], vm := .none },
  { cls := 6, slots := #[.null, .int 12, .int 0, .int (0), .null, .int (0), .int (2), .int (0)], vm := .none }]
def classes : Array Class := #[k0, k1, k2, k3, k4, k5, k6, k7, k8, k9, k10, k11]
def interned : List (Array UInt16 × Addr) := []
def slotsUsed : Nat := 118
def theMethod : MethodId := ⟨1, 1⟩
def args0 : Array Value := #[.int 5, .int 3]
def aboutOver (below : List Frame) : State where
  vm := { classes := classes, interned := interned.toArray }
  heap := heap
  slotsUsed := slotsUsed
  threads := #[{ frames := .invoking theMethod args0 :: below }]
def below0 : List Frame := [.native { method := ⟨0, 0⟩, args := #[] }]
def about1 : State := aboutOver below0
def p0 : Program := .bare "" "" ""
def e0 : Env := launch0.env 0 0 0
theorem w_frames : about1.frames = Frame.invoking theMethod args0 :: below0 := rfl
set_option maxRecDepth 65536 in
theorem w_args : argsFit about1.vm theMethod args0 = true := by decide +kernel
set_option maxRecDepth 65536 in
theorem w_heap : heapFits about1 = true := by decide +kernel
set_option maxRecDepth 65536 in
theorem w_runnable : about1.curStatus? = some .runnable := by decide +kernel
set_option maxRecDepth 65536 in
theorem w_alone : about1.alone = true := by decide +kernel
set_option maxRecDepth 65536 in
theorem w_named : about1.methodNamed? x = some theMethod := by decide +kernel
set_option maxRecDepth 65536 in
theorem w_hears : about1.hears theMethod below0 = true := by decide +kernel
set_option maxRecDepth 65536 in
theorem w_ripe : about1.ripe theMethod args0 below0 = true := by decide +kernel
theorem w_running : about1.status = .running := rfl
set_option maxRecDepth 65536 in
theorem w_room : about1.hasRoom e0.platform room_1 = true :=
  launch0.hasRoom_least _ room_1 (by decide +kernel) (by decide +kernel) (by decide +kernel) (by decide +kernel) (by decide +kernel) (by decide +kernel)
theorem allAtoms_all (ts : List Jvm.Cond) (a : Array Jvm.Value) (st : Jvm.State) : (allAtoms ts).before a st = ts.all (fun c => c.before a st) := by
  induction ts with
  | nil => rfl
  | cons c t ih =>
    show (Jvm.Cond.and c (allAtoms t)).before a st = _
    rw [Jvm.Cond.before_and, ih, List.all_cons]
def words1 : List Jvm.Cond := Jvm.Cond.code x code maxLocals ret :: tables_1
/-- a 'code' word, met by the world's own term for the bytes: nothing is compared byte by byte -/
theorem code_word {y : MethodName} {bytes : ByteArray} {mx : Nat} {rt : Option FieldType} {a : Array Value} {s : State} {m : MethodId} {meth : Method} {c : Code} (h1 : s.methodNamed? y = some m) (h2 : s.vm.method? m = some meth) (h3 : meth.code = some c) (h4 : c.code = bytes)
    (h5 : (c.maxLocals == mx && c.exceptionTable.isEmpty && decide (c.maxStack ≤ mostOperands) && decide (meth.sig.returnType = rt) && !meth.locks && decide (parseMethodDescriptor y.desc = some meth.sig)) = true) : (Jvm.Cond.code y bytes mx rt).before a s = true := by
  simp only [Bool.and_eq_true, beq_iff_eq, Bool.not_eq_true', decide_eq_true_eq] at h5
  obtain ⟨⟨⟨⟨⟨g1, g2⟩, g3⟩, g4⟩, g5⟩, g6⟩ := h5
  simp [Cond.before, Cond.holds, Cond.value, h1, h2, h3, h4, g1, g2, g3, g4, g5, g6]
def isCode : Jvm.Cond → Bool
  | .code _ _ _ _ => true
  | _ => false
theorem all_split {L : List Jvm.Cond} {P : Jvm.Cond → Bool} (h1 : L.all (fun c => isCode c || P c) = true) (h2 : ∀ c ∈ L.filter isCode, P c = true) : L.all P = true := by
  refine List.all_eq_true.mpr fun c hc => ?_
  have h := List.all_eq_true.mp h1 c hc
  rcases Bool.eq_false_or_eq_true (isCode c) with hi | hi
  · exact h2 c (List.mem_filter.mpr ⟨hc, hi⟩)
  · simpa [hi] using h
set_option maxRecDepth 65536 in
theorem w_c0 : (Jvm.Cond.code x code maxLocals ret).before args0 about1 = true := code_word (m := ⟨1, 1⟩) (meth := k1m1) (c := k1c1) (by decide +kernel) rfl rfl rfl (by decide +kernel)
set_option maxRecDepth 65536 in
theorem w_c1 : (Jvm.Cond.code ({ cls := "com/example/bhaga/bhaga/wire/ApiServesPinLaw", name := "pick", desc := "(I)Lcom/example/bhaga/bhaga/wire/Api;" } : Jvm.MethodName) method_3_code (1 : Nat) (Option.some (Jvm.ClassFile.FieldType.object "com/example/bhaga/bhaga/wire/Api"))).before args0 about1 = true := code_word (m := ⟨1, 2⟩) (meth := k1m2) (c := k1c2) (by decide +kernel) rfl rfl rfl (by decide +kernel)
set_option maxRecDepth 65536 in
theorem w_c2 : (Jvm.Cond.code ({ cls := "com/example/bhaga/bhaga/wire/ApiServesPinLaw", name := "expectedMax", desc := "(I)I" } : Jvm.MethodName) method_4_code (1 : Nat) (Option.some Jvm.ClassFile.FieldType.int)).before args0 about1 = true := code_word (m := ⟨1, 3⟩) (meth := k1m3) (c := k1c3) (by decide +kernel) rfl rfl rfl (by decide +kernel)
set_option maxRecDepth 65536 in
theorem w_c3 : (Jvm.Cond.code ({ cls := "com/example/bhaga/bhaga/wire/Api", name := "serves", desc := "(S)Z" } : Jvm.MethodName) prog_40_method_8_code (2 : Nat) (Option.some Jvm.ClassFile.FieldType.boolean)).before args0 about1 = true := code_word (m := ⟨6, 0⟩) (meth := k6m0) (c := k6c0) (by decide +kernel) rfl rfl rfl (by decide +kernel)
def codes1 : List Jvm.Cond := [Jvm.Cond.code x code maxLocals ret, Jvm.Cond.code ({ cls := "com/example/bhaga/bhaga/wire/ApiServesPinLaw", name := "pick", desc := "(I)Lcom/example/bhaga/bhaga/wire/Api;" } : Jvm.MethodName) method_3_code (1 : Nat) (Option.some (Jvm.ClassFile.FieldType.object "com/example/bhaga/bhaga/wire/Api")), Jvm.Cond.code ({ cls := "com/example/bhaga/bhaga/wire/ApiServesPinLaw", name := "expectedMax", desc := "(I)I" } : Jvm.MethodName) method_4_code (1 : Nat) (Option.some Jvm.ClassFile.FieldType.int), Jvm.Cond.code ({ cls := "com/example/bhaga/bhaga/wire/Api", name := "serves", desc := "(S)Z" } : Jvm.MethodName) prog_40_method_8_code (2 : Nat) (Option.some Jvm.ClassFile.FieldType.boolean)]
set_option maxRecDepth 65536 in
theorem codes_eq : words1.filter isCode = codes1 := rfl
theorem w_codes : ∀ c ∈ words1.filter isCode, c.before args0 about1 = true := by
  rw [codes_eq]
  intro c hc
  simp only [codes1, List.mem_cons, List.not_mem_nil, or_false] at hc
  rcases hc with rfl | rfl | rfl | rfl
  · exact w_c0
  · exact w_c1
  · exact w_c2
  · exact w_c3
set_option maxRecDepth 65536 in
theorem w_t1 : (words1.take 24).all (fun c => isCode c || c.before args0 about1) = true := by decide +kernel
set_option maxRecDepth 65536 in
theorem w_t2 : (words1.drop 24).all (fun c => isCode c || c.before args0 about1) = true := by decide +kernel
theorem w_tables : (allAtoms (Jvm.Cond.code x code maxLocals ret :: tables_1)).before args0 about1 = true := by
  rw [allAtoms_all]
  show words1.all (fun c => c.before args0 about1) = true
  refine all_split ?_ w_codes
  rw [← List.take_append_drop 24 words1, List.all_append, w_t1, w_t2]
  rfl
set_option maxRecDepth 65536 in
theorem w_case : (Jvm.Cond.and given_1 narrow_1).before args0 about1 = true := by decide +kernel
theorem w_applies : (headSpec (Jvm.Cond.code x code maxLocals ret :: tables_1) room_1).applies x e0.platform about1 = true :=
  (Spec.applies_iff w_frames).mpr ⟨w_running, w_runnable, w_alone, w_named, w_hears, w_ripe, w_room, w_tables⟩
theorem atStart : AtStart classFile x code maxLocals ret World_1 tables_1 room_1 Calls_1 rest_1 Pre_1 launch0 p0 e0 about1 theMethod args0 below0 :=
  ⟨lists_1, trivial, launch0.admits_env _ _ _, launch0.least_env, fairChoices_fair.cas, fairChoices_fair.clock, w_frames, w_args, w_heap, w_applies, trivial, trivial, w_case⟩
end start1
theorem witness_1 : WitnessClaimed_1 := ⟨start1.p0, start1.e0, start1.about1, start1.theMethod, start1.args0, start1.below0, start1.atStart⟩
end Jvm.Pilot.@@N@@
