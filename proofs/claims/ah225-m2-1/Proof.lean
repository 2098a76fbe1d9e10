import JvmDerived
import JvmDerived.Pilot.@@N@@Statement
import JvmDerived.Pilot.@@N@@Code
set_option linter.unusedVariables false
set_option linter.unusedSimpArgs false
namespace Jvm.RoadKit
open Sem ClassFile Op Lib Jvm.Stand Jvm.Free Jvm.LawKit
section Own
variable {p : Program} {l : Launch} {e : Env} {R : Room} {s : State} {m : MethodId} {args : Array Value} {below : List Frame} {meth : Method} {c : Code} {T : State} {locs : List Loc} {cells slots : Nat}
/-- the run from U comes to its end, and the end meets Q -/
def own_Go (p : Program) (e : Env) (below : List Frame) (args : Array Value) (s : State) (Q : Array Value → State → Outcome → State → Prop) (U : State) : Prop := ∃ s₂ o, Steps p.tables e below U s₂ ∧ s₂.status = .running ∧ Ended s₂ below o ∧ Q args s o s₂
theorem own_st {Q : Array Value → State → Outcome → State → Prop} {U V : State} (k : ∀ t, Steps p.tables e below V t → Steps p.tables e below U t) (h : own_Go p e below args s Q V) : own_Go p e below args s Q U := by
  obtain ⟨s2, o, h1, h2⟩ := h
  exact ⟨s2, o, k _ h1, h2⟩
theorem own_ret {Q : Option Value → Heap → List Loc → Prop} {rc rs : Nat} (X : Stand p l e R s m args below meth c T locs cells slots) (hx : p.tables.exec = Jvm.exec) {pc : Nat} {Ls : Array Slot} {w : Value} {t : FieldType} {i : Instr} {rest : List Value} (hlk : meth.locks = false) (hret : meth.sig.returnType = some t) (hn : narrow t w = w)
    (hi : (i = .ireturn ∧ (t = .int ∨ t = .boolean ∨ t = .byte ∨ t = .char ∨ t = .short) ∧ ∃ z, w = .int z) ∨ (i = .lreturn ∧ t = .long ∧ ∃ z, w = .long z) ∨ (i = .dreturn ∧ t = .double ∧ ∃ z, w = .double z) ∨ (i = .freturn ∧ t = .float ∧ ∃ z, w = .float z) ∨ (i = .areturn ∧ t.isReference = true ∧ w.isRef = true))
    (hd : decode c.code pc = .ok (i, 1)) (hc : cells ≤ rc) (hs : slots ≤ rs) (hQ : Q (some w) T.heap locs) :
    own_Go p e below args s (fun _ U o U' => ∃ v L, o = .returned v ∧ Q v U'.heap L ∧ FrameEnd U o U' L rc rs) (T.setTop (mkF m pc Ls (w :: rest))) := by
  obtain ⟨fs, hr, hrun, hended, hW, hsame⟩ := X.leave (v := some w) (fun h => by rw [hret] at h; cases h) hlk
  exact ⟨_, _, retOut X hx hret hn hi hd hr, hrun, hended, _, _, rfl, hQ, ⟨_, rfl⟩, hW, hsame.mono hc hs⟩
theorem own_ret0 {Q : Option Value → Heap → List Loc → Prop} {rc rs : Nat} (X : Stand p l e R s m args below meth c T locs cells slots) (hx : p.tables.exec = Jvm.exec) {pc : Nat} {Ls : Array Slot} (hlk : meth.locks = false) (hret : meth.sig.returnType = none)
    (hd : decode c.code pc = .ok (.return_, 1)) (hc : cells ≤ rc) (hs : slots ≤ rs) (hQ : Q none T.heap locs) :
    own_Go p e below args s (fun _ U o U' => ∃ v L, o = .returned v ∧ Q v U'.heap L ∧ FrameEnd U o U' L rc rs) (T.setTop (mkF m pc Ls [])) := by
  obtain ⟨fs, hr, hrun, hended, hW, hsame⟩ := X.leave (v := none) (fun _ => rfl) hlk
  exact ⟨_, _, X.returnOut hx hret hd hr, hrun, hended, _, _, rfl, hQ, ⟨_, rfl⟩, hW, hsame.mono hc hs⟩
/-- what the sheet says of a static that holds an object of its class -/
theorem own_sta {Z : State} {args : Array Value} {C n d K : String} (hx : (Jvm.Cond.exactly (.static C n d) K).value args Z none Z [] = some true) (wi : (Jvm.Cond.initialized C).before args Z = true) (wl : (Jvm.Cond.laysStatic C n d).before args Z = true) :
    ∃ a, Sta Z Z.heap C n d (.ref a) ∧ Exa Z Z.heap a K ∧ (Jvm.Term.static C n d).eval args Z none [] Z = some (.ref a) := by
  obtain ⟨a, ev⟩ := exa_v hx
  exact ⟨a, Sta.start ev (Or.inr ⟨wi, wl⟩), Exa.start ev hx, ev⟩
theorem own_eqi {Z : State} {args : Array Value} {t : Jvm.Term} {k : Int32} (h : (Jvm.Cond.eq t (.int k)).value args Z none Z [] = some true) : t.eval args Z none [] Z = some (.int k) := by
  cases hv : t.eval args Z none [] Z with
  | none => simp [Cond.value, Term.eval, hv] at h
  | some v => cases v <;> simp [Cond.value, Term.eval, hv] at h ⊢ <;> exact h
theorem own_fld {Z : State} {args : Array Value} {t : Jvm.Term} {C n d : String} {a : Addr} {k : Int32} (ev : t.eval args Z none [] Z = some (.ref a)) (h : (Jvm.Cond.eq (.field t C n d) (.int k)).value args Z none Z [] = some true) : Fld Z Z.heap a C n d (.int k) :=
  Fld.start ((fld_at ev).symm.trans (own_eqi h))
end Own
end Jvm.RoadKit
namespace Jvm.Pilot.@@N@@
open Jvm Jvm.ClassFile Sem Op Lib Jvm.Free Jvm.Stand Jvm.LawKit Jvm.RoadKit Bundle Jvm.Pilot.@@N@@.Jvm.D
def own_cs : List (Nat × String) := [(0, "PRINCIPAL"), (1, "PRINCIPAL_AND_INTEREST")]
def own_En (Z : State) (h : Heap) (A : Nat → Addr) : Prop := ∀ q ∈ own_cs, Sta Z h "com/example/notewright/notewright/ConvertedAmount" q.2 "Lcom/example/notewright/notewright/ConvertedAmount;" (.ref (A q.1)) ∧ Exa Z h (A q.1) "com/example/notewright/notewright/ConvertedAmount" ∧ Fld Z h (A q.1) "java/lang/Enum" "ordinal" "I" (.int (Int32.ofNat q.1))
theorem own_S {Z : State} {h : Heap} {A : Nat → Addr} (En : own_En Z h A) (k : Nat) {i : Nat} {n : String} (q : own_cs[k]? = some (i, n)) : Sta Z h "com/example/notewright/notewright/ConvertedAmount" n "Lcom/example/notewright/notewright/ConvertedAmount;" (.ref (A i)) := (En _ (List.mem_of_getElem? q)).1
theorem own_E {Z : State} {h : Heap} {A : Nat → Addr} (En : own_En Z h A) (k : Nat) {i : Nat} {n : String} (q : own_cs[k]? = some (i, n)) : Exa Z h (A i) "com/example/notewright/notewright/ConvertedAmount" := (En _ (List.mem_of_getElem? q)).2.1
theorem own_O {Z : State} {h : Heap} {A : Nat → Addr} (En : own_En Z h A) (k : Nat) {i : Nat} {n : String} (q : own_cs[k]? = some (i, n)) : Fld Z h (A i) "java/lang/Enum" "ordinal" "I" (.int (Int32.ofNat i)) := (En _ (List.mem_of_getElem? q)).2.2
theorem own_ne {Z : State} {h : Heap} {A : Nat → Addr} (En : own_En Z h A) (k k' : Nat) {i j : Nat} {n n' : String} (q : own_cs[k]? = some (i, n)) (q' : own_cs[k']? = some (j, n')) (d : Int32.ofNat i ≠ Int32.ofNat j) : A i ≠ A j := (own_O En k q).ne (own_O En k' q') fun e => d (Value.int.inj e)
theorem own_En.ext {Z : State} {h h' : Heap} {A : Nat → Addr} (En : own_En Z h A) (E : Ext h h') : own_En Z h' A := fun q hq => by
  have r := En q hq
  exact ⟨r.1.ext E, r.2.1.ext E, r.2.2.ext E⟩
theorem own_En.wr {Z : State} {h h' : Heap} {A : Nat → Addr} {a : Addr} {sl : Nat} {v : Value} (En : own_En Z h A) (W : Wr h h' a sl v) (hne : ∀ q ∈ own_cs, A q.1 ≠ a) : own_En Z h' A := fun q hq => by
  have r := En q hq
  exact ⟨r.1.wr W, r.2.1.wr W, r.2.2.other W (Or.inl (hne q hq))⟩
def own_cs2 : List (Nat × String) := [(0, "NONE"), (1, "ON_PRINCIPAL"), (2, "ALL")]
def own_En2 (Z : State) (h : Heap) (A : Nat → Addr) : Prop := ∀ q ∈ own_cs2, Sta Z h "com/example/notewright/notewright/SettledInterest" q.2 "Lcom/example/notewright/notewright/SettledInterest;" (.ref (A q.1)) ∧ Exa Z h (A q.1) "com/example/notewright/notewright/SettledInterest" ∧ Fld Z h (A q.1) "java/lang/Enum" "ordinal" "I" (.int (Int32.ofNat q.1))
theorem own_S2 {Z : State} {h : Heap} {A : Nat → Addr} (En : own_En2 Z h A) (k : Nat) {i : Nat} {n : String} (q : own_cs2[k]? = some (i, n)) : Sta Z h "com/example/notewright/notewright/SettledInterest" n "Lcom/example/notewright/notewright/SettledInterest;" (.ref (A i)) := (En _ (List.mem_of_getElem? q)).1
theorem own_E2 {Z : State} {h : Heap} {A : Nat → Addr} (En : own_En2 Z h A) (k : Nat) {i : Nat} {n : String} (q : own_cs2[k]? = some (i, n)) : Exa Z h (A i) "com/example/notewright/notewright/SettledInterest" := (En _ (List.mem_of_getElem? q)).2.1
theorem own_O2 {Z : State} {h : Heap} {A : Nat → Addr} (En : own_En2 Z h A) (k : Nat) {i : Nat} {n : String} (q : own_cs2[k]? = some (i, n)) : Fld Z h (A i) "java/lang/Enum" "ordinal" "I" (.int (Int32.ofNat i)) := (En _ (List.mem_of_getElem? q)).2.2
theorem own_ne2 {Z : State} {h : Heap} {A : Nat → Addr} (En : own_En2 Z h A) (k k' : Nat) {i j : Nat} {n n' : String} (q : own_cs2[k]? = some (i, n)) (q' : own_cs2[k']? = some (j, n')) (d : Int32.ofNat i ≠ Int32.ofNat j) : A i ≠ A j := (own_O2 En k q).ne (own_O2 En k' q') fun e => d (Value.int.inj e)
theorem own_En2.ext {Z : State} {h h' : Heap} {A : Nat → Addr} (En : own_En2 Z h A) (E : Ext h h') : own_En2 Z h' A := fun q hq => by
  have r := En q hq
  exact ⟨r.1.ext E, r.2.1.ext E, r.2.2.ext E⟩
theorem own_En2.wr {Z : State} {h h' : Heap} {A : Nat → Addr} {a : Addr} {sl : Nat} {v : Value} (En : own_En2 Z h A) (W : Wr h h' a sl v) (hne : ∀ q ∈ own_cs2, A q.1 ≠ a) : own_En2 Z h' A := fun q hq => by
  have r := En q hq
  exact ⟨r.1.wr W, r.2.1.wr W, r.2.2.other W (Or.inl (hne q hq))⟩
def Q_own_inc0 (Z : State) (A : Nat → Addr) (A2 : Nat → Addr) (h0 : Heap) (n0 : Nat) (v : Option Value) (h : Heap) (L : List Loc) : Prop := v = some (.int (0 : Int32)) ∧ Fr n0 L ∧ h = h0
theorem own_d2_0 : decode prog_13_method_4_code 0 = .ok (.aload_n 0, 1) := by decide +kernel
theorem own_d2_1 : decode prog_13_method_4_code 1 = .ok (.getstatic 7, 3) := by decide +kernel
theorem own_d2_4 : decode prog_13_method_4_code 4 = .ok (.if_acmp .ne 7, 3) := by decide +kernel
theorem own_d2_11 : decode prog_13_method_4_code 11 = .ok (.iconst 0, 1) := by decide +kernel
theorem own_d2_12 : decode prog_13_method_4_code 12 = .ok (.ireturn, 1) := by decide +kernel
theorem own_pn_com_example_notewright_notewright_ConvertedAmount : plainName "com/example/notewright/notewright/ConvertedAmount" = true := by first | (simp [plainName, overriddenIn]; done) | decide +kernel
set_option maxRecDepth 65536 in
set_option maxHeartbeats 40000000 in
theorem own_inc0 (l : Launch) (Z : State) (a0 : Array Value) (hw : ∀ d ∈ tables_1, d.before a0 Z = true) (ws : List Jvm.Cond) (A : Nat → Addr) (A2 : Nat → Addr) (h0 : Heap) (n0 : Nat) (Z0 : n0 ≤ h0.size) (En : own_En Z h0 A) (En2 : own_En2 Z h0 A2) :
    MetFree l (⟨"com/example/notewright/notewright/ConvertedAmount", "includesInterest", "()Z"⟩ : MethodName) (head1 (Jvm.Cond.code (⟨"com/example/notewright/notewright/ConvertedAmount", "includesInterest", "()Z"⟩ : MethodName) prog_13_method_4_code 1 (some .boolean) :: ws) ({ frames := 0, cells := 0, slots := 0, locals := 0 } : Room)) (fun a U => a = #[(.ref (A 0))] ∧ Z.Warmed39 U.vm ∧ U.heap = h0) (fun _ _ _ _ _ => True) (fun _ U o U' => ∃ v L, o = .returned v ∧ Q_own_inc0 Z A A2 h0 n0 v U'.heap L ∧ FrameEnd U o U' L ({ frames := 0, cells := 0, slots := 0, locals := 0 } : Room).cells ({ frames := 0, cells := 0, slots := 0, locals := 0 } : Room).slots) := by
  refine MetFree.of_bodySF (plainFor_of_name own_pn_com_example_notewright_notewright_ConvertedAmount) hisR ?_
  intro p e s m args below meth c s₁ Bd hml0 hP hK
  obtain ⟨rfl, hZ, hh⟩ := hP
  have hx := Bd.exec
  have hby := Bd.bytes
  have hml : c.maxLocals = 1 := hml0
  have hown : s.vm.findClass "com/example/notewright/notewright/ConvertedAmount" = some m.cls := findClass_of_methodNamed Bd.named
  have hnm := (name_of_methodNamed Bd.named Bd.method).1
  have hlk : meth.locks = false := BodyLoose.notSynchronized Bd
  have X0 : Stand p l e ({ frames := 0, cells := 0, slots := 0, locals := 0 } : Room) s m #[(.ref (A 0))] below meth c s₁ [] 0 0 := Stand.of_body Bd
  have e0 : s₁.heap = h0 := by rw [← hh, Bd.state]; rfl
  have N0 := Fr.nil n0
  show own_Go p e below #[(.ref (A 0))] s (fun _ U o U' => ∃ v L, o = .returned v ∧ Q_own_inc0 Z A A2 h0 n0 v U'.heap L ∧ FrameEnd U o U' L ({ frames := 0, cells := 0, slots := 0, locals := 0 } : Room).cells ({ frames := 0, cells := 0, slots := 0, locals := 0 } : Room).slots) (s₁.setTop (entryFrame m #[(.ref (A 0))] 1))
  refine own_st (V := s₁.setTop (mkF m 0 #[.val (.ref (A 0))] [])) (fun t k => castTop (by first | (simp [entryFrame, mkF, argsToLocals, Value.category]; done) | rfl) k) ?_
  refine own_st (V := s₁.setTop (mkF m 1 #[.val (.ref (A 0))] [(.ref (A 0))])) (fun t k => XS.aloadN X0.here hx rfl (hb hby own_d2_0) rfl rfl k) ?_
  obtain ⟨T1, X1, e1, st1⟩ := getS2 X0 hx hZ hown (host := "") (Or.inl (hw _ (List.mem_of_getElem? (i := 13) rfl))) Via.refl e0 (own_S En 1 (i := 1) (n := "PRINCIPAL_AND_INTEREST") rfl) (g := (mkF m 1 #[.val (.ref (A 0))] [(.ref (A 0))])) rfl (hb hby own_d2_1)
  refine own_st (V := T1.setTop (mkF m 4 #[.val (.ref (A 0))] [(.ref (A 1)), (.ref (A 0))])) (fun t k => st1 _ k) ?_
  refine own_st (V := T1.setTop (mkF m 11 #[.val (.ref (A 0))] [])) (fun t k => Jvm.RoadKit.acmp (g := (mkF m 4 #[.val (.ref (A 0))] [(.ref (A 1)), (.ref (A 0))])) X1 hx rfl rfl rfl (pc0 := 4) (pc' := 11) (same := false) rfl (hb hby own_d2_4) rfl (decide_eq_false fun q => own_ne En 0 1 (i := 0) (n := "PRINCIPAL") (j := 1) (n' := "PRINCIPAL_AND_INTEREST") rfl rfl (by decide) (Value.ref.inj q)) (by decide) (by decide) k) ?_
  refine own_st (V := T1.setTop (mkF m 12 #[.val (.ref (A 0))] [(.int (0 : Int32))])) (fun t k => XS.iconst X1.here hx rfl (hb hby own_d2_11) k) ?_
  exact own_ret X1 hx hlk Bd.returns (by decide +kernel) (Or.inl ⟨rfl, by simp, _, rfl⟩) (hb hby own_d2_12) (by decide) (by decide) (by show Q_own_inc0 Z A A2 h0 n0 _ T1.heap _; rw [e1]; exact ⟨rfl, N0, rfl⟩)
def Q_own_inc1 (Z : State) (A : Nat → Addr) (A2 : Nat → Addr) (h0 : Heap) (n0 : Nat) (v : Option Value) (h : Heap) (L : List Loc) : Prop := v = some (.int (1 : Int32)) ∧ Fr n0 L ∧ h = h0
theorem own_d2_7 : decode prog_13_method_4_code 7 = .ok (.iconst 1, 1) := by decide +kernel
theorem own_d2_8 : decode prog_13_method_4_code 8 = .ok (.goto 4, 3) := by decide +kernel
set_option maxRecDepth 65536 in
set_option maxHeartbeats 40000000 in
theorem own_inc1 (l : Launch) (Z : State) (a0 : Array Value) (hw : ∀ d ∈ tables_1, d.before a0 Z = true) (ws : List Jvm.Cond) (A : Nat → Addr) (A2 : Nat → Addr) (h0 : Heap) (n0 : Nat) (Z0 : n0 ≤ h0.size) (En : own_En Z h0 A) (En2 : own_En2 Z h0 A2) :
    MetFree l (⟨"com/example/notewright/notewright/ConvertedAmount", "includesInterest", "()Z"⟩ : MethodName) (head1 (Jvm.Cond.code (⟨"com/example/notewright/notewright/ConvertedAmount", "includesInterest", "()Z"⟩ : MethodName) prog_13_method_4_code 1 (some .boolean) :: ws) ({ frames := 0, cells := 0, slots := 0, locals := 0 } : Room)) (fun a U => a = #[(.ref (A 1))] ∧ Z.Warmed39 U.vm ∧ U.heap = h0) (fun _ _ _ _ _ => True) (fun _ U o U' => ∃ v L, o = .returned v ∧ Q_own_inc1 Z A A2 h0 n0 v U'.heap L ∧ FrameEnd U o U' L ({ frames := 0, cells := 0, slots := 0, locals := 0 } : Room).cells ({ frames := 0, cells := 0, slots := 0, locals := 0 } : Room).slots) := by
  refine MetFree.of_bodySF (plainFor_of_name own_pn_com_example_notewright_notewright_ConvertedAmount) hisR ?_
  intro p e s m args below meth c s₁ Bd hml0 hP hK
  obtain ⟨rfl, hZ, hh⟩ := hP
  have hx := Bd.exec
  have hby := Bd.bytes
  have hml : c.maxLocals = 1 := hml0
  have hown : s.vm.findClass "com/example/notewright/notewright/ConvertedAmount" = some m.cls := findClass_of_methodNamed Bd.named
  have hnm := (name_of_methodNamed Bd.named Bd.method).1
  have hlk : meth.locks = false := BodyLoose.notSynchronized Bd
  have X0 : Stand p l e ({ frames := 0, cells := 0, slots := 0, locals := 0 } : Room) s m #[(.ref (A 1))] below meth c s₁ [] 0 0 := Stand.of_body Bd
  have e0 : s₁.heap = h0 := by rw [← hh, Bd.state]; rfl
  have N0 := Fr.nil n0
  show own_Go p e below #[(.ref (A 1))] s (fun _ U o U' => ∃ v L, o = .returned v ∧ Q_own_inc1 Z A A2 h0 n0 v U'.heap L ∧ FrameEnd U o U' L ({ frames := 0, cells := 0, slots := 0, locals := 0 } : Room).cells ({ frames := 0, cells := 0, slots := 0, locals := 0 } : Room).slots) (s₁.setTop (entryFrame m #[(.ref (A 1))] 1))
  refine own_st (V := s₁.setTop (mkF m 0 #[.val (.ref (A 1))] [])) (fun t k => castTop (by first | (simp [entryFrame, mkF, argsToLocals, Value.category]; done) | rfl) k) ?_
  refine own_st (V := s₁.setTop (mkF m 1 #[.val (.ref (A 1))] [(.ref (A 1))])) (fun t k => XS.aloadN X0.here hx rfl (hb hby own_d2_0) rfl rfl k) ?_
  obtain ⟨T2, X2, e2, st2⟩ := getS2 X0 hx hZ hown (host := "") (Or.inl (hw _ (List.mem_of_getElem? (i := 13) rfl))) Via.refl e0 (own_S En 1 (i := 1) (n := "PRINCIPAL_AND_INTEREST") rfl) (g := (mkF m 1 #[.val (.ref (A 1))] [(.ref (A 1))])) rfl (hb hby own_d2_1)
  refine own_st (V := T2.setTop (mkF m 4 #[.val (.ref (A 1))] [(.ref (A 1)), (.ref (A 1))])) (fun t k => st2 _ k) ?_
  refine own_st (V := T2.setTop (mkF m 7 #[.val (.ref (A 1))] [])) (fun t k => Jvm.RoadKit.acmp (g := (mkF m 4 #[.val (.ref (A 1))] [(.ref (A 1)), (.ref (A 1))])) X2 hx rfl rfl rfl (pc0 := 4) (pc' := 7) (same := true) rfl (hb hby own_d2_4) rfl (decide_eq_true rfl) (by decide) (by decide) k) ?_
  refine own_st (V := T2.setTop (mkF m 8 #[.val (.ref (A 1))] [(.int (1 : Int32))])) (fun t k => XS.iconst X2.here hx rfl (hb hby own_d2_7) k) ?_
  refine own_st (V := T2.setTop (mkF m 12 #[.val (.ref (A 1))] [(.int (1 : Int32))])) (fun t k => XS.goto X2.here hx rfl (pc0 := 8) (pc' := 12) rfl (hb hby own_d2_8) (by decide) (by decide) k) ?_
  exact own_ret X2 hx hlk Bd.returns (by decide +kernel) (Or.inl ⟨rfl, by simp, _, rfl⟩) (hb hby own_d2_12) (by decide) (by decide) (by show Q_own_inc1 Z A A2 h0 n0 _ T2.heap _; rw [e2]; exact ⟨rfl, N0, rfl⟩)
def Q_own_set0 (Z : State) (A : Nat → Addr) (A2 : Nat → Addr) (h0 : Heap) (n0 : Nat) (v : Option Value) (h : Heap) (L : List Loc) : Prop := v = some (.ref (A2 0)) ∧ Fr n0 L ∧ h = h0
theorem own_d1_0 : decode prog_13_method_5_code 0 = .ok (.aload_n 0, 1) := by decide +kernel
theorem own_d1_1 : decode prog_13_method_5_code 1 = .ok (.invokevirtual 29, 3) := by decide +kernel
theorem own_pd0 : parseMethodDescriptor "()Z" = some ⟨[], some .boolean⟩ := by decide +kernel
theorem own_d1_4 : decode prog_13_method_5_code 4 = .ok (.ifCond .eq 9, 3) := by decide +kernel
theorem own_d1_13 : decode prog_13_method_5_code 13 = .ok (.getstatic 39, 3) := by decide +kernel
theorem own_d1_16 : decode prog_13_method_5_code 16 = .ok (.areturn, 1) := by decide +kernel
set_option maxRecDepth 65536 in
set_option maxHeartbeats 40000000 in
theorem own_set0 (l : Launch) (Z : State) (a0 : Array Value) (hw : ∀ d ∈ tables_1, d.before a0 Z = true) (ws : List Jvm.Cond) (A : Nat → Addr) (A2 : Nat → Addr) (h0 : Heap) (n0 : Nat) (Z0 : n0 ≤ h0.size) (En : own_En Z h0 A) (En2 : own_En2 Z h0 A2) :
    MetFree l (⟨"com/example/notewright/notewright/ConvertedAmount", "settled", "()Lcom/example/notewright/notewright/SettledInterest;"⟩ : MethodName) (head1 (Jvm.Cond.code (⟨"com/example/notewright/notewright/ConvertedAmount", "settled", "()Lcom/example/notewright/notewright/SettledInterest;"⟩ : MethodName) prog_13_method_5_code 1 (some (.object "com/example/notewright/notewright/SettledInterest")) :: ws) ({ frames := 1, cells := 0, slots := 0, locals := 12 } : Room)) (fun a U => a = #[(.ref (A 0))] ∧ Z.Warmed39 U.vm ∧ U.heap = h0) (fun _ _ _ _ _ => True) (fun _ U o U' => ∃ v L, o = .returned v ∧ Q_own_set0 Z A A2 h0 n0 v U'.heap L ∧ FrameEnd U o U' L ({ frames := 1, cells := 0, slots := 0, locals := 12 } : Room).cells ({ frames := 1, cells := 0, slots := 0, locals := 12 } : Room).slots) := by
  refine MetFree.of_bodySF (plainFor_of_name own_pn_com_example_notewright_notewright_ConvertedAmount) hisR ?_
  intro p e s m args below meth c s₁ Bd hml0 hP hK
  obtain ⟨rfl, hZ, hh⟩ := hP
  have hx := Bd.exec
  have hby := Bd.bytes
  have hml : c.maxLocals = 1 := hml0
  have hown : s.vm.findClass "com/example/notewright/notewright/ConvertedAmount" = some m.cls := findClass_of_methodNamed Bd.named
  have hnm := (name_of_methodNamed Bd.named Bd.method).1
  have hlk : meth.locks = false := BodyLoose.notSynchronized Bd
  have X0 : Stand p l e ({ frames := 1, cells := 0, slots := 0, locals := 12 } : Room) s m #[(.ref (A 0))] below meth c s₁ [] 0 0 := Stand.of_body Bd
  have e0 : s₁.heap = h0 := by rw [← hh, Bd.state]; rfl
  have N0 := Fr.nil n0
  show own_Go p e below #[(.ref (A 0))] s (fun _ U o U' => ∃ v L, o = .returned v ∧ Q_own_set0 Z A A2 h0 n0 v U'.heap L ∧ FrameEnd U o U' L ({ frames := 1, cells := 0, slots := 0, locals := 12 } : Room).cells ({ frames := 1, cells := 0, slots := 0, locals := 12 } : Room).slots) (s₁.setTop (entryFrame m #[(.ref (A 0))] 1))
  refine own_st (V := s₁.setTop (mkF m 0 #[.val (.ref (A 0))] [])) (fun t k => castTop (by first | (simp [entryFrame, mkF, argsToLocals, Value.category]; done) | rfl) k) ?_
  refine own_st (V := s₁.setTop (mkF m 1 #[.val (.ref (A 0))] [(.ref (A 0))])) (fun t k => XS.aloadN X0.here hx rfl (hb hby own_d1_0) rfl rfl k) ?_
  obtain ⟨cq3, kq3, q3a, q3b, q3c⟩ := isOf hZ e0 (own_E En 0 (i := 0) (n := "PRINCIPAL") rfl)
  obtain ⟨_, _, ⟨T3, L3, k3, n3⟩, -, X3, ⟨Lc3, hQ3, l3, y3, z3⟩, st3⟩ := X0.virtualBack hx (y := (⟨"com/example/notewright/notewright/ConvertedAmount", "includesInterest", "()Z"⟩ : MethodName)) (z := (⟨"com/example/notewright/notewright/ConvertedAmount", "includesInterest", "()Z"⟩ : MethodName)) hown (mvT hZ (hw _ (List.mem_of_getElem? (i := 8) rfl))) (mvT hZ (hw _ (List.mem_of_getElem? (i := 9) rfl))) (notFace_of_selects (args := #[]) (mvT hZ (hw _ (List.mem_of_getElem? (i := 11) rfl)))) (mvT hZ (hw _ (List.mem_of_getElem? (i := 11) rfl))) (mvT hZ (hw _ (List.mem_of_getElem? (i := 10) rfl))) (by decide) (backOf (W := 0) (own_inc0 l Z a0 hw [] A A2 h0 n0 Z0 En En2 ) hZ (hw _ (List.mem_of_getElem? (i := 12) rfl)) (hw _ (List.mem_of_getElem? (i := 1) rfl)) (by decide) (by decide)) q3a q3c (g := (mkF m 1 #[.val (.ref (A 0))] [(.ref (A 0))])) rfl (by rw [hml]; rfl) (Steps.refl _) (argsL := []) (rest := []) (lenOf own_pd0 rfl) rfl (by show 2 * 0 + _ ≤ _; exact Nat.le_of_eq rfl) (hb hby own_d1_1) (fun _ _ => ⟨rfl, e0, (by decide : 0 + 0 ≤ _), (by decide : 0 + 0 ≤ _)⟩)
  dsimp only [Pt.U, Pt.locs, Pt.cells, Pt.slots] at X3 l3 y3 z3 st3 hQ3
  subst l3 y3 z3
  obtain ⟨rfl, N3q, e3⟩ := hQ3
  have N3 := Fr.app N0 N3q
  refine own_st (V := T3.setTop (mkF m 4 #[.val (.ref (A 0))] [(.int (0 : Int32))])) (fun t k => st3.trans k) ?_
  refine own_st (V := T3.setTop (mkF m 13 #[.val (.ref (A 0))] [])) (fun t k => XS.ifYes X3.here hx rfl (pc0 := 4) (pc' := 13) rfl (hb hby own_d1_4) rfl ((if0 _ _).trans (teq (by decide : (0 : Int32) = (0 : Int32))).1) (by decide) (by decide) k) ?_
  obtain ⟨T4, X4, e4, st4⟩ := getS2 X3 hx hZ hown (host := "") (Or.inl (hw _ (List.mem_of_getElem? (i := 15) rfl))) Via.refl e3 (own_S2 En2 0 (i := 0) (n := "NONE") rfl) (g := (mkF m 13 #[.val (.ref (A 0))] [])) rfl (hb hby own_d1_13)
  refine own_st (V := T4.setTop (mkF m 16 #[.val (.ref (A 0))] [(.ref (A2 0))])) (fun t k => st4 _ k) ?_
  exact own_ret X4 hx hlk Bd.returns rfl (Or.inr (Or.inr (Or.inr (Or.inr ⟨rfl, rfl, rfl⟩)))) (hb hby own_d1_16) (by decide) (by decide) (by show Q_own_set0 Z A A2 h0 n0 _ T4.heap _; rw [e4]; exact ⟨rfl, N3, rfl⟩)
def Q_own_set1 (Z : State) (A : Nat → Addr) (A2 : Nat → Addr) (h0 : Heap) (n0 : Nat) (v : Option Value) (h : Heap) (L : List Loc) : Prop := v = some (.ref (A2 1)) ∧ Fr n0 L ∧ h = h0
theorem own_d1_7 : decode prog_13_method_5_code 7 = .ok (.getstatic 33, 3) := by decide +kernel
theorem own_d1_10 : decode prog_13_method_5_code 10 = .ok (.goto 6, 3) := by decide +kernel
set_option maxRecDepth 65536 in
set_option maxHeartbeats 40000000 in
theorem own_set1 (l : Launch) (Z : State) (a0 : Array Value) (hw : ∀ d ∈ tables_1, d.before a0 Z = true) (ws : List Jvm.Cond) (A : Nat → Addr) (A2 : Nat → Addr) (h0 : Heap) (n0 : Nat) (Z0 : n0 ≤ h0.size) (En : own_En Z h0 A) (En2 : own_En2 Z h0 A2) :
    MetFree l (⟨"com/example/notewright/notewright/ConvertedAmount", "settled", "()Lcom/example/notewright/notewright/SettledInterest;"⟩ : MethodName) (head1 (Jvm.Cond.code (⟨"com/example/notewright/notewright/ConvertedAmount", "settled", "()Lcom/example/notewright/notewright/SettledInterest;"⟩ : MethodName) prog_13_method_5_code 1 (some (.object "com/example/notewright/notewright/SettledInterest")) :: ws) ({ frames := 1, cells := 0, slots := 0, locals := 12 } : Room)) (fun a U => a = #[(.ref (A 1))] ∧ Z.Warmed39 U.vm ∧ U.heap = h0) (fun _ _ _ _ _ => True) (fun _ U o U' => ∃ v L, o = .returned v ∧ Q_own_set1 Z A A2 h0 n0 v U'.heap L ∧ FrameEnd U o U' L ({ frames := 1, cells := 0, slots := 0, locals := 12 } : Room).cells ({ frames := 1, cells := 0, slots := 0, locals := 12 } : Room).slots) := by
  refine MetFree.of_bodySF (plainFor_of_name own_pn_com_example_notewright_notewright_ConvertedAmount) hisR ?_
  intro p e s m args below meth c s₁ Bd hml0 hP hK
  obtain ⟨rfl, hZ, hh⟩ := hP
  have hx := Bd.exec
  have hby := Bd.bytes
  have hml : c.maxLocals = 1 := hml0
  have hown : s.vm.findClass "com/example/notewright/notewright/ConvertedAmount" = some m.cls := findClass_of_methodNamed Bd.named
  have hnm := (name_of_methodNamed Bd.named Bd.method).1
  have hlk : meth.locks = false := BodyLoose.notSynchronized Bd
  have X0 : Stand p l e ({ frames := 1, cells := 0, slots := 0, locals := 12 } : Room) s m #[(.ref (A 1))] below meth c s₁ [] 0 0 := Stand.of_body Bd
  have e0 : s₁.heap = h0 := by rw [← hh, Bd.state]; rfl
  have N0 := Fr.nil n0
  show own_Go p e below #[(.ref (A 1))] s (fun _ U o U' => ∃ v L, o = .returned v ∧ Q_own_set1 Z A A2 h0 n0 v U'.heap L ∧ FrameEnd U o U' L ({ frames := 1, cells := 0, slots := 0, locals := 12 } : Room).cells ({ frames := 1, cells := 0, slots := 0, locals := 12 } : Room).slots) (s₁.setTop (entryFrame m #[(.ref (A 1))] 1))
  refine own_st (V := s₁.setTop (mkF m 0 #[.val (.ref (A 1))] [])) (fun t k => castTop (by first | (simp [entryFrame, mkF, argsToLocals, Value.category]; done) | rfl) k) ?_
  refine own_st (V := s₁.setTop (mkF m 1 #[.val (.ref (A 1))] [(.ref (A 1))])) (fun t k => XS.aloadN X0.here hx rfl (hb hby own_d1_0) rfl rfl k) ?_
  obtain ⟨cq5, kq5, q5a, q5b, q5c⟩ := isOf hZ e0 (own_E En 1 (i := 1) (n := "PRINCIPAL_AND_INTEREST") rfl)
  obtain ⟨_, _, ⟨T5, L5, k5, n5⟩, -, X5, ⟨Lc5, hQ5, l5, y5, z5⟩, st5⟩ := X0.virtualBack hx (y := (⟨"com/example/notewright/notewright/ConvertedAmount", "includesInterest", "()Z"⟩ : MethodName)) (z := (⟨"com/example/notewright/notewright/ConvertedAmount", "includesInterest", "()Z"⟩ : MethodName)) hown (mvT hZ (hw _ (List.mem_of_getElem? (i := 8) rfl))) (mvT hZ (hw _ (List.mem_of_getElem? (i := 9) rfl))) (notFace_of_selects (args := #[]) (mvT hZ (hw _ (List.mem_of_getElem? (i := 11) rfl)))) (mvT hZ (hw _ (List.mem_of_getElem? (i := 11) rfl))) (mvT hZ (hw _ (List.mem_of_getElem? (i := 10) rfl))) (by decide) (backOf (W := 0) (own_inc1 l Z a0 hw [] A A2 h0 n0 Z0 En En2 ) hZ (hw _ (List.mem_of_getElem? (i := 12) rfl)) (hw _ (List.mem_of_getElem? (i := 1) rfl)) (by decide) (by decide)) q5a q5c (g := (mkF m 1 #[.val (.ref (A 1))] [(.ref (A 1))])) rfl (by rw [hml]; rfl) (Steps.refl _) (argsL := []) (rest := []) (lenOf own_pd0 rfl) rfl (by show 2 * 0 + _ ≤ _; exact Nat.le_of_eq rfl) (hb hby own_d1_1) (fun _ _ => ⟨rfl, e0, (by decide : 0 + 0 ≤ _), (by decide : 0 + 0 ≤ _)⟩)
  dsimp only [Pt.U, Pt.locs, Pt.cells, Pt.slots] at X5 l5 y5 z5 st5 hQ5
  subst l5 y5 z5
  obtain ⟨rfl, N5q, e5⟩ := hQ5
  have N5 := Fr.app N0 N5q
  refine own_st (V := T5.setTop (mkF m 4 #[.val (.ref (A 1))] [(.int (1 : Int32))])) (fun t k => st5.trans k) ?_
  refine own_st (V := T5.setTop (mkF m 7 #[.val (.ref (A 1))] [])) (fun t k => XS.ifNo X5.here hx rfl (hb hby own_d1_4) rfl ((if0 _ _).trans (feq (by decide : ¬ ((1 : Int32) = (0 : Int32)))).1) k) ?_
  obtain ⟨T6, X6, e6, st6⟩ := getS2 X5 hx hZ hown (host := "") (Or.inl (hw _ (List.mem_of_getElem? (i := 23) rfl))) Via.refl e5 (own_S2 En2 1 (i := 1) (n := "ON_PRINCIPAL") rfl) (g := (mkF m 7 #[.val (.ref (A 1))] [])) rfl (hb hby own_d1_7)
  refine own_st (V := T6.setTop (mkF m 10 #[.val (.ref (A 1))] [(.ref (A2 1))])) (fun t k => st6 _ k) ?_
  refine own_st (V := T6.setTop (mkF m 16 #[.val (.ref (A 1))] [(.ref (A2 1))])) (fun t k => XS.goto X6.here hx rfl (pc0 := 10) (pc' := 16) rfl (hb hby own_d1_10) (by decide) (by decide) k) ?_
  exact own_ret X6 hx hlk Bd.returns rfl (Or.inr (Or.inr (Or.inr (Or.inr ⟨rfl, rfl, rfl⟩)))) (hb hby own_d1_16) (by decide) (by decide) (by show Q_own_set1 Z A A2 h0 n0 _ T6.heap _; rw [e6]; exact ⟨rfl, N5, rfl⟩)
theorem own_c (x : Int32) : (x &&& (1 : Int32)) = (0 : Int32) ∨ (x &&& (1 : Int32)) = (1 : Int32) := by
  have h := c_mask x 1 1 (by decide) (by decide)
  have e : ∀ k : Int32, (x &&& (1 : Int32)).toInt = k.toInt → (x &&& (1 : Int32)) = k := fun k q => Int32.toInt_inj.mp q
  have b : (x &&& (1 : Int32)).toInt = 0 ∨ (x &&& (1 : Int32)).toInt = 1 := by omega
  rcases b with b | b
  · exact Or.inl (e 0 b)
  · exact Or.inr (e 1 b)
def own_Q0 (Z : State) (p1 : Int32) (A : Nat → Addr) (A2 : Nat → Addr) (h0 : Heap) (n0 : Nat) (v : Option Value) (h : Heap) (L : List Loc) : Prop := v = some (.int (1 : Int32)) ∧ Fr n0 L
theorem own_pd1 : parseMethodDescriptor "()Lcom/example/notewright/notewright/SettledInterest;" = some ⟨[], some (.object "com/example/notewright/notewright/SettledInterest")⟩ := by decide +kernel
theorem own_pn_com_example_notewright_notewright_ConvertedAmountSettledPinLaw : plainName "com/example/notewright/notewright/ConvertedAmountSettledPinLaw" = true := by first | (simp [plainName, overriddenIn]; done) | decide +kernel
set_option maxRecDepth 65536 in
set_option maxHeartbeats 40000000 in
theorem own_law0 (l : Launch) (Z : State) (a0 : Array Value) (hw : ∀ d ∈ tables_1, d.before a0 Z = true) (ws : List Jvm.Cond) (p1 : Int32) (A : Nat → Addr) (A2 : Nat → Addr) (h0 : Heap) (n0 : Nat) (Z0 : n0 ≤ h0.size) (En : own_En Z h0 A) (En2 : own_En2 Z h0 A2) (hk : (p1 &&& (1 : Int32)) = (0 : Int32)) :
    MetFree l x (head1 (Jvm.Cond.code x code maxLocals ret :: ws) room_1) (fun a U => a = #[(.int p1)] ∧ Z.Warmed39 U.vm ∧ U.heap = h0) (fun _ _ _ _ _ => True) (fun _ U o U' => ∃ v L, o = .returned v ∧ own_Q0 Z p1 A A2 h0 n0 v U'.heap L ∧ FrameEnd U o U' L room_1.cells room_1.slots) := by
  refine MetFree.of_bodySF (plainFor_of_name own_pn_com_example_notewright_notewright_ConvertedAmountSettledPinLaw) hisR ?_
  intro p e s m args below meth c s₁ Bd hml0 hP hK
  obtain ⟨rfl, hZ, hh⟩ := hP
  have hx := Bd.exec
  have hby := Bd.bytes
  have hml : c.maxLocals = 6 := hml0
  have hown : s.vm.findClass "com/example/notewright/notewright/ConvertedAmountSettledPinLaw" = some m.cls := findClass_of_methodNamed Bd.named
  have hnm := (name_of_methodNamed Bd.named Bd.method).1
  have hlk : meth.locks = false := BodyLoose.notSynchronized Bd
  have X0 : Stand p l e room_1 s m #[(.int p1)] below meth c s₁ [] 0 0 := Stand.of_body Bd
  have e0 : s₁.heap = h0 := by rw [← hh, Bd.state]; rfl
  have N0 := Fr.nil n0
  show own_Go p e below #[(.int p1)] s (fun _ U o U' => ∃ v L, o = .returned v ∧ own_Q0 Z p1 A A2 h0 n0 v U'.heap L ∧ FrameEnd U o U' L room_1.cells room_1.slots) (s₁.setTop (entryFrame m #[(.int p1)] maxLocals))
  refine own_st (V := s₁.setTop (mkF m 0 #[.val (.int p1), .unset, .unset, .unset, .unset, .unset] [])) (fun t k => castTop (by first | (simp [entryFrame, mkF, argsToLocals, Value.category, maxLocals]; done) | rfl) k) ?_
  refine own_st (V := s₁.setTop (mkF m 1 #[.val (.int p1), .unset, .unset, .unset, .unset, .unset] [(.int p1)])) (fun t k => XS.iloadN X0.here hx rfl (hb hby at_0) rfl k) ?_
  refine own_st (V := s₁.setTop (mkF m 2 #[.val (.int p1), .unset, .unset, .unset, .unset, .unset] [(.int (1 : Int32)), (.int p1)])) (fun t k => XS.iconst X0.here hx rfl (hb hby at_1) k) ?_
  refine own_st (V := s₁.setTop (mkF m 3 #[.val (.int p1), .unset, .unset, .unset, .unset, .unset] [(.int (p1 &&& (1 : Int32)))])) (fun t k => XS.iand X0.here hx rfl (hb hby at_2) rfl k) ?_
  rw [hk]
  refine own_st (V := s₁.setTop (mkF m 10 #[.val (.int p1), .unset, .unset, .unset, .unset, .unset] [])) (fun t k => XS.ifYes X0.here hx rfl (pc0 := 3) (pc' := 10) rfl (hb hby at_3) rfl ((if0 _ _).trans (teq (by decide : (0 : Int32) = (0 : Int32))).1) (by decide) (by decide) k) ?_
  refine own_st (V := s₁.setTop (mkF m 11 #[.val (.int p1), .unset, .unset, .unset, .unset, .unset] [(.int (0 : Int32))])) (fun t k => XS.iconst X0.here hx rfl (hb hby at_10) k) ?_
  refine own_st (V := s₁.setTop (mkF m 12 #[.val (.int p1), .val (.int (0 : Int32)), .unset, .unset, .unset, .unset] [])) (fun t k => XS.istoreN X0.here hx rfl (hb hby at_11) rfl (l' := #[.val (.int p1), .val (.int (0 : Int32)), .unset, .unset, .unset, .unset]) rfl k) ?_
  refine own_st (V := s₁.setTop (mkF m 13 #[.val (.int p1), .val (.int (0 : Int32)), .unset, .unset, .unset, .unset] [(.int (0 : Int32))])) (fun t k => XS.iloadN X0.here hx rfl (hb hby at_12) rfl k) ?_
  refine own_st (V := s₁.setTop (mkF m 22 #[.val (.int p1), .val (.int (0 : Int32)), .unset, .unset, .unset, .unset] [])) (fun t k => XS.ifYes X0.here hx rfl (pc0 := 13) (pc' := 22) rfl (hb hby at_13) rfl ((if0 _ _).trans (teq (by decide : (0 : Int32) = (0 : Int32))).1) (by decide) (by decide) k) ?_
  obtain ⟨T7, X7, e7, st7⟩ := getS2 X0 hx hZ hown (host := "") (Or.inl (hw _ (List.mem_of_getElem? (i := 0) rfl))) Via.refl e0 (own_S En 0 (i := 0) (n := "PRINCIPAL") rfl) (g := (mkF m 22 #[.val (.int p1), .val (.int (0 : Int32)), .unset, .unset, .unset, .unset] [])) rfl (hb hby at_22)
  refine own_st (V := T7.setTop (mkF m 25 #[.val (.int p1), .val (.int (0 : Int32)), .unset, .unset, .unset, .unset] [(.ref (A 0))])) (fun t k => st7 _ k) ?_
  refine own_st (V := T7.setTop (mkF m 26 #[.val (.int p1), .val (.int (0 : Int32)), .val (.ref (A 0)), .unset, .unset, .unset] [])) (fun t k => XS.astoreN X7.here hx rfl (hb hby at_25) rfl rfl (l' := #[.val (.int p1), .val (.int (0 : Int32)), .val (.ref (A 0)), .unset, .unset, .unset]) rfl k) ?_
  refine own_st (V := T7.setTop (mkF m 27 #[.val (.int p1), .val (.int (0 : Int32)), .val (.ref (A 0)), .unset, .unset, .unset] [(.ref (A 0))])) (fun t k => XS.aloadN X7.here hx rfl (hb hby at_26) rfl rfl k) ?_
  obtain ⟨cq8, kq8, q8a, q8b, q8c⟩ := isOf hZ e7 (own_E En 0 (i := 0) (n := "PRINCIPAL") rfl)
  obtain ⟨_, _, ⟨T8, L8, k8, n8⟩, -, X8, ⟨Lc8, hQ8, l8, y8, z8⟩, st8⟩ := X7.virtualBack hx (y := (⟨"com/example/notewright/notewright/ConvertedAmount", "settled", "()Lcom/example/notewright/notewright/SettledInterest;"⟩ : MethodName)) (z := (⟨"com/example/notewright/notewright/ConvertedAmount", "settled", "()Lcom/example/notewright/notewright/SettledInterest;"⟩ : MethodName)) hown (mvT hZ (hw _ (List.mem_of_getElem? (i := 3) rfl))) (mvT hZ (hw _ (List.mem_of_getElem? (i := 4) rfl))) (notFace_of_selects (args := #[]) (mvT hZ (hw _ (List.mem_of_getElem? (i := 6) rfl)))) (mvT hZ (hw _ (List.mem_of_getElem? (i := 6) rfl))) (mvT hZ (hw _ (List.mem_of_getElem? (i := 5) rfl))) (by decide) (backOf (W := 0) (own_set0 l Z a0 hw [] A A2 h0 n0 Z0 En En2 ) hZ (hw _ (List.mem_of_getElem? (i := 7) rfl)) (hw _ (List.mem_of_getElem? (i := 1) rfl)) (by decide) (by decide)) q8a q8c (g := (mkF m 27 #[.val (.int p1), .val (.int (0 : Int32)), .val (.ref (A 0)), .unset, .unset, .unset] [(.ref (A 0))])) rfl (by rw [hml]; rfl) (Steps.refl _) (argsL := []) (rest := []) (lenOf own_pd1 rfl) rfl (by show 2 * 0 + _ ≤ _; exact Nat.le_of_eq rfl) (hb hby at_27) (fun _ _ => ⟨rfl, e7, (by decide : 0 + 0 ≤ _), (by decide : 0 + 0 ≤ _)⟩)
  dsimp only [Pt.U, Pt.locs, Pt.cells, Pt.slots] at X8 l8 y8 z8 st8 hQ8
  subst l8 y8 z8
  obtain ⟨rfl, N8q, e8⟩ := hQ8
  have N8 := Fr.app N0 N8q
  refine own_st (V := T8.setTop (mkF m 30 #[.val (.int p1), .val (.int (0 : Int32)), .val (.ref (A 0)), .unset, .unset, .unset] [(.ref (A2 0))])) (fun t k => st8.trans k) ?_
  refine own_st (V := T8.setTop (mkF m 31 #[.val (.int p1), .val (.int (0 : Int32)), .val (.ref (A 0)), .val (.ref (A2 0)), .unset, .unset] [])) (fun t k => XS.astoreN X8.here hx rfl (hb hby at_30) rfl rfl (l' := #[.val (.int p1), .val (.int (0 : Int32)), .val (.ref (A 0)), .val (.ref (A2 0)), .unset, .unset]) rfl k) ?_
  refine own_st (V := T8.setTop (mkF m 32 #[.val (.int p1), .val (.int (0 : Int32)), .val (.ref (A 0)), .val (.ref (A2 0)), .unset, .unset] [(.int (0 : Int32))])) (fun t k => XS.iloadN X8.here hx rfl (hb hby at_31) rfl k) ?_
  refine own_st (V := T8.setTop (mkF m 41 #[.val (.int p1), .val (.int (0 : Int32)), .val (.ref (A 0)), .val (.ref (A2 0)), .unset, .unset] [])) (fun t k => XS.ifYes X8.here hx rfl (pc0 := 32) (pc' := 41) rfl (hb hby at_32) rfl ((if0 _ _).trans (teq (by decide : (0 : Int32) = (0 : Int32))).1) (by decide) (by decide) k) ?_
  obtain ⟨T9, X9, e9, st9⟩ := getS2 X8 hx hZ hown (host := "") (Or.inl (hw _ (List.mem_of_getElem? (i := 18) rfl))) Via.refl e8 (own_S2 En2 0 (i := 0) (n := "NONE") rfl) (g := (mkF m 41 #[.val (.int p1), .val (.int (0 : Int32)), .val (.ref (A 0)), .val (.ref (A2 0)), .unset, .unset] [])) rfl (hb hby at_41)
  refine own_st (V := T9.setTop (mkF m 44 #[.val (.int p1), .val (.int (0 : Int32)), .val (.ref (A 0)), .val (.ref (A2 0)), .unset, .unset] [(.ref (A2 0))])) (fun t k => st9 _ k) ?_
  refine own_st (V := T9.setTop (mkF m 46 #[.val (.int p1), .val (.int (0 : Int32)), .val (.ref (A 0)), .val (.ref (A2 0)), .val (.ref (A2 0)), .unset] [])) (fun t k => XS.astore X9.here hx rfl (hb hby at_44) rfl rfl (l' := #[.val (.int p1), .val (.int (0 : Int32)), .val (.ref (A 0)), .val (.ref (A2 0)), .val (.ref (A2 0)), .unset]) rfl k) ?_
  refine own_st (V := T9.setTop (mkF m 47 #[.val (.int p1), .val (.int (0 : Int32)), .val (.ref (A 0)), .val (.ref (A2 0)), .val (.ref (A2 0)), .unset] [(.ref (A2 0))])) (fun t k => XS.aloadN X9.here hx rfl (hb hby at_46) rfl rfl k) ?_
  obtain ⟨T10, X10, e10, st10⟩ := getS2 X9 hx hZ hown (host := "") (Or.inl (hw _ (List.mem_of_getElem? (i := 18) rfl))) Via.refl e9 (own_S2 En2 0 (i := 0) (n := "NONE") rfl) (g := (mkF m 47 #[.val (.int p1), .val (.int (0 : Int32)), .val (.ref (A 0)), .val (.ref (A2 0)), .val (.ref (A2 0)), .unset] [(.ref (A2 0))])) rfl (hb hby at_47)
  refine own_st (V := T10.setTop (mkF m 50 #[.val (.int p1), .val (.int (0 : Int32)), .val (.ref (A 0)), .val (.ref (A2 0)), .val (.ref (A2 0)), .unset] [(.ref (A2 0)), (.ref (A2 0))])) (fun t k => st10 _ k) ?_
  refine own_st (V := T10.setTop (mkF m 53 #[.val (.int p1), .val (.int (0 : Int32)), .val (.ref (A 0)), .val (.ref (A2 0)), .val (.ref (A2 0)), .unset] [])) (fun t k => Jvm.RoadKit.acmp (g := (mkF m 50 #[.val (.int p1), .val (.int (0 : Int32)), .val (.ref (A 0)), .val (.ref (A2 0)), .val (.ref (A2 0)), .unset] [(.ref (A2 0)), (.ref (A2 0))])) X10 hx rfl rfl rfl (pc0 := 50) (pc' := 53) (same := true) rfl (hb hby at_50) rfl (decide_eq_true rfl) (by decide) (by decide) k) ?_
  refine own_st (V := T10.setTop (mkF m 54 #[.val (.int p1), .val (.int (0 : Int32)), .val (.ref (A 0)), .val (.ref (A2 0)), .val (.ref (A2 0)), .unset] [(.int (1 : Int32))])) (fun t k => XS.iconst X10.here hx rfl (hb hby at_53) k) ?_
  refine own_st (V := T10.setTop (mkF m 58 #[.val (.int p1), .val (.int (0 : Int32)), .val (.ref (A 0)), .val (.ref (A2 0)), .val (.ref (A2 0)), .unset] [(.int (1 : Int32))])) (fun t k => XS.goto X10.here hx rfl (pc0 := 54) (pc' := 58) rfl (hb hby at_54) (by decide) (by decide) k) ?_
  refine own_st (V := T10.setTop (mkF m 59 #[.val (.int p1), .val (.int (0 : Int32)), .val (.ref (A 0)), .val (.ref (A2 0)), .val (.ref (A2 0)), .unset] [(.ref (A 0)), (.int (1 : Int32))])) (fun t k => XS.aloadN X10.here hx rfl (hb hby at_58) rfl rfl k) ?_
  obtain ⟨cq11, kq11, q11a, q11b, q11c⟩ := isOf hZ e10 (own_E En 0 (i := 0) (n := "PRINCIPAL") rfl)
  obtain ⟨_, _, ⟨T11, L11, k11, n11⟩, -, X11, ⟨Lc11, hQ11, l11, y11, z11⟩, st11⟩ := X10.virtualBack hx (y := (⟨"com/example/notewright/notewright/ConvertedAmount", "includesInterest", "()Z"⟩ : MethodName)) (z := (⟨"com/example/notewright/notewright/ConvertedAmount", "includesInterest", "()Z"⟩ : MethodName)) hown (mvT hZ (hw _ (List.mem_of_getElem? (i := 19) rfl))) (mvT hZ (hw _ (List.mem_of_getElem? (i := 9) rfl))) (notFace_of_selects (args := #[]) (mvT hZ (hw _ (List.mem_of_getElem? (i := 11) rfl)))) (mvT hZ (hw _ (List.mem_of_getElem? (i := 11) rfl))) (mvT hZ (hw _ (List.mem_of_getElem? (i := 10) rfl))) (by decide) (backOf (W := 1) (own_inc0 l Z a0 hw [] A A2 h0 n0 Z0 En En2 ) hZ (hw _ (List.mem_of_getElem? (i := 12) rfl)) (hw _ (List.mem_of_getElem? (i := 1) rfl)) (by decide) (by decide)) q11a q11c (g := (mkF m 59 #[.val (.int p1), .val (.int (0 : Int32)), .val (.ref (A 0)), .val (.ref (A2 0)), .val (.ref (A2 0)), .unset] [(.ref (A 0)), (.int (1 : Int32))])) rfl (by rw [hml]; rfl) (Steps.refl _) (argsL := []) (rest := [(.int (1 : Int32))]) (lenOf own_pd0 rfl) rfl (by show 2 * 0 + _ ≤ _; exact Nat.le_of_eq rfl) (hb hby at_59) (fun _ _ => ⟨rfl, e10, (by decide : 0 + 0 ≤ _), (by decide : 0 + 0 ≤ _)⟩)
  dsimp only [Pt.U, Pt.locs, Pt.cells, Pt.slots] at X11 l11 y11 z11 st11 hQ11
  subst l11 y11 z11
  obtain ⟨rfl, N11q, e11⟩ := hQ11
  have N11 := Fr.app N8 N11q
  refine own_st (V := T11.setTop (mkF m 62 #[.val (.int p1), .val (.int (0 : Int32)), .val (.ref (A 0)), .val (.ref (A2 0)), .val (.ref (A2 0)), .unset] [(.int (0 : Int32)), (.int (1 : Int32))])) (fun t k => st11.trans k) ?_
  refine own_st (V := T11.setTop (mkF m 65 #[.val (.int p1), .val (.int (0 : Int32)), .val (.ref (A 0)), .val (.ref (A2 0)), .val (.ref (A2 0)), .unset] [(.int (1 : Int32))])) (fun t k => XS.ifNo X11.here hx rfl (hb hby at_62) rfl ((if0 _ _).trans (teq (by decide : (0 : Int32) = (0 : Int32))).2) k) ?_
  refine own_st (V := T11.setTop (mkF m 66 #[.val (.int p1), .val (.int (0 : Int32)), .val (.ref (A 0)), .val (.ref (A2 0)), .val (.ref (A2 0)), .unset] [(.int (1 : Int32)), (.int (1 : Int32))])) (fun t k => XS.iconst X11.here hx rfl (hb hby at_65) k) ?_
  refine own_st (V := T11.setTop (mkF m 70 #[.val (.int p1), .val (.int (0 : Int32)), .val (.ref (A 0)), .val (.ref (A2 0)), .val (.ref (A2 0)), .unset] [(.int (1 : Int32)), (.int (1 : Int32))])) (fun t k => XS.goto X11.here hx rfl (pc0 := 66) (pc' := 70) rfl (hb hby at_66) (by decide) (by decide) k) ?_
  refine own_st (V := T11.setTop (mkF m 73 #[.val (.int p1), .val (.int (0 : Int32)), .val (.ref (A 0)), .val (.ref (A2 0)), .val (.ref (A2 0)), .unset] [])) (fun t k => XS.icmpNo X11.here hx rfl (hb hby at_70) rfl (teq (by decide : (1 : Int32) = (1 : Int32))).2 k) ?_
  refine own_st (V := T11.setTop (mkF m 74 #[.val (.int p1), .val (.int (0 : Int32)), .val (.ref (A 0)), .val (.ref (A2 0)), .val (.ref (A2 0)), .unset] [(.int (1 : Int32))])) (fun t k => XS.iconst X11.here hx rfl (hb hby at_73) k) ?_
  refine own_st (V := T11.setTop (mkF m 78 #[.val (.int p1), .val (.int (0 : Int32)), .val (.ref (A 0)), .val (.ref (A2 0)), .val (.ref (A2 0)), .unset] [(.int (1 : Int32))])) (fun t k => XS.goto X11.here hx rfl (pc0 := 74) (pc' := 78) rfl (hb hby at_74) (by decide) (by decide) k) ?_
  refine own_st (V := T11.setTop (mkF m 80 #[.val (.int p1), .val (.int (0 : Int32)), .val (.ref (A 0)), .val (.ref (A2 0)), .val (.ref (A2 0)), .val (.int (1 : Int32))] [])) (fun t k => XS.istore X11.here hx rfl (hb hby at_78) rfl (l' := #[.val (.int p1), .val (.int (0 : Int32)), .val (.ref (A 0)), .val (.ref (A2 0)), .val (.ref (A2 0)), .val (.int (1 : Int32))]) rfl k) ?_
  refine own_st (V := T11.setTop (mkF m 81 #[.val (.int p1), .val (.int (0 : Int32)), .val (.ref (A 0)), .val (.ref (A2 0)), .val (.ref (A2 0)), .val (.int (1 : Int32))] [(.ref (A2 0))])) (fun t k => XS.aloadN X11.here hx rfl (hb hby at_80) rfl rfl k) ?_
  refine own_st (V := T11.setTop (mkF m 83 #[.val (.int p1), .val (.int (0 : Int32)), .val (.ref (A 0)), .val (.ref (A2 0)), .val (.ref (A2 0)), .val (.int (1 : Int32))] [(.ref (A2 0)), (.ref (A2 0))])) (fun t k => XS.aload X11.here hx rfl (hb hby at_81) rfl rfl k) ?_
  refine own_st (V := T11.setTop (mkF m 86 #[.val (.int p1), .val (.int (0 : Int32)), .val (.ref (A 0)), .val (.ref (A2 0)), .val (.ref (A2 0)), .val (.int (1 : Int32))] [])) (fun t k => Jvm.RoadKit.acmp (g := (mkF m 83 #[.val (.int p1), .val (.int (0 : Int32)), .val (.ref (A 0)), .val (.ref (A2 0)), .val (.ref (A2 0)), .val (.int (1 : Int32))] [(.ref (A2 0)), (.ref (A2 0))])) X11 hx rfl rfl rfl (pc0 := 83) (pc' := 86) (same := true) rfl (hb hby at_83) rfl (decide_eq_true rfl) (by decide) (by decide) k) ?_
  refine own_st (V := T11.setTop (mkF m 87 #[.val (.int p1), .val (.int (0 : Int32)), .val (.ref (A 0)), .val (.ref (A2 0)), .val (.ref (A2 0)), .val (.int (1 : Int32))] [(.ref (A2 0))])) (fun t k => XS.aloadN X11.here hx rfl (hb hby at_86) rfl rfl k) ?_
  obtain ⟨T12, X12, e12, st12⟩ := getS2 X11 hx hZ hown (host := "") (Or.inl (hw _ (List.mem_of_getElem? (i := 20) rfl))) Via.refl e11 (own_S2 En2 2 (i := 2) (n := "ALL") rfl) (g := (mkF m 87 #[.val (.int p1), .val (.int (0 : Int32)), .val (.ref (A 0)), .val (.ref (A2 0)), .val (.ref (A2 0)), .val (.int (1 : Int32))] [(.ref (A2 0))])) rfl (hb hby at_87)
  refine own_st (V := T12.setTop (mkF m 90 #[.val (.int p1), .val (.int (0 : Int32)), .val (.ref (A 0)), .val (.ref (A2 0)), .val (.ref (A2 0)), .val (.int (1 : Int32))] [(.ref (A2 2)), (.ref (A2 0))])) (fun t k => st12 _ k) ?_
  refine own_st (V := T12.setTop (mkF m 93 #[.val (.int p1), .val (.int (0 : Int32)), .val (.ref (A 0)), .val (.ref (A2 0)), .val (.ref (A2 0)), .val (.int (1 : Int32))] [])) (fun t k => Jvm.RoadKit.acmp (g := (mkF m 90 #[.val (.int p1), .val (.int (0 : Int32)), .val (.ref (A 0)), .val (.ref (A2 0)), .val (.ref (A2 0)), .val (.int (1 : Int32))] [(.ref (A2 2)), (.ref (A2 0))])) X12 hx rfl rfl rfl (pc0 := 90) (pc' := 93) (same := false) rfl (hb hby at_90) rfl (decide_eq_false fun q => own_ne2 En2 0 2 (i := 0) (n := "NONE") (j := 2) (n' := "ALL") rfl rfl (by decide) (Value.ref.inj q)) (by decide) (by decide) k) ?_
  refine own_st (V := T12.setTop (mkF m 95 #[.val (.int p1), .val (.int (0 : Int32)), .val (.ref (A 0)), .val (.ref (A2 0)), .val (.ref (A2 0)), .val (.int (1 : Int32))] [(.int (1 : Int32))])) (fun t k => XS.iload X12.here hx rfl (hb hby at_93) rfl k) ?_
  refine own_st (V := T12.setTop (mkF m 98 #[.val (.int p1), .val (.int (0 : Int32)), .val (.ref (A 0)), .val (.ref (A2 0)), .val (.ref (A2 0)), .val (.int (1 : Int32))] [])) (fun t k => XS.ifNo X12.here hx rfl (hb hby at_95) rfl ((if0 _ _).trans (feq (by decide : ¬ ((1 : Int32) = (0 : Int32)))).1) k) ?_
  refine own_st (V := T12.setTop (mkF m 99 #[.val (.int p1), .val (.int (0 : Int32)), .val (.ref (A 0)), .val (.ref (A2 0)), .val (.ref (A2 0)), .val (.int (1 : Int32))] [(.int (1 : Int32))])) (fun t k => XS.iconst X12.here hx rfl (hb hby at_98) k) ?_
  refine own_st (V := T12.setTop (mkF m 103 #[.val (.int p1), .val (.int (0 : Int32)), .val (.ref (A 0)), .val (.ref (A2 0)), .val (.ref (A2 0)), .val (.int (1 : Int32))] [(.int (1 : Int32))])) (fun t k => XS.goto X12.here hx rfl (pc0 := 99) (pc' := 103) rfl (hb hby at_99) (by decide) (by decide) k) ?_
  exact own_ret X12 hx hlk Bd.returns (by decide +kernel) (Or.inl ⟨rfl, by simp, _, rfl⟩) (hb hby at_103) (by decide) (by decide) (by show own_Q0 Z p1 A A2 h0 n0 _ T12.heap _; rw [e12]; exact ⟨rfl, N11⟩)
set_option maxRecDepth 65536 in
set_option maxHeartbeats 40000000 in
theorem own_law1 (l : Launch) (Z : State) (a0 : Array Value) (hw : ∀ d ∈ tables_1, d.before a0 Z = true) (ws : List Jvm.Cond) (p1 : Int32) (A : Nat → Addr) (A2 : Nat → Addr) (h0 : Heap) (n0 : Nat) (Z0 : n0 ≤ h0.size) (En : own_En Z h0 A) (En2 : own_En2 Z h0 A2) (hk : (p1 &&& (1 : Int32)) = (1 : Int32)) :
    MetFree l x (head1 (Jvm.Cond.code x code maxLocals ret :: ws) room_1) (fun a U => a = #[(.int p1)] ∧ Z.Warmed39 U.vm ∧ U.heap = h0) (fun _ _ _ _ _ => True) (fun _ U o U' => ∃ v L, o = .returned v ∧ own_Q0 Z p1 A A2 h0 n0 v U'.heap L ∧ FrameEnd U o U' L room_1.cells room_1.slots) := by
  refine MetFree.of_bodySF (plainFor_of_name own_pn_com_example_notewright_notewright_ConvertedAmountSettledPinLaw) hisR ?_
  intro p e s m args below meth c s₁ Bd hml0 hP hK
  obtain ⟨rfl, hZ, hh⟩ := hP
  have hx := Bd.exec
  have hby := Bd.bytes
  have hml : c.maxLocals = 6 := hml0
  have hown : s.vm.findClass "com/example/notewright/notewright/ConvertedAmountSettledPinLaw" = some m.cls := findClass_of_methodNamed Bd.named
  have hnm := (name_of_methodNamed Bd.named Bd.method).1
  have hlk : meth.locks = false := BodyLoose.notSynchronized Bd
  have X0 : Stand p l e room_1 s m #[(.int p1)] below meth c s₁ [] 0 0 := Stand.of_body Bd
  have e0 : s₁.heap = h0 := by rw [← hh, Bd.state]; rfl
  have N0 := Fr.nil n0
  show own_Go p e below #[(.int p1)] s (fun _ U o U' => ∃ v L, o = .returned v ∧ own_Q0 Z p1 A A2 h0 n0 v U'.heap L ∧ FrameEnd U o U' L room_1.cells room_1.slots) (s₁.setTop (entryFrame m #[(.int p1)] maxLocals))
  refine own_st (V := s₁.setTop (mkF m 0 #[.val (.int p1), .unset, .unset, .unset, .unset, .unset] [])) (fun t k => castTop (by first | (simp [entryFrame, mkF, argsToLocals, Value.category, maxLocals]; done) | rfl) k) ?_
  refine own_st (V := s₁.setTop (mkF m 1 #[.val (.int p1), .unset, .unset, .unset, .unset, .unset] [(.int p1)])) (fun t k => XS.iloadN X0.here hx rfl (hb hby at_0) rfl k) ?_
  refine own_st (V := s₁.setTop (mkF m 2 #[.val (.int p1), .unset, .unset, .unset, .unset, .unset] [(.int (1 : Int32)), (.int p1)])) (fun t k => XS.iconst X0.here hx rfl (hb hby at_1) k) ?_
  refine own_st (V := s₁.setTop (mkF m 3 #[.val (.int p1), .unset, .unset, .unset, .unset, .unset] [(.int (p1 &&& (1 : Int32)))])) (fun t k => XS.iand X0.here hx rfl (hb hby at_2) rfl k) ?_
  rw [hk]
  refine own_st (V := s₁.setTop (mkF m 6 #[.val (.int p1), .unset, .unset, .unset, .unset, .unset] [])) (fun t k => XS.ifNo X0.here hx rfl (hb hby at_3) rfl ((if0 _ _).trans (feq (by decide : ¬ ((1 : Int32) = (0 : Int32)))).1) k) ?_
  refine own_st (V := s₁.setTop (mkF m 7 #[.val (.int p1), .unset, .unset, .unset, .unset, .unset] [(.int (1 : Int32))])) (fun t k => XS.iconst X0.here hx rfl (hb hby at_6) k) ?_
  refine own_st (V := s₁.setTop (mkF m 11 #[.val (.int p1), .unset, .unset, .unset, .unset, .unset] [(.int (1 : Int32))])) (fun t k => XS.goto X0.here hx rfl (pc0 := 7) (pc' := 11) rfl (hb hby at_7) (by decide) (by decide) k) ?_
  refine own_st (V := s₁.setTop (mkF m 12 #[.val (.int p1), .val (.int (1 : Int32)), .unset, .unset, .unset, .unset] [])) (fun t k => XS.istoreN X0.here hx rfl (hb hby at_11) rfl (l' := #[.val (.int p1), .val (.int (1 : Int32)), .unset, .unset, .unset, .unset]) rfl k) ?_
  refine own_st (V := s₁.setTop (mkF m 13 #[.val (.int p1), .val (.int (1 : Int32)), .unset, .unset, .unset, .unset] [(.int (1 : Int32))])) (fun t k => XS.iloadN X0.here hx rfl (hb hby at_12) rfl k) ?_
  refine own_st (V := s₁.setTop (mkF m 16 #[.val (.int p1), .val (.int (1 : Int32)), .unset, .unset, .unset, .unset] [])) (fun t k => XS.ifNo X0.here hx rfl (hb hby at_13) rfl ((if0 _ _).trans (feq (by decide : ¬ ((1 : Int32) = (0 : Int32)))).1) k) ?_
  obtain ⟨T13, X13, e13, st13⟩ := getS2 X0 hx hZ hown (host := "") (Or.inl (hw _ (List.mem_of_getElem? (i := 22) rfl))) Via.refl e0 (own_S En 1 (i := 1) (n := "PRINCIPAL_AND_INTEREST") rfl) (g := (mkF m 16 #[.val (.int p1), .val (.int (1 : Int32)), .unset, .unset, .unset, .unset] [])) rfl (hb hby at_16)
  refine own_st (V := T13.setTop (mkF m 19 #[.val (.int p1), .val (.int (1 : Int32)), .unset, .unset, .unset, .unset] [(.ref (A 1))])) (fun t k => st13 _ k) ?_
  refine own_st (V := T13.setTop (mkF m 25 #[.val (.int p1), .val (.int (1 : Int32)), .unset, .unset, .unset, .unset] [(.ref (A 1))])) (fun t k => XS.goto X13.here hx rfl (pc0 := 19) (pc' := 25) rfl (hb hby at_19) (by decide) (by decide) k) ?_
  refine own_st (V := T13.setTop (mkF m 26 #[.val (.int p1), .val (.int (1 : Int32)), .val (.ref (A 1)), .unset, .unset, .unset] [])) (fun t k => XS.astoreN X13.here hx rfl (hb hby at_25) rfl rfl (l' := #[.val (.int p1), .val (.int (1 : Int32)), .val (.ref (A 1)), .unset, .unset, .unset]) rfl k) ?_
  refine own_st (V := T13.setTop (mkF m 27 #[.val (.int p1), .val (.int (1 : Int32)), .val (.ref (A 1)), .unset, .unset, .unset] [(.ref (A 1))])) (fun t k => XS.aloadN X13.here hx rfl (hb hby at_26) rfl rfl k) ?_
  obtain ⟨cq14, kq14, q14a, q14b, q14c⟩ := isOf hZ e13 (own_E En 1 (i := 1) (n := "PRINCIPAL_AND_INTEREST") rfl)
  obtain ⟨_, _, ⟨T14, L14, k14, n14⟩, -, X14, ⟨Lc14, hQ14, l14, y14, z14⟩, st14⟩ := X13.virtualBack hx (y := (⟨"com/example/notewright/notewright/ConvertedAmount", "settled", "()Lcom/example/notewright/notewright/SettledInterest;"⟩ : MethodName)) (z := (⟨"com/example/notewright/notewright/ConvertedAmount", "settled", "()Lcom/example/notewright/notewright/SettledInterest;"⟩ : MethodName)) hown (mvT hZ (hw _ (List.mem_of_getElem? (i := 3) rfl))) (mvT hZ (hw _ (List.mem_of_getElem? (i := 4) rfl))) (notFace_of_selects (args := #[]) (mvT hZ (hw _ (List.mem_of_getElem? (i := 6) rfl)))) (mvT hZ (hw _ (List.mem_of_getElem? (i := 6) rfl))) (mvT hZ (hw _ (List.mem_of_getElem? (i := 5) rfl))) (by decide) (backOf (W := 0) (own_set1 l Z a0 hw [] A A2 h0 n0 Z0 En En2 ) hZ (hw _ (List.mem_of_getElem? (i := 7) rfl)) (hw _ (List.mem_of_getElem? (i := 1) rfl)) (by decide) (by decide)) q14a q14c (g := (mkF m 27 #[.val (.int p1), .val (.int (1 : Int32)), .val (.ref (A 1)), .unset, .unset, .unset] [(.ref (A 1))])) rfl (by rw [hml]; rfl) (Steps.refl _) (argsL := []) (rest := []) (lenOf own_pd1 rfl) rfl (by show 2 * 0 + _ ≤ _; exact Nat.le_of_eq rfl) (hb hby at_27) (fun _ _ => ⟨rfl, e13, (by decide : 0 + 0 ≤ _), (by decide : 0 + 0 ≤ _)⟩)
  dsimp only [Pt.U, Pt.locs, Pt.cells, Pt.slots] at X14 l14 y14 z14 st14 hQ14
  subst l14 y14 z14
  obtain ⟨rfl, N14q, e14⟩ := hQ14
  have N14 := Fr.app N0 N14q
  refine own_st (V := T14.setTop (mkF m 30 #[.val (.int p1), .val (.int (1 : Int32)), .val (.ref (A 1)), .unset, .unset, .unset] [(.ref (A2 1))])) (fun t k => st14.trans k) ?_
  refine own_st (V := T14.setTop (mkF m 31 #[.val (.int p1), .val (.int (1 : Int32)), .val (.ref (A 1)), .val (.ref (A2 1)), .unset, .unset] [])) (fun t k => XS.astoreN X14.here hx rfl (hb hby at_30) rfl rfl (l' := #[.val (.int p1), .val (.int (1 : Int32)), .val (.ref (A 1)), .val (.ref (A2 1)), .unset, .unset]) rfl k) ?_
  refine own_st (V := T14.setTop (mkF m 32 #[.val (.int p1), .val (.int (1 : Int32)), .val (.ref (A 1)), .val (.ref (A2 1)), .unset, .unset] [(.int (1 : Int32))])) (fun t k => XS.iloadN X14.here hx rfl (hb hby at_31) rfl k) ?_
  refine own_st (V := T14.setTop (mkF m 35 #[.val (.int p1), .val (.int (1 : Int32)), .val (.ref (A 1)), .val (.ref (A2 1)), .unset, .unset] [])) (fun t k => XS.ifNo X14.here hx rfl (hb hby at_32) rfl ((if0 _ _).trans (feq (by decide : ¬ ((1 : Int32) = (0 : Int32)))).1) k) ?_
  obtain ⟨T15, X15, e15, st15⟩ := getS2 X14 hx hZ hown (host := "") (Or.inl (hw _ (List.mem_of_getElem? (i := 25) rfl))) Via.refl e14 (own_S2 En2 1 (i := 1) (n := "ON_PRINCIPAL") rfl) (g := (mkF m 35 #[.val (.int p1), .val (.int (1 : Int32)), .val (.ref (A 1)), .val (.ref (A2 1)), .unset, .unset] [])) rfl (hb hby at_35)
  refine own_st (V := T15.setTop (mkF m 38 #[.val (.int p1), .val (.int (1 : Int32)), .val (.ref (A 1)), .val (.ref (A2 1)), .unset, .unset] [(.ref (A2 1))])) (fun t k => st15 _ k) ?_
  refine own_st (V := T15.setTop (mkF m 44 #[.val (.int p1), .val (.int (1 : Int32)), .val (.ref (A 1)), .val (.ref (A2 1)), .unset, .unset] [(.ref (A2 1))])) (fun t k => XS.goto X15.here hx rfl (pc0 := 38) (pc' := 44) rfl (hb hby at_38) (by decide) (by decide) k) ?_
  refine own_st (V := T15.setTop (mkF m 46 #[.val (.int p1), .val (.int (1 : Int32)), .val (.ref (A 1)), .val (.ref (A2 1)), .val (.ref (A2 1)), .unset] [])) (fun t k => XS.astore X15.here hx rfl (hb hby at_44) rfl rfl (l' := #[.val (.int p1), .val (.int (1 : Int32)), .val (.ref (A 1)), .val (.ref (A2 1)), .val (.ref (A2 1)), .unset]) rfl k) ?_
  refine own_st (V := T15.setTop (mkF m 47 #[.val (.int p1), .val (.int (1 : Int32)), .val (.ref (A 1)), .val (.ref (A2 1)), .val (.ref (A2 1)), .unset] [(.ref (A2 1))])) (fun t k => XS.aloadN X15.here hx rfl (hb hby at_46) rfl rfl k) ?_
  obtain ⟨T16, X16, e16, st16⟩ := getS2 X15 hx hZ hown (host := "") (Or.inl (hw _ (List.mem_of_getElem? (i := 18) rfl))) Via.refl e15 (own_S2 En2 0 (i := 0) (n := "NONE") rfl) (g := (mkF m 47 #[.val (.int p1), .val (.int (1 : Int32)), .val (.ref (A 1)), .val (.ref (A2 1)), .val (.ref (A2 1)), .unset] [(.ref (A2 1))])) rfl (hb hby at_47)
  refine own_st (V := T16.setTop (mkF m 50 #[.val (.int p1), .val (.int (1 : Int32)), .val (.ref (A 1)), .val (.ref (A2 1)), .val (.ref (A2 1)), .unset] [(.ref (A2 0)), (.ref (A2 1))])) (fun t k => st16 _ k) ?_
  refine own_st (V := T16.setTop (mkF m 57 #[.val (.int p1), .val (.int (1 : Int32)), .val (.ref (A 1)), .val (.ref (A2 1)), .val (.ref (A2 1)), .unset] [])) (fun t k => Jvm.RoadKit.acmp (g := (mkF m 50 #[.val (.int p1), .val (.int (1 : Int32)), .val (.ref (A 1)), .val (.ref (A2 1)), .val (.ref (A2 1)), .unset] [(.ref (A2 0)), (.ref (A2 1))])) X16 hx rfl rfl rfl (pc0 := 50) (pc' := 57) (same := false) rfl (hb hby at_50) rfl (decide_eq_false fun q => own_ne2 En2 1 0 (i := 1) (n := "ON_PRINCIPAL") (j := 0) (n' := "NONE") rfl rfl (by decide) (Value.ref.inj q)) (by decide) (by decide) k) ?_
  refine own_st (V := T16.setTop (mkF m 58 #[.val (.int p1), .val (.int (1 : Int32)), .val (.ref (A 1)), .val (.ref (A2 1)), .val (.ref (A2 1)), .unset] [(.int (0 : Int32))])) (fun t k => XS.iconst X16.here hx rfl (hb hby at_57) k) ?_
  refine own_st (V := T16.setTop (mkF m 59 #[.val (.int p1), .val (.int (1 : Int32)), .val (.ref (A 1)), .val (.ref (A2 1)), .val (.ref (A2 1)), .unset] [(.ref (A 1)), (.int (0 : Int32))])) (fun t k => XS.aloadN X16.here hx rfl (hb hby at_58) rfl rfl k) ?_
  obtain ⟨cq17, kq17, q17a, q17b, q17c⟩ := isOf hZ e16 (own_E En 1 (i := 1) (n := "PRINCIPAL_AND_INTEREST") rfl)
  obtain ⟨_, _, ⟨T17, L17, k17, n17⟩, -, X17, ⟨Lc17, hQ17, l17, y17, z17⟩, st17⟩ := X16.virtualBack hx (y := (⟨"com/example/notewright/notewright/ConvertedAmount", "includesInterest", "()Z"⟩ : MethodName)) (z := (⟨"com/example/notewright/notewright/ConvertedAmount", "includesInterest", "()Z"⟩ : MethodName)) hown (mvT hZ (hw _ (List.mem_of_getElem? (i := 19) rfl))) (mvT hZ (hw _ (List.mem_of_getElem? (i := 9) rfl))) (notFace_of_selects (args := #[]) (mvT hZ (hw _ (List.mem_of_getElem? (i := 11) rfl)))) (mvT hZ (hw _ (List.mem_of_getElem? (i := 11) rfl))) (mvT hZ (hw _ (List.mem_of_getElem? (i := 10) rfl))) (by decide) (backOf (W := 1) (own_inc1 l Z a0 hw [] A A2 h0 n0 Z0 En En2 ) hZ (hw _ (List.mem_of_getElem? (i := 12) rfl)) (hw _ (List.mem_of_getElem? (i := 1) rfl)) (by decide) (by decide)) q17a q17c (g := (mkF m 59 #[.val (.int p1), .val (.int (1 : Int32)), .val (.ref (A 1)), .val (.ref (A2 1)), .val (.ref (A2 1)), .unset] [(.ref (A 1)), (.int (0 : Int32))])) rfl (by rw [hml]; rfl) (Steps.refl _) (argsL := []) (rest := [(.int (0 : Int32))]) (lenOf own_pd0 rfl) rfl (by show 2 * 0 + _ ≤ _; exact Nat.le_of_eq rfl) (hb hby at_59) (fun _ _ => ⟨rfl, e16, (by decide : 0 + 0 ≤ _), (by decide : 0 + 0 ≤ _)⟩)
  dsimp only [Pt.U, Pt.locs, Pt.cells, Pt.slots] at X17 l17 y17 z17 st17 hQ17
  subst l17 y17 z17
  obtain ⟨rfl, N17q, e17⟩ := hQ17
  have N17 := Fr.app N14 N17q
  refine own_st (V := T17.setTop (mkF m 62 #[.val (.int p1), .val (.int (1 : Int32)), .val (.ref (A 1)), .val (.ref (A2 1)), .val (.ref (A2 1)), .unset] [(.int (1 : Int32)), (.int (0 : Int32))])) (fun t k => st17.trans k) ?_
  refine own_st (V := T17.setTop (mkF m 69 #[.val (.int p1), .val (.int (1 : Int32)), .val (.ref (A 1)), .val (.ref (A2 1)), .val (.ref (A2 1)), .unset] [(.int (0 : Int32))])) (fun t k => XS.ifYes X17.here hx rfl (pc0 := 62) (pc' := 69) rfl (hb hby at_62) rfl ((if0 _ _).trans (feq (by decide : ¬ ((1 : Int32) = (0 : Int32)))).2) (by decide) (by decide) k) ?_
  refine own_st (V := T17.setTop (mkF m 70 #[.val (.int p1), .val (.int (1 : Int32)), .val (.ref (A 1)), .val (.ref (A2 1)), .val (.ref (A2 1)), .unset] [(.int (0 : Int32)), (.int (0 : Int32))])) (fun t k => XS.iconst X17.here hx rfl (hb hby at_69) k) ?_
  refine own_st (V := T17.setTop (mkF m 73 #[.val (.int p1), .val (.int (1 : Int32)), .val (.ref (A 1)), .val (.ref (A2 1)), .val (.ref (A2 1)), .unset] [])) (fun t k => XS.icmpNo X17.here hx rfl (hb hby at_70) rfl (teq (by decide : (0 : Int32) = (0 : Int32))).2 k) ?_
  refine own_st (V := T17.setTop (mkF m 74 #[.val (.int p1), .val (.int (1 : Int32)), .val (.ref (A 1)), .val (.ref (A2 1)), .val (.ref (A2 1)), .unset] [(.int (1 : Int32))])) (fun t k => XS.iconst X17.here hx rfl (hb hby at_73) k) ?_
  refine own_st (V := T17.setTop (mkF m 78 #[.val (.int p1), .val (.int (1 : Int32)), .val (.ref (A 1)), .val (.ref (A2 1)), .val (.ref (A2 1)), .unset] [(.int (1 : Int32))])) (fun t k => XS.goto X17.here hx rfl (pc0 := 74) (pc' := 78) rfl (hb hby at_74) (by decide) (by decide) k) ?_
  refine own_st (V := T17.setTop (mkF m 80 #[.val (.int p1), .val (.int (1 : Int32)), .val (.ref (A 1)), .val (.ref (A2 1)), .val (.ref (A2 1)), .val (.int (1 : Int32))] [])) (fun t k => XS.istore X17.here hx rfl (hb hby at_78) rfl (l' := #[.val (.int p1), .val (.int (1 : Int32)), .val (.ref (A 1)), .val (.ref (A2 1)), .val (.ref (A2 1)), .val (.int (1 : Int32))]) rfl k) ?_
  refine own_st (V := T17.setTop (mkF m 81 #[.val (.int p1), .val (.int (1 : Int32)), .val (.ref (A 1)), .val (.ref (A2 1)), .val (.ref (A2 1)), .val (.int (1 : Int32))] [(.ref (A2 1))])) (fun t k => XS.aloadN X17.here hx rfl (hb hby at_80) rfl rfl k) ?_
  refine own_st (V := T17.setTop (mkF m 83 #[.val (.int p1), .val (.int (1 : Int32)), .val (.ref (A 1)), .val (.ref (A2 1)), .val (.ref (A2 1)), .val (.int (1 : Int32))] [(.ref (A2 1)), (.ref (A2 1))])) (fun t k => XS.aload X17.here hx rfl (hb hby at_81) rfl rfl k) ?_
  refine own_st (V := T17.setTop (mkF m 86 #[.val (.int p1), .val (.int (1 : Int32)), .val (.ref (A 1)), .val (.ref (A2 1)), .val (.ref (A2 1)), .val (.int (1 : Int32))] [])) (fun t k => Jvm.RoadKit.acmp (g := (mkF m 83 #[.val (.int p1), .val (.int (1 : Int32)), .val (.ref (A 1)), .val (.ref (A2 1)), .val (.ref (A2 1)), .val (.int (1 : Int32))] [(.ref (A2 1)), (.ref (A2 1))])) X17 hx rfl rfl rfl (pc0 := 83) (pc' := 86) (same := true) rfl (hb hby at_83) rfl (decide_eq_true rfl) (by decide) (by decide) k) ?_
  refine own_st (V := T17.setTop (mkF m 87 #[.val (.int p1), .val (.int (1 : Int32)), .val (.ref (A 1)), .val (.ref (A2 1)), .val (.ref (A2 1)), .val (.int (1 : Int32))] [(.ref (A2 1))])) (fun t k => XS.aloadN X17.here hx rfl (hb hby at_86) rfl rfl k) ?_
  obtain ⟨T18, X18, e18, st18⟩ := getS2 X17 hx hZ hown (host := "") (Or.inl (hw _ (List.mem_of_getElem? (i := 20) rfl))) Via.refl e17 (own_S2 En2 2 (i := 2) (n := "ALL") rfl) (g := (mkF m 87 #[.val (.int p1), .val (.int (1 : Int32)), .val (.ref (A 1)), .val (.ref (A2 1)), .val (.ref (A2 1)), .val (.int (1 : Int32))] [(.ref (A2 1))])) rfl (hb hby at_87)
  refine own_st (V := T18.setTop (mkF m 90 #[.val (.int p1), .val (.int (1 : Int32)), .val (.ref (A 1)), .val (.ref (A2 1)), .val (.ref (A2 1)), .val (.int (1 : Int32))] [(.ref (A2 2)), (.ref (A2 1))])) (fun t k => st18 _ k) ?_
  refine own_st (V := T18.setTop (mkF m 93 #[.val (.int p1), .val (.int (1 : Int32)), .val (.ref (A 1)), .val (.ref (A2 1)), .val (.ref (A2 1)), .val (.int (1 : Int32))] [])) (fun t k => Jvm.RoadKit.acmp (g := (mkF m 90 #[.val (.int p1), .val (.int (1 : Int32)), .val (.ref (A 1)), .val (.ref (A2 1)), .val (.ref (A2 1)), .val (.int (1 : Int32))] [(.ref (A2 2)), (.ref (A2 1))])) X18 hx rfl rfl rfl (pc0 := 90) (pc' := 93) (same := false) rfl (hb hby at_90) rfl (decide_eq_false fun q => own_ne2 En2 1 2 (i := 1) (n := "ON_PRINCIPAL") (j := 2) (n' := "ALL") rfl rfl (by decide) (Value.ref.inj q)) (by decide) (by decide) k) ?_
  refine own_st (V := T18.setTop (mkF m 95 #[.val (.int p1), .val (.int (1 : Int32)), .val (.ref (A 1)), .val (.ref (A2 1)), .val (.ref (A2 1)), .val (.int (1 : Int32))] [(.int (1 : Int32))])) (fun t k => XS.iload X18.here hx rfl (hb hby at_93) rfl k) ?_
  refine own_st (V := T18.setTop (mkF m 98 #[.val (.int p1), .val (.int (1 : Int32)), .val (.ref (A 1)), .val (.ref (A2 1)), .val (.ref (A2 1)), .val (.int (1 : Int32))] [])) (fun t k => XS.ifNo X18.here hx rfl (hb hby at_95) rfl ((if0 _ _).trans (feq (by decide : ¬ ((1 : Int32) = (0 : Int32)))).1) k) ?_
  refine own_st (V := T18.setTop (mkF m 99 #[.val (.int p1), .val (.int (1 : Int32)), .val (.ref (A 1)), .val (.ref (A2 1)), .val (.ref (A2 1)), .val (.int (1 : Int32))] [(.int (1 : Int32))])) (fun t k => XS.iconst X18.here hx rfl (hb hby at_98) k) ?_
  refine own_st (V := T18.setTop (mkF m 103 #[.val (.int p1), .val (.int (1 : Int32)), .val (.ref (A 1)), .val (.ref (A2 1)), .val (.ref (A2 1)), .val (.int (1 : Int32))] [(.int (1 : Int32))])) (fun t k => XS.goto X18.here hx rfl (pc0 := 99) (pc' := 103) rfl (hb hby at_99) (by decide) (by decide) k) ?_
  exact own_ret X18 hx hlk Bd.returns (by decide +kernel) (Or.inl ⟨rfl, by simp, _, rfl⟩) (hb hby at_103) (by decide) (by decide) (by show own_Q0 Z p1 A A2 h0 n0 _ T18.heap _; rw [e18]; exact ⟨rfl, N17⟩)
theorem own_law (l : Launch) (Z : State) (a0 : Array Value) (hw : ∀ d ∈ tables_1, d.before a0 Z = true) (ws : List Jvm.Cond) (p1 : Int32) (A : Nat → Addr) (A2 : Nat → Addr) (h0 : Heap) (n0 : Nat) (Z0 : n0 ≤ h0.size) (En : own_En Z h0 A) (En2 : own_En2 Z h0 A2) :
    MetFree l x (head1 (Jvm.Cond.code x code maxLocals ret :: ws) room_1) (fun a U => a = #[(.int p1)] ∧ Z.Warmed39 U.vm ∧ U.heap = h0) (fun _ _ _ _ _ => True) (fun _ U o U' => ∃ v L, o = .returned v ∧ own_Q0 Z p1 A A2 h0 n0 v U'.heap L ∧ FrameEnd U o U' L room_1.cells room_1.slots) := by
  rcases own_c p1 with h | h
  · exact own_law0 l Z a0 hw ws p1 A A2 h0 n0 Z0 En En2 h
  · exact own_law1 l Z a0 hw ws p1 A A2 h0 n0 Z0 En En2 h
set_option maxRecDepth 65536 in
set_option maxHeartbeats 40000000 in
theorem comes_1 {Post : Tables → Env → Array Value → State → Outcome → State → Prop} (hpost : ∀ tb e args s v u, (limb_1_1.after args s (.returned v) u = true ∧ limb_1_2.after args s (.returned v) u = true ∧ True) → FrameEnd s (.returned v) u (Jvm.fieldLocs frame_1_writes args s ++ Jvm.arrayLocs frame_1_arrays args s ++ Jvm.staticLocs frame_1_statics s) 0 0 → Post tb e args s (.returned v) u) :
    ArmFor flags0 classFile x code maxLocals ret World_1 tables_1 room_1 Calls_1 rest_1 Pre_1 Post := by
  intro l hfl _ _ p e ha hc hk s m args below hf hA hF happ hP
  obtain ⟨hcalls, hrest, hpre⟩ := hP
  obtain ⟨-, -, -, hnamed, -, -, -, hat⟩ := (Spec.applies_iff hf).mp happ
  obtain ⟨hg, hn⟩ := and_e (Cond.before_iff.mp (show (Jvm.Cond.and given_1 narrow_1).before args s = true from hpre))
  obtain ⟨g0, g1⟩ := and_e hg
  obtain ⟨w0, rfl⟩ : ∃ w0 : Value, args = #[w0] := by
    have hs : args.size = 1 := by simpa [Cond.value, given_1] using g0
    obtain ⟨L⟩ := args
    match L, hs with
    | [w0], _ => exact ⟨w0, rfl⟩
  have hw := fun d (hd : d ∈ tables_1) => atoms_spec (ws := Jvm.Cond.code x code maxLocals ret :: tables_1) hat d (List.mem_cons_of_mem _ hd)
  have hfit : Fit s := fun {y c} hc i hi => by
    obtain ⟨ha, rfl⟩ := Array.getElem?_eq_some_iff.mp hc
    have q := List.all_eq_true.mp ((Array.all_eq_true_iff_forall_mem.mp hF) _ (Array.getElem_mem ha)) i (List.mem_range.mpr hi)
    simpa [Array.getElem?_eq_getElem hi] using q
  obtain ⟨i0, ei0⟩ := is_v g1
  obtain rfl : w0 = (.int i0) := Option.some.inj ei0
  obtain ⟨nz0, nr0⟩ := and_e hn
  obtain ⟨nz1, nr1⟩ := and_e nr0
  obtain ⟨nz2, nr2⟩ := and_e nr1
  obtain ⟨nz3, nr3⟩ := and_e nr2
  obtain ⟨nz4, nr4⟩ := and_e nr3
  obtain ⟨nz5, nr5⟩ := and_e nr4
  obtain ⟨nz6, nr6⟩ := and_e nr5
  obtain ⟨nz7, nr7⟩ := and_e nr6
  obtain ⟨nz8, nr8⟩ := and_e nr7
  have nz9 := nr8
  obtain ⟨a0, S0, E0, v0⟩ := own_sta nz0 (hw _ (List.mem_of_getElem? (i := 1) rfl)) (hw _ (List.mem_of_getElem? (i := 2) rfl))
  obtain ⟨a1, S1, E1, v1⟩ := own_sta nz1 (hw _ (List.mem_of_getElem? (i := 1) rfl)) (hw _ (List.mem_of_getElem? (i := 14) rfl))
  let A : Nat → Addr := fun i => [a0, a1].getD i 0
  have En : own_En s s.heap A := by
    intro q hq
    simp only [own_cs, List.mem_cons, List.not_mem_nil, or_false] at hq
    rcases hq with rfl | rfl
    · exact ⟨S0, E0, own_fld v0 nz2⟩
    · exact ⟨S1, E1, own_fld v1 nz3⟩
  obtain ⟨a20, S20, E20, v20⟩ := own_sta nz4 (hw _ (List.mem_of_getElem? (i := 16) rfl)) (hw _ (List.mem_of_getElem? (i := 17) rfl))
  obtain ⟨a21, S21, E21, v21⟩ := own_sta nz8 (hw _ (List.mem_of_getElem? (i := 16) rfl)) (hw _ (List.mem_of_getElem? (i := 24) rfl))
  obtain ⟨a22, S22, E22, v22⟩ := own_sta nz5 (hw _ (List.mem_of_getElem? (i := 16) rfl)) (hw _ (List.mem_of_getElem? (i := 21) rfl))
  let A2 : Nat → Addr := fun i => [a20, a21, a22].getD i 0
  have En2 : own_En2 s s.heap A2 := by
    intro q hq
    simp only [own_cs2, List.mem_cons, List.not_mem_nil, or_false] at hq
    rcases hq with rfl | rfl | rfl
    · exact ⟨S20, E20, own_fld v20 nz6⟩
    · exact ⟨S21, E21, own_fld v21 nz9⟩
    · exact ⟨S22, E22, own_fld v22 nz7⟩
  obtain ⟨n, o, h1, h2, h3, _, L, rfl, ⟨rfl, N⟩, hq⟩ := own_law l s _ hw tables_1 i0 A A2 s.heap s.heap.size (Nat.le_refl _) En En2 p e ha hc hk s m _ below hf ((Spec.applies_iff_loose hf).mp happ).1 ⟨rfl, State.Warmed39.refl s, rfl⟩ trivial
  refine ⟨n, _, h1, h2, h3, hpost _ _ _ _ _ _ ⟨Cond.after_iff.mpr rfl, Cond.after_iff.mpr (eq_i res_at (Term.int_eval (1)) rfl), trivial⟩ ⟨hq.1, hq.2.1, (hq.2.2.sift fun y hy => Or.inr (N y hy)).mono (by decide) (by decide)⟩⟩
theorem main_1_1 : Claimed_1_1 := comes_1 fun _ _ _ _ _ _ h hF => ⟨h.1, hF⟩
theorem main_1_2 : Claimed_1_2 := comes_1 fun _ _ _ _ _ _ h hF => ⟨h.2.1, hF⟩
end Jvm.Pilot.@@N@@
namespace Jvm.Pilot.@@N@@
open Jvm Jvm.ClassFile Sem Op Lib Jvm.Free Jvm.Stand Jvm.Pilot.@@N@@.Jvm.D
/-! MADE BY PROGRAM (witnessworld.py) out of the Statement's table words and the real class files: 13 classes; the members and pool entries that the words name. The judged class is class 1, her method 1. -/
namespace start1
open Jvm.ClassFile
def u (s : String) : CpInfo := .utf8 (stringToUtf16 s)
/-- a pool by its gaps: so many unusable entries, then the entry; so many at the end -/
def gap : Nat → List CpInfo → List CpInfo
  | 0, r => r
  | n + 1, r => .unusable :: gap n r
def poolList (es : List (Nat × CpInfo)) (last : Nat) : List CpInfo := es.foldr (fun e r => gap e.1 (e.2 :: r)) (gap last [])
def pool (es : List (Nat × CpInfo)) (last : Nat) : Array CpInfo := ⟨poolList es last⟩
def fileOf (pool : Array CpInfo) (this : Nat) (attrs : Array Attribute := #[]) (ms : Array MethodInfo := #[]) (fl : Nat := 33) (sup : Nat := 0) (ifs : Array Nat := #[]) (fds : Array FieldInfo := #[]) : ClassFile where
  minorVersion := 0
  majorVersion := 65
  constantPool := pool
  accessFlags := fl
  thisClass := this
  superClass := sup
  interfaces := ifs
  fields := fds
  methods := ms
  attributes := attrs
def plain (name : String) (sup : Option ClassId) : Class where
  name := name
  kind := .ordinary
  loader := none
  accessFlags := 33
  super := sup
  interfaces := #[]
  cf := none
  fields := #[]
  methods := #[]
  instanceTypes := #[]
  staticTypes := #[]
  resolved := #[]
  callSites := []
  init := .initialized
  statics := none
  mirror := none

def pool0 : Array CpInfo := pool [(5, u "<init>"), (0, u "()V"), (1, .class_ 10), (1, u "java/lang/Object")] 113

def k0m0 : Method := { name := "<init>", desc := "()V", sig := { parameters := [], returnType := none }, accessFlags := 1, code := none }
/-- java/lang/Object -/
def k0 : Class := { plain "java/lang/Object" none with
  accessFlags := 33
  interfaces := #[]
  cf := some (fileOf pool0 8 #[] #[{ accessFlags := 1, nameIndex := 5, descriptorIndex := 6, attributes := #[] }] 33 0 #[] #[])
  fields := #[]
  methods := #[k0m0]
  instanceTypes := #[]
  staticTypes := #[]
  resolved := Array.replicate 124 none
  statics := none }

def pool1 : Array CpInfo := pool [(2, .class_ 4), (1, u "java/lang/Object"), (0, u "<init>"), (0, u "()V"), (0, .fieldref 8 9), (0, .class_ 10), (0, .nameAndType 11 12), (0, u "com/example/notewright/notewright/ConvertedAmount"), (0, u "PRINCIPAL_AND_INTEREST"), (0, u "Lcom/example/notewright/notewright/ConvertedAmount;"), (0, .fieldref 8 14), (0, .nameAndType 15 12), (0, u "PRINCIPAL"), (0, .methodref 8 17), (0, .nameAndType 18 19), (0, u "settled"), (0, u "()Lcom/example/notewright/notewright/SettledInterest;"), (0, .fieldref 21 22), (0, .class_ 23), (0, .nameAndType 24 25), (0, u "com/example/notewright/notewright/SettledInterest"), (0, u "ON_PRINCIPAL"), (0, u "Lcom/example/notewright/notewright/SettledInterest;"), (0, .fieldref 21 27), (0, .nameAndType 28 25), (0, u "NONE"), (0, .methodref 8 30), (0, .nameAndType 31 32), (0, u "includesInterest"), (0, u "()Z"), (0, .fieldref 21 34), (0, .nameAndType 35 25), (0, u "ALL"), (0, .class_ 37), (0, u "com/example/notewright/notewright/ConvertedAmountSettledPinLaw"), (2, u "law"), (0, u "(I)Z")] 3

def k1m0 : Method := { name := "<init>", desc := "()V", sig := { parameters := [], returnType := none }, accessFlags := 1, code := none }
def k1c1 : Code := { maxStack := 2, maxLocals := 6, code := code, exceptionTable := #[], attributes := #[] }
def k1m1 : Method := { name := "law", desc := "(I)Z", sig := { parameters := [.int], returnType := some .boolean }, accessFlags := 9, code := some k1c1 }
/-- com/example/notewright/notewright/ConvertedAmountSettledPinLaw -/
def k1 : Class := { plain "com/example/notewright/notewright/ConvertedAmountSettledPinLaw" (some 0) with
  accessFlags := 49
  interfaces := #[]
  cf := some (fileOf pool1 36 #[] #[{ accessFlags := 1, nameIndex := 5, descriptorIndex := 6, attributes := #[] }, { accessFlags := 9, nameIndex := 40, descriptorIndex := 41, attributes := #[] }] 49 2 #[] #[])
  fields := #[]
  methods := #[k1m0, k1m1]
  instanceTypes := #[]
  staticTypes := #[]
  resolved := Array.replicate 45 none
  statics := none }

def pool2 : Array CpInfo := pool [(1, .class_ 2), (0, u "java/lang/constant/Constable"), (0, .class_ 4), (0, u "java/lang/Object")] 6

/-- java/lang/constant/Constable -/
def k2 : Class := { plain "java/lang/constant/Constable" (some 0) with
  accessFlags := 1537
  interfaces := #[]
  cf := some (fileOf pool2 1 #[] #[] 1537 3 #[] #[])
  fields := #[]
  methods := #[]
  instanceTypes := #[]
  staticTypes := #[]
  resolved := Array.replicate 11 none
  statics := none }

def pool3 : Array CpInfo := pool [(1, .class_ 2), (0, u "java/lang/Comparable"), (0, .class_ 4), (0, u "java/lang/Object")] 7

/-- java/lang/Comparable -/
def k3 : Class := { plain "java/lang/Comparable" (some 0) with
  accessFlags := 1537
  interfaces := #[]
  cf := some (fileOf pool3 1 #[] #[] 1537 3 #[] #[])
  fields := #[]
  methods := #[]
  instanceTypes := #[]
  staticTypes := #[]
  resolved := Array.replicate 12 none
  statics := none }

def pool4 : Array CpInfo := pool [(1, .class_ 2), (0, u "java/io/Serializable"), (0, .class_ 4), (0, u "java/lang/Object")] 2

/-- java/io/Serializable -/
def k4 : Class := { plain "java/io/Serializable" (some 0) with
  accessFlags := 1537
  interfaces := #[]
  cf := some (fileOf pool4 1 #[] #[] 1537 3 #[] #[])
  fields := #[]
  methods := #[]
  instanceTypes := #[]
  staticTypes := #[]
  resolved := Array.replicate 7 none
  statics := none }

def pool5 : Array CpInfo := pool [(2, .class_ 4), (1, u "java/lang/Enum"), (0, u "name"), (0, u "Ljava/lang/String;"), (2, u "ordinal"), (0, u "I"), (1, .class_ 14), (1, u "java/lang/Object"), (4, u "hash"), (86, .class_ 108), (1, u "java/lang/Enum$EnumDesc"), (2, .class_ 112), (0, u "java/lang/constant/Constable"), (0, .class_ 114), (0, u "java/lang/Comparable"), (0, .class_ 116), (0, u "java/io/Serializable")] 87

/-- java/lang/Enum -/
def k5 : Class := { plain "java/lang/Enum" (some 0) with
  accessFlags := 1057
  interfaces := #[2, 3, 4]
  cf := some (fileOf pool5 2 #[.nestMembers #[106]] #[] 1057 12 #[111, 113, 115] #[{ accessFlags := 18, nameIndex := 5, descriptorIndex := 6, attributes := #[] }, { accessFlags := 18, nameIndex := 9, descriptorIndex := 10, attributes := #[] }, { accessFlags := 2, nameIndex := 19, descriptorIndex := 10, attributes := #[] }])
  fields := #[{ name := "name", type := (.object "java/lang/String"), accessFlags := 18, slot := 0, constantValue := 0 }, { name := "ordinal", type := .int, accessFlags := 18, slot := 1, constantValue := 0 }, { name := "hash", type := .int, accessFlags := 2, slot := 2, constantValue := 0 }]
  methods := #[]
  instanceTypes := #[(.object "java/lang/String"), .int, .int]
  staticTypes := #[]
  resolved := Array.replicate 204 none
  statics := none }

def pool6 : Array CpInfo := pool [(1, .class_ 2), (0, u "com/example/notewright/notewright/ConvertedAmount"), (2, u "PRINCIPAL"), (0, u "Lcom/example/notewright/notewright/ConvertedAmount;"), (0, .fieldref 1 8), (0, .nameAndType 9 6), (0, u "PRINCIPAL_AND_INTEREST"), (2, u "$VALUES"), (0, u "[Lcom/example/notewright/notewright/ConvertedAmount;"), (6, .class_ 22), (1, u "java/lang/Enum"), (6, .methodref 1 30), (0, .nameAndType 31 32), (0, u "includesInterest"), (0, u "()Z"), (0, .fieldref 34 35), (0, .class_ 36), (0, .nameAndType 37 38), (0, u "com/example/notewright/notewright/SettledInterest"), (0, u "ON_PRINCIPAL"), (0, u "Lcom/example/notewright/notewright/SettledInterest;"), (0, .fieldref 34 40), (0, .nameAndType 41 38), (0, u "NONE"), (15, u "settled"), (0, u "()Lcom/example/notewright/notewright/SettledInterest;")] 4

def k6c0 : Code := { maxStack := 2, maxLocals := 1, code := prog_13_method_4_code, exceptionTable := #[], attributes := #[] }
def k6m0 : Method := { name := "includesInterest", desc := "()Z", sig := { parameters := [], returnType := some .boolean }, accessFlags := 1, code := some k6c0 }
def k6c1 : Code := { maxStack := 1, maxLocals := 1, code := prog_13_method_5_code, exceptionTable := #[], attributes := #[] }
def k6m1 : Method := { name := "settled", desc := "()Lcom/example/notewright/notewright/SettledInterest;", sig := { parameters := [], returnType := some (.object "com/example/notewright/notewright/SettledInterest") }, accessFlags := 0, code := some k6c1 }
/-- com/example/notewright/notewright/ConvertedAmount -/
def k6 : Class := { plain "com/example/notewright/notewright/ConvertedAmount" (some 5) with
  accessFlags := 16433
  interfaces := #[]
  cf := some (fileOf pool6 1 #[] #[{ accessFlags := 1, nameIndex := 31, descriptorIndex := 32, attributes := #[] }, { accessFlags := 0, nameIndex := 57, descriptorIndex := 58, attributes := #[] }] 16433 20 #[] #[{ accessFlags := 16409, nameIndex := 5, descriptorIndex := 6, attributes := #[] }, { accessFlags := 16409, nameIndex := 9, descriptorIndex := 6, attributes := #[] }, { accessFlags := 4122, nameIndex := 12, descriptorIndex := 13, attributes := #[] }])
  fields := #[{ name := "PRINCIPAL", type := (.object "com/example/notewright/notewright/ConvertedAmount"), accessFlags := 16409, slot := 0, constantValue := 0 }, { name := "PRINCIPAL_AND_INTEREST", type := (.object "com/example/notewright/notewright/ConvertedAmount"), accessFlags := 16409, slot := 1, constantValue := 0 }, { name := "$VALUES", type := (.array (.object "com/example/notewright/notewright/ConvertedAmount")), accessFlags := 4122, slot := 2, constantValue := 0 }]
  methods := #[k6m0, k6m1]
  instanceTypes := #[(.object "java/lang/String"), .int, .int]
  staticTypes := #[(.object "com/example/notewright/notewright/ConvertedAmount"), (.object "com/example/notewright/notewright/ConvertedAmount"), (.array (.object "com/example/notewright/notewright/ConvertedAmount"))]
  resolved := Array.replicate 63 none
  statics := some 0 }

def pool7 : Array CpInfo := pool [(1, .class_ 2), (0, u "com/example/notewright/notewright/SettledInterest"), (2, u "NONE"), (0, u "Lcom/example/notewright/notewright/SettledInterest;"), (2, u "ON_PRINCIPAL"), (2, u "ALL"), (2, u "$VALUES"), (0, u "[Lcom/example/notewright/notewright/SettledInterest;"), (6, .class_ 25), (1, u "java/lang/Enum")] 25

/-- com/example/notewright/notewright/SettledInterest -/
def k7 : Class := { plain "com/example/notewright/notewright/SettledInterest" (some 5) with
  accessFlags := 16432
  interfaces := #[]
  cf := some (fileOf pool7 1 #[] #[] 16432 23 #[] #[{ accessFlags := 16409, nameIndex := 5, descriptorIndex := 6, attributes := #[] }, { accessFlags := 16409, nameIndex := 9, descriptorIndex := 6, attributes := #[] }, { accessFlags := 16409, nameIndex := 12, descriptorIndex := 6, attributes := #[] }, { accessFlags := 4122, nameIndex := 15, descriptorIndex := 16, attributes := #[] }])
  fields := #[{ name := "NONE", type := (.object "com/example/notewright/notewright/SettledInterest"), accessFlags := 16409, slot := 0, constantValue := 0 }, { name := "ON_PRINCIPAL", type := (.object "com/example/notewright/notewright/SettledInterest"), accessFlags := 16409, slot := 1, constantValue := 0 }, { name := "ALL", type := (.object "com/example/notewright/notewright/SettledInterest"), accessFlags := 16409, slot := 2, constantValue := 0 }, { name := "$VALUES", type := (.array (.object "com/example/notewright/notewright/SettledInterest")), accessFlags := 4122, slot := 3, constantValue := 0 }]
  methods := #[]
  instanceTypes := #[(.object "java/lang/String"), .int, .int]
  staticTypes := #[(.object "com/example/notewright/notewright/SettledInterest"), (.object "com/example/notewright/notewright/SettledInterest"), (.object "com/example/notewright/notewright/SettledInterest"), (.array (.object "com/example/notewright/notewright/SettledInterest"))]
  resolved := Array.replicate 51 none
  statics := some 1 }

def pool8 : Array CpInfo := pool [(1, u "java/lang/Cloneable"), (0, .class_ 1), (0, u "java/lang/Object"), (0, .class_ 3)] 3

/-- java/lang/Cloneable -/
def k8 : Class := { plain "java/lang/Cloneable" (some 0) with
  accessFlags := 1537
  interfaces := #[]
  cf := some (fileOf pool8 2 #[] #[] 1537 4 #[] #[])
  fields := #[]
  methods := #[]
  instanceTypes := #[]
  staticTypes := #[]
  resolved := Array.replicate 8 none
  statics := none }

/-- the primitive byte -/
def k9 : Class := { plain "byte" none with kind := .primitive 'B', accessFlags := 0x411 }
/-- [B -/
def k10 : Class := { plain "[B" (some 0) with kind := .array 9 .byte, interfaces := #[8, 4], accessFlags := 1041 }

/-- the primitive int -/
def k11 : Class := { plain "int" none with kind := .primitive 'I', accessFlags := 0x411 }
/-- [I -/
def k12 : Class := { plain "[I" (some 0) with kind := .array 11 .int, interfaces := #[8, 4], accessFlags := 1041 }

def heap : Heap := #[{ cls := 6, slots := #[.ref 2, .ref 3, .null], vm := .statics 6 },
  { cls := 7, slots := #[.ref 4, .ref 5, .ref 6, .null], vm := .statics 7 },
  { cls := 6, slots := #[.null, .int 0, .int 0], vm := .none },
  { cls := 6, slots := #[.null, .int 1, .int 0], vm := .none },
  { cls := 7, slots := #[.null, .int 0, .int 0], vm := .none },
  { cls := 7, slots := #[.null, .int 1, .int 0], vm := .none },
  { cls := 7, slots := #[.null, .int 2, .int 0], vm := .none }]
def classes : Array Class := #[k0, k1, k2, k3, k4, k5, k6, k7, k8, k9, k10, k11, k12]
def interned : List (Array UInt16 × Addr) := []
def slotsUsed : Nat := 22
def theMethod : MethodId := ⟨1, 1⟩
def args0 : Array Value := #[.int 5]
def aboutOver (below : List Frame) : State where
  vm := { classes := classes, interned := interned.toArray }
  heap := heap
  slotsUsed := slotsUsed
  threads := #[{ frames := .invoking theMethod args0 :: below }]
def below0 : List Frame := [.native { method := ⟨0, 0⟩, args := #[] }]
def about1 : State := aboutOver below0
def p0 : Program := .bare "" "" ""
def e0 : Env := launch0.env 0 0 0
theorem w_frames : about1.frames = Frame.invoking theMethod args0 :: below0 := rfl
set_option maxRecDepth 65536 in
theorem w_args : argsFit about1.vm theMethod args0 = true := by decide +kernel
set_option maxRecDepth 65536 in
theorem w_heap : heapFits about1 = true := by decide +kernel
set_option maxRecDepth 65536 in
theorem w_runnable : about1.curStatus? = some .runnable := by decide +kernel
set_option maxRecDepth 65536 in
theorem w_alone : about1.alone = true := by decide +kernel
set_option maxRecDepth 65536 in
theorem w_named : about1.methodNamed? x = some theMethod := by decide +kernel
set_option maxRecDepth 65536 in
theorem w_hears : about1.hears theMethod below0 = true := by decide +kernel
set_option maxRecDepth 65536 in
theorem w_ripe : about1.ripe theMethod args0 below0 = true := by decide +kernel
theorem w_running : about1.status = .running := rfl
set_option maxRecDepth 65536 in
theorem w_room : about1.hasRoom e0.platform room_1 = true :=
  launch0.hasRoom_least _ room_1 (by decide +kernel) (by decide +kernel) (by decide +kernel) (by decide +kernel) (by decide +kernel) (by decide +kernel)
theorem allAtoms_all (ts : List Jvm.Cond) (a : Array Jvm.Value) (st : Jvm.State) : (allAtoms ts).before a st = ts.all (fun c => c.before a st) := by
  induction ts with
  | nil => rfl
  | cons c t ih =>
    show (Jvm.Cond.and c (allAtoms t)).before a st = _
    rw [Jvm.Cond.before_and, ih, List.all_cons]
def words1 : List Jvm.Cond := Jvm.Cond.code x code maxLocals ret :: tables_1
/-- a 'code' word, met by the world's own term for the bytes: nothing is compared byte by byte -/
theorem code_word {y : MethodName} {bytes : ByteArray} {mx : Nat} {rt : Option FieldType} {a : Array Value} {s : State} {m : MethodId} {meth : Method} {c : Code} (h1 : s.methodNamed? y = some m) (h2 : s.vm.method? m = some meth) (h3 : meth.code = some c) (h4 : c.code = bytes)
    (h5 : (c.maxLocals == mx && c.exceptionTable.isEmpty && decide (c.maxStack ≤ mostOperands) && decide (meth.sig.returnType = rt) && !meth.locks && decide (parseMethodDescriptor y.desc = some meth.sig)) = true) : (Jvm.Cond.code y bytes mx rt).before a s = true := by
  simp only [Bool.and_eq_true, beq_iff_eq, Bool.not_eq_true', decide_eq_true_eq] at h5
  obtain ⟨⟨⟨⟨⟨g1, g2⟩, g3⟩, g4⟩, g5⟩, g6⟩ := h5
  simp [Cond.before, Cond.holds, Cond.value, h1, h2, h3, h4, g1, g2, g3, g4, g5, g6]
def isCode : Jvm.Cond → Bool
  | .code _ _ _ _ => true
  | _ => false
theorem all_split {L : List Jvm.Cond} {P : Jvm.Cond → Bool} (h1 : L.all (fun c => isCode c || P c) = true) (h2 : ∀ c ∈ L.filter isCode, P c = true) : L.all P = true := by
  refine List.all_eq_true.mpr fun c hc => ?_
  have h := List.all_eq_true.mp h1 c hc
  rcases Bool.eq_false_or_eq_true (isCode c) with hi | hi
  · exact h2 c (List.mem_filter.mpr ⟨hc, hi⟩)
  · simpa [hi] using h
set_option maxRecDepth 65536 in
theorem w_c0 : (Jvm.Cond.code x code maxLocals ret).before args0 about1 = true := code_word (m := ⟨1, 1⟩) (meth := k1m1) (c := k1c1) (by decide +kernel) rfl rfl rfl (by decide +kernel)
set_option maxRecDepth 65536 in
theorem w_c1 : (Jvm.Cond.code ({ cls := "com/example/notewright/notewright/ConvertedAmount", name := "settled", desc := "()Lcom/example/notewright/notewright/SettledInterest;" } : Jvm.MethodName) prog_13_method_5_code (1 : Nat) (Option.some (Jvm.ClassFile.FieldType.object "com/example/notewright/notewright/SettledInterest"))).before args0 about1 = true := code_word (m := ⟨6, 1⟩) (meth := k6m1) (c := k6c1) (by decide +kernel) rfl rfl rfl (by decide +kernel)
set_option maxRecDepth 65536 in
theorem w_c2 : (Jvm.Cond.code ({ cls := "com/example/notewright/notewright/ConvertedAmount", name := "includesInterest", desc := "()Z" } : Jvm.MethodName) prog_13_method_4_code (1 : Nat) (Option.some Jvm.ClassFile.FieldType.boolean)).before args0 about1 = true := code_word (m := ⟨6, 0⟩) (meth := k6m0) (c := k6c0) (by decide +kernel) rfl rfl rfl (by decide +kernel)
def codes1 : List Jvm.Cond := [Jvm.Cond.code x code maxLocals ret, Jvm.Cond.code ({ cls := "com/example/notewright/notewright/ConvertedAmount", name := "settled", desc := "()Lcom/example/notewright/notewright/SettledInterest;" } : Jvm.MethodName) prog_13_method_5_code (1 : Nat) (Option.some (Jvm.ClassFile.FieldType.object "com/example/notewright/notewright/SettledInterest")), Jvm.Cond.code ({ cls := "com/example/notewright/notewright/ConvertedAmount", name := "includesInterest", desc := "()Z" } : Jvm.MethodName) prog_13_method_4_code (1 : Nat) (Option.some Jvm.ClassFile.FieldType.boolean)]
set_option maxRecDepth 65536 in
theorem codes_eq : words1.filter isCode = codes1 := rfl
theorem w_codes : ∀ c ∈ words1.filter isCode, c.before args0 about1 = true := by
  rw [codes_eq]
  intro c hc
  simp only [codes1, List.mem_cons, List.not_mem_nil, or_false] at hc
  rcases hc with rfl | rfl | rfl
  · exact w_c0
  · exact w_c1
  · exact w_c2
set_option maxRecDepth 65536 in
theorem w_t1 : (words1.take 24).all (fun c => isCode c || c.before args0 about1) = true := by decide +kernel
set_option maxRecDepth 65536 in
theorem w_t2 : (words1.drop 24).all (fun c => isCode c || c.before args0 about1) = true := by decide +kernel
theorem w_tables : (allAtoms (Jvm.Cond.code x code maxLocals ret :: tables_1)).before args0 about1 = true := by
  rw [allAtoms_all]
  show words1.all (fun c => c.before args0 about1) = true
  refine all_split ?_ w_codes
  rw [← List.take_append_drop 24 words1, List.all_append, w_t1, w_t2]
  rfl
set_option maxRecDepth 65536 in
theorem w_case : (Jvm.Cond.and given_1 narrow_1).before args0 about1 = true := by decide +kernel
theorem w_applies : (headSpec (Jvm.Cond.code x code maxLocals ret :: tables_1) room_1).applies x e0.platform about1 = true :=
  (Spec.applies_iff w_frames).mpr ⟨w_running, w_runnable, w_alone, w_named, w_hears, w_ripe, w_room, w_tables⟩
theorem atStart : AtStart classFile x code maxLocals ret World_1 tables_1 room_1 Calls_1 rest_1 Pre_1 launch0 p0 e0 about1 theMethod args0 below0 :=
  ⟨lists_1, trivial, launch0.admits_env _ _ _, launch0.least_env, fairChoices_fair.cas, fairChoices_fair.clock, w_frames, w_args, w_heap, w_applies, trivial, trivial, w_case⟩
end start1
theorem witness_1 : WitnessClaimed_1 := ⟨start1.p0, start1.e0, start1.about1, start1.theMethod, start1.args0, start1.below0, start1.atStart⟩
end Jvm.Pilot.@@N@@
